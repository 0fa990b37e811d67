import JvmDerived
import JvmDerived.Pilot.@@N@@Statement
import JvmDerived.Pilot.@@N@@Code
set_option linter.unusedVariables false
set_option linter.unusedSimpArgs false
namespace Jvm.RoadKit
open Sem ClassFile Op Lib Jvm.Stand Jvm.Free Jvm.LawKit
section New
variable {p : Program} {l : Launch} {e : Env} {R : Room} {s : State} {m : MethodId} {args : Array Value} {below : List Frame} {meth : Method} {c : Code} {T : State} {locs : List Loc} {cells slots : Nat}
theorem retI (X : Stand p l e R s m args below meth c T locs cells slots) (hx : p.tables.exec = Jvm.exec) {pc : Nat} {Ls : Array Slot} {z : Int32} {rest : List Value} (hret : meth.sig.returnType = some .int) (hd : decode c.code pc = .ok (.ireturn, 1)) {fs : List Frame}
    (hl : ∀ (f : JFrame) (acts : List Action), f.method = m → f.locked = none → f.entered = [] → (doReturn e (T.setTop f) acts (some (.int z))).1 = T.setFrames fs) : Steps p.tables e below (T.setTop (mkF m pc Ls (.int z :: rest))) (T.setFrames fs) := by
  have hm' : T.vm.method? m = some meth := X.method'
  have hn : narrow .int (.int z) = .int z := rfl
  show Steps p.tables e below (T.setTop { method := m, pc := pc, locals := Ls, stack := _ :: rest, locked := none }) _
  jvm_step X.here [X.here.top, hx, hd, hm', hret, hn]
  first | (intro acts; rw [hl _ acts rfl rfl rfl]) | rw [hl _ _ rfl rfl rfl]
  exact Steps.refl _
end New
end Jvm.RoadKit
namespace Jvm.Pilot.@@N@@
open Jvm Jvm.ClassFile Sem Op Lib Jvm.Free Jvm.Stand Jvm.LawKit Jvm.RoadKit Bundle Jvm.Pilot.@@N@@.Jvm.D
def Goes (tb : Tables) (e : Env) (below : List Frame) (Q : Outcome → State → Prop) (A : State) : Prop := ∃ s₂ o, Steps tb e below A s₂ ∧ s₂.status = .running ∧ Ended s₂ below o ∧ Q o s₂
theorem Goes.step {tb : Tables} {e : Env} {below : List Frame} {Q : Outcome → State → Prop} {A B : State} (h : ∀ t, Steps tb e below A t → Steps tb e below B t) (k : Goes tb e below Q A) : Goes tb e below Q B := by
  obtain ⟨s₂, o, h1, h2⟩ := k
  exact ⟨s₂, o, h _ h1, h2⟩
theorem Goes.start {tb : Tables} {e : Env} {below : List Frame} {Q : Outcome → State → Prop} {A B : State} (h : ∀ t, Steps tb e below A t → Steps tb e below B t) (k : Goes tb e below Q A) : ∃ s₂ o, Steps tb e below B s₂ ∧ s₂.status = .running ∧ Ended s₂ below o ∧ Q o s₂ := Goes.step h k
theorem Goes.done {tb : Tables} {e : Env} {below : List Frame} {Q : Outcome → State → Prop} {A s₂ : State} {o : Outcome} (h1 : Steps tb e below A s₂) (h2 : s₂.status = .running) (h3 : Ended s₂ below o) (h4 : Q o s₂) : Goes tb e below Q A := ⟨s₂, o, h1, h2, h3, h4⟩
theorem own_wS {a0 : Array Value} {Z : State} (hw : ∀ d ∈ tables_1, d.before a0 Z = true) : ∀ a ∈ Bundle.stringAtoms, a.before a0 Z = true := by
  intro d hd
  simp only [Bundle.stringAtoms, List.mem_cons, List.not_mem_nil, or_false] at hd
  rcases hd with rfl | rfl | rfl | rfl | rfl | rfl | rfl
  · exact hw _ (List.mem_of_getElem? (i := 6) rfl)
  · exact hw _ (List.mem_of_getElem? (i := 7) rfl)
  · exact hw _ (List.mem_of_getElem? (i := 8) rfl)
  · exact hw _ (List.mem_of_getElem? (i := 9) rfl)
  · exact hw _ (List.mem_of_getElem? (i := 10) rfl)
  · exact hw _ (List.mem_of_getElem? (i := 11) rfl)
  · exact hw _ (List.mem_of_getElem? (i := 12) rfl)
theorem own_hw {a0 : Array Value} {Z s : State} (hZ : Z.Warmed39 s.vm) (hw : ∀ d ∈ tables_1, d.before a0 Z = true) : ∀ d ∈ tables_1, d.before a0 s = true := by
  intro d hd
  simp only [tables_1, List.mem_cons, List.not_mem_nil, or_false] at hd
  rcases hd with rfl | rfl | rfl | rfl | rfl | rfl | rfl | rfl | rfl | rfl | rfl | rfl | rfl | rfl | rfl | rfl | rfl
  · exact mv hZ (hw _ (List.mem_of_getElem? (i := 0) rfl))
  · exact mv hZ (hw _ (List.mem_of_getElem? (i := 1) rfl))
  · exact mv hZ (hw _ (List.mem_of_getElem? (i := 2) rfl))
  · exact mv hZ (hw _ (List.mem_of_getElem? (i := 3) rfl))
  · exact mv hZ (hw _ (List.mem_of_getElem? (i := 4) rfl))
  · exact mvS (s := s) hZ (hw _ (List.mem_of_getElem? (i := 5) rfl))
  · exact mv hZ (hw _ (List.mem_of_getElem? (i := 6) rfl))
  · exact mv hZ (hw _ (List.mem_of_getElem? (i := 7) rfl))
  · exact mvA hZ (hw _ (List.mem_of_getElem? (i := 8) rfl))
  · exact mv hZ (hw _ (List.mem_of_getElem? (i := 9) rfl))
  · exact mv hZ (hw _ (List.mem_of_getElem? (i := 10) rfl))
  · exact mv hZ (hw _ (List.mem_of_getElem? (i := 11) rfl))
  · exact mv hZ (hw _ (List.mem_of_getElem? (i := 12) rfl))
  · exact mvS (s := s) hZ (hw _ (List.mem_of_getElem? (i := 13) rfl))
  · exact mv hZ (hw _ (List.mem_of_getElem? (i := 14) rfl))
  · exact mv hZ (hw _ (List.mem_of_getElem? (i := 15) rfl))
  · exact mv hZ (hw _ (List.mem_of_getElem? (i := 16) rfl))
theorem own_ref {args : Array Value} {s : State} {own text : String} {i : Nat} {a : Addr} (w : (Jvm.Cond.stringLink own i text).before args s = true) (L : Lit s own i a) : (Jvm.Cond.stringRef own i text).before args s = true := by
  unfold Lit at L
  simp only [Cond.before, Cond.holds, Cond.value, L] at w ⊢
  cases h : s.vm.findClass own with
  | none => simp [h] at w
  | some cc =>
    simp only [h, Option.map_some] at w ⊢
    simp_all
section OwnCold
variable {p : Program} {l : Launch} {e : Env} {R : Room} {s : State} {vm0 : Vm} {m : MethodId} {args : Array Value} {below : List Frame} {meth : Method} {c : Code} {T : State} {locs : List Loc} {cells slots : Nat} {Z : State} {a0 : Array Value} {h : Heap}
theorem own_ldcL (X : Stand p l e R (s.setVm vm0) m args below meth c T locs cells slots) (hx : p.tables.exec = Jvm.exec) (hZ : Z.Warmed39 vm0) {own text : String} {index : Nat} (hown : vm0.findClass own = some m.cls) (hw : ∀ d ∈ tables_1, d.before a0 Z = true) (w : (Jvm.Cond.stringLink own index text).before a0 Z = true)
    (eT : T.heap = h) {k0 : Nat} (hS : s.Since vm0 k0) (hk : k0 ≤ h.size) {g : JFrame} (hg : g.method = m) (hd : decode c.code g.pc = .ok (.ldc index, 2)) {n : Nat} (hn : 4 * text.toList.length ≤ n) (hbig : n ≤ 536870912) (hc : cells + 2 ≤ R.cells) (hl : slots + (n + 4) ≤ R.slots) :
    ∃ (a : Addr) (T' : State) (h' : Heap) (k1 : Nat), Stand p l e R (s.setVm T'.vm) m args below meth c T' locs (cells + 2) (slots + (n + 4)) ∧ T'.heap = h' ∧ Ext h h' ∧ s.Since T'.vm k1 ∧ k1 ≤ h'.size ∧ Z.Warmed39 (s.setVm T'.vm).vm ∧ (s.setVm T'.vm).vm.findClass own = some m.cls ∧ (s.setVm vm0).Warmed39 T'.vm ∧ Lit (s.setVm T'.vm) own index a ∧
      ∀ target, Steps p.tables e below (T'.setTop { g with pc := g.pc + 2, stack := .ref a :: g.stack }) target → Steps p.tables e below (T.setTop g) target := by
  have hw0 := own_hw (s := s.setVm vm0) hZ hw
  have hws : ∀ d ∈ Bundle.stringAtoms, d.before args (s.setVm vm0) = true := fun d hd => by
    have q := own_wS hw0 d hd
    simp only [Bundle.stringAtoms, List.mem_cons, List.not_mem_nil, or_false] at hd
    rcases hd with rfl | rfl | rfl | rfl | rfl | rfl | rfl
    · exact mv (State.Warmed39.refl (s.setVm vm0)) q
    · exact mv (State.Warmed39.refl (s.setVm vm0)) q
    · exact mvA (State.Warmed39.refl (s.setVm vm0)) q
    · exact mv (State.Warmed39.refl (s.setVm vm0)) q
    · exact mv (State.Warmed39.refl (s.setVm vm0)) q
    · exact mv (State.Warmed39.refl (s.setVm vm0)) q
    · exact mv (State.Warmed39.refl (s.setVm vm0)) q
  obtain ⟨a, T', X', hS', ⟨kk, hkk, hrr⟩, hb, -, st⟩ := X.ldcStringCold hx (own := own) hown (mvS hZ w) hws hg hd hn hbig hc hl
  subst eT
  have E := ext_of hb
  have hf : (s.setVm T'.vm).vm.findClass own = some m.cls := by rw [show (s.setVm T'.vm).vm = T'.vm from rfl, hS'.1.alike.findClass]; exact hown
  have hf' : T'.vm.findClass own = some m.cls := hf
  exact ⟨a, T', _, _, X', rfl, E, hS.trans hS' (Nat.le_trans hk E.1), Nat.le_refl _, State.Warmed39.trans (t := s.setVm vm0) hZ hS'.1, hf, hS'.1, by simp [Lit, State.resolvedAt?, hf', hkk, hrr], st⟩
theorem own_backL {y : MethodName} {bytes : ByteArray} {maxL : Nat} {ret : Option FieldType} {rm : Room} {len W : Nat} {as' : Array Value} {Q : Option Value → Heap → List Loc → Prop}
    (hM : MetFree l y (head1 [Jvm.Cond.code y bytes maxL ret] rm) (fun a U => a = as' ∧ Z.Warmed39 U.vm ∧ U.heap = h) (fun _ _ _ _ _ => True) (fun _ U o U' => ∃ v L, o = .returned v ∧ Q v U'.heap L ∧ (∃ a b : Addr, Lit U' "com/example/key_lock/keylock/lock/Limits" 100 a ∧ Lit U' "com/example/key_lock/keylock/lock/Limits" 102 b) ∧ ReturnedEndW U o U' L rm.cells rm.slots))
    (hZ : Z.Warmed39 s.vm) (wc : (Jvm.Cond.code y bytes maxL ret).before a0 Z = true) (wz : (Jvm.Cond.initialized y.cls).before a0 Z = true) (hf : rm.frames + 1 ≤ R.frames) (hl : W + (maxL + 11) + rm.locals ≤ R.locals) :
    BackS l R p e below s args y len W (fun A a => a = as' ∧ A.U.heap = h ∧ A.cells + rm.cells ≤ R.cells ∧ A.slots + rm.slots ≤ R.slots)
      (fun A _ v B => ∃ L, Q v B.U.heap L ∧ B.locs = A.locs ++ L ∧ B.cells = A.cells + rm.cells ∧ B.slots = A.slots + rm.slots ∧ (∃ a b : Addr, Lit B.U "com/example/key_lock/keylock/lock/Limits" 100 a ∧ Lit B.U "com/example/key_lock/keylock/lock/Limits" 102 b)) :=
  BackS.of_freeW (bytes := bytes) (maxL := maxL) (ret := ret) (E := fun _ _ o t L k n => k = rm.cells ∧ n = rm.slots ∧ (∃ v, o = .returned v ∧ Q v t.heap L) ∧ (∃ a b : Addr, Lit t "com/example/key_lock/keylock/lock/Limits" 100 a ∧ Lit t "com/example/key_lock/keylock/lock/Limits" 102 b)) hM hf hl
    (fun m meth c A a Y hp => have hU : Z.Warmed39 A.U.vm := wtrans hZ Y.warmed
      ⟨by show (Jvm.Cond.and _ .tt).before a A.U = true; rw [Cond.before_and, mv hU wc]; rfl, mv hU wc, mv hU wz, hp.2.2.1, hp.2.2.2⟩)
    (fun m meth c A a g mk Y hp => ⟨hp.1, wtrans hZ Y.warmed, hp.2.1⟩) (fun _ _ _ _ _ _ _ _ _ => trivial)
    (fun _ _ _ _ ⟨v, L, h1, h2, h3, h4⟩ => ⟨L, _, _, h4, rfl, rfl, ⟨v, h1, h2⟩, h3⟩)
    (fun m meth c A a g mk v t L k n Y hp _ _ ⟨e1, e2, ⟨v', e3, e4⟩, e5⟩ => by cases e3; subst e1 e2; exact ⟨L, e4, rfl, rfl, rfl, e5⟩)
end OwnCold
theorem own_r (x : Int32) : ¬ ((1 : Int32) + ((x &&& (2147483647 : Int32)) % (1000 : Int32))) < (1 : Int32) ∧ ¬ (1000 : Int32) < ((1 : Int32) + ((x &&& (2147483647 : Int32)) % (1000 : Int32))) := by
  have e := c_mask x 2147483647 31 (by decide) (by decide)
  have k : (1000 : Int32).toInt = 1000 := by decide
  have o : (1 : Int32).toInt = 1 := by decide
  have g := rng32 x
  have m := (c_irem (x &&& 2147483647) 1000 1000 k).1 (by rw [e]; omega)
  have a := c_iadd 1 ((x &&& 2147483647) % 1000)
  have r := rng32 (1 + ((x &&& 2147483647) % 1000))
  rw [o] at a
  rw [Int32.lt_iff_toInt_lt, Int32.lt_iff_toInt_lt, k, o]
  omega
theorem ef_2 (m : MethodId) (x0 : Int32) (x1 : Int32) (x2 : Addr) (x3 : Addr) : entryFrame m #[(.int x0), (.int x1), (.ref x2), (.ref x3)] 4 = mkF m 0 #[.val (.int x0), .val (.int x1), .val (.ref x2), .val (.ref x3)] [] := by first | (simp [entryFrame, mkF, argsToLocals, Value.category]; done) | rfl
def Q2 (Z : State) (p0 : Int32) (p1 : Int32) (p2 : Addr) (p3 : Addr) (h0 : Heap) (n0 : Nat) (v : Option Value) (h : Heap) (L : List Loc) : Prop := v = some (.int p1) ∧ Fr n0 L ∧ h = h0
theorem d2_0 : decode prog_8_method_7_code 0 = .ok (.iload_n 1, 1) := by decide +kernel
theorem d2_1 : decode prog_8_method_7_code 1 = .ok (.iconst 1, 1) := by decide +kernel
theorem d2_2 : decode prog_8_method_7_code 2 = .ok (.if_icmp .lt 8, 3) := by decide +kernel
theorem d2_5 : decode prog_8_method_7_code 5 = .ok (.iload_n 1, 1) := by decide +kernel
theorem d2_6 : decode prog_8_method_7_code 6 = .ok (.iload_n 0, 1) := by decide +kernel
theorem d2_7 : decode prog_8_method_7_code 7 = .ok (.if_icmp .le 20, 3) := by decide +kernel
theorem d2_27 : decode prog_8_method_7_code 27 = .ok (.iload_n 1, 1) := by decide +kernel
theorem d2_28 : decode prog_8_method_7_code 28 = .ok (.ireturn, 1) := by decide +kernel
theorem pn_2 : plainName "com/example/key_lock/keylock/lock/Limits" = true := by first | (simp [plainName, overriddenIn]; done) | decide +kernel
set_option maxRecDepth 65536 in
set_option maxHeartbeats 40000000 in
theorem rm2 (l : Launch) (Z : State) (a0 : Array Value) (hw : ∀ d ∈ tables_1, d.before a0 Z = true) (ws : List Jvm.Cond) (p0 : Int32) (p1 : Int32) (p2 : Addr) (p3 : Addr) (h0 : Heap) (n0 : Nat) (Z0 : n0 ≤ h0.size) (hlo : ¬ p1 < (1 : Int32)) (hhi : ¬ p0 < p1) :
    MetFree l (⟨"com/example/key_lock/keylock/lock/Limits", "oneTo", "(IILjava/lang/String;Ljava/lang/String;)I"⟩ : MethodName) (head1 (Jvm.Cond.code (⟨"com/example/key_lock/keylock/lock/Limits", "oneTo", "(IILjava/lang/String;Ljava/lang/String;)I"⟩ : MethodName) prog_8_method_7_code 4 (some .int) :: ws) ({ frames := 0, cells := 0, slots := 0, locals := 0 } : Room)) (fun a U => a = #[(.int p0), (.int p1), (.ref p2), (.ref p3)] ∧ Z.Warmed39 U.vm ∧ U.heap = h0) (fun _ _ _ _ _ => True) (fun _ U o U' => ∃ v L, o = .returned v ∧ Q2 Z p0 p1 p2 p3 h0 n0 v U'.heap L ∧ FrameEnd U o U' L ({ frames := 0, cells := 0, slots := 0, locals := 0 } : Room).cells ({ frames := 0, cells := 0, slots := 0, locals := 0 } : Room).slots) := by
  refine MetFree.of_bodySF (plainFor_of_name pn_2) hisR ?_
  intro p e s m args below meth c s₁ Bd hml0 hP hK
  obtain ⟨rfl, hZ, hh⟩ := hP
  have hx := Bd.exec
  have hby := Bd.bytes
  have hml : c.maxLocals = 4 := hml0
  have hown : s.vm.findClass "com/example/key_lock/keylock/lock/Limits" = some m.cls := findClass_of_methodNamed Bd.named
  have hnm := (name_of_methodNamed Bd.named Bd.method).1
  have X0 : Stand p l e ({ frames := 0, cells := 0, slots := 0, locals := 0 } : Room) s m #[(.int p0), (.int p1), (.ref p2), (.ref p3)] below meth c s₁ [] 0 0 := Stand.of_body Bd
  have e0 : s₁.heap = h0 := by rw [← hh, Bd.state]; rfl
  have N0 := Fr.nil n0
  refine Goes.start (Q := (fun o U' => ∃ v L, o = .returned v ∧ Q2 Z p0 p1 p2 p3 h0 n0 v U'.heap L ∧ FrameEnd s o U' L ({ frames := 0, cells := 0, slots := 0, locals := 0 } : Room).cells ({ frames := 0, cells := 0, slots := 0, locals := 0 } : Room).slots)) (A := s₁.setTop (mkF m 0 #[.val (.int p0), .val (.int p1), .val (.ref p2), .val (.ref p3)] [])) (fun t k => castTop (ef_2 m p0 p1 p2 p3) k) ?_
  refine Goes.step (A := s₁.setTop (mkF m 2 #[.val (.int p0), .val (.int p1), .val (.ref p2), .val (.ref p3)] [(.int (1 : Int32)), (.int p1)])) (fun t kt => ?_) ?_
  · refine XS.iloadN X0.here hx rfl (hb hby d2_0) rfl ?_
    show Steps p.tables e below (s₁.setTop (mkF m 1 #[.val (.int p0), .val (.int p1), .val (.ref p2), .val (.ref p3)] [(.int p1)])) _
    refine XS.iconst X0.here hx rfl (hb hby d2_1) ?_
    exact kt
  refine Goes.step (A := s₁.setTop (mkF m 5 #[.val (.int p0), .val (.int p1), .val (.ref p2), .val (.ref p3)] [])) (fun t kt => XS.icmpNo X0.here hx rfl (hb hby d2_2) rfl (flt (hlo : ¬ (p1 < (1 : Int32)))).1 kt) ?_
  refine Goes.step (A := s₁.setTop (mkF m 7 #[.val (.int p0), .val (.int p1), .val (.ref p2), .val (.ref p3)] [(.int p0), (.int p1)])) (fun t kt => ?_) ?_
  · refine XS.iloadN X0.here hx rfl (hb hby d2_5) rfl ?_
    show Steps p.tables e below (s₁.setTop (mkF m 6 #[.val (.int p0), .val (.int p1), .val (.ref p2), .val (.ref p3)] [(.int p1)])) _
    refine XS.iloadN X0.here hx rfl (hb hby d2_6) rfl ?_
    exact kt
  refine Goes.step (A := s₁.setTop (mkF m 27 #[.val (.int p0), .val (.int p1), .val (.ref p2), .val (.ref p3)] [])) (fun t kt => XS.icmpYes X0.here hx rfl (pc0 := 7) (pc' := 27) rfl (hb hby d2_7) rfl (flt (hhi : ¬ (p0 < p1))).2.2.2 (by decide) (by decide) kt) ?_
  refine Goes.step (A := s₁.setTop (mkF m 28 #[.val (.int p0), .val (.int p1), .val (.ref p2), .val (.ref p3)] [(.int p1)])) (fun t kt => ?_) ?_
  · refine XS.iloadN X0.here hx rfl (hb hby d2_27) rfl ?_
    exact kt
  obtain ⟨fs, hr, hrun, hended, hW, hsame⟩ := X0.leave (v := some (.int p1)) (fun h => by rw [Bd.returns] at h; cases h)
  refine Goes.done ?_ hrun hended ⟨_, _, rfl, ?_, ⟨_, rfl⟩, hW, hsame.mono (by decide) (by decide)⟩
  · exact retI X0 hx Bd.returns (hb hby d2_28) hr
  · show Q2 Z p0 p1 p2 p3 h0 n0 _ s₁.heap _
    rw [e0]
    exact ⟨rfl, N0, rfl⟩
theorem ef_1 (m : MethodId) (x0 : Int32) : entryFrame m #[(.int x0)] 1 = mkF m 0 #[.val (.int x0)] [] := by first | (simp [entryFrame, mkF, argsToLocals, Value.category]; done) | rfl
def Q1 (Z : State) (p0 : Int32) (h0 : Heap) (n0 : Nat) (v : Option Value) (h : Heap) (L : List Loc) : Prop := v = some (.int p0) ∧ Fr n0 L ∧ h0.size ≤ h.size
theorem d1_0 : decode prog_8_method_6_code 0 = .ok (.sipush 1000, 3) := by decide +kernel
theorem d1_3 : decode prog_8_method_6_code 3 = .ok (.iload_n 0, 1) := by decide +kernel
theorem d1_4 : decode prog_8_method_6_code 4 = .ok (.ldc 100, 2) := by decide +kernel
theorem d1_6 : decode prog_8_method_6_code 6 = .ok (.ldc 102, 2) := by decide +kernel
theorem d1_8 : decode prog_8_method_6_code 8 = .ok (.invokestatic 62, 3) := by decide +kernel
theorem d1_11 : decode prog_8_method_6_code 11 = .ok (.ireturn, 1) := by decide +kernel
theorem pn_1 : plainName "com/example/key_lock/keylock/lock/Limits" = true := by first | (simp [plainName, overriddenIn]; done) | decide +kernel
theorem pd_0 : parseMethodDescriptor "(IILjava/lang/String;Ljava/lang/String;)I" = some ⟨[.int, .int, (.object "java/lang/String"), (.object "java/lang/String")], some .int⟩ := by decide +kernel
set_option maxRecDepth 65536 in
set_option maxHeartbeats 40000000 in
theorem rm1 (l : Launch) (Z : State) (a0 : Array Value) (hw : ∀ d ∈ tables_1, d.before a0 Z = true) (ws : List Jvm.Cond) (p0 : Int32) (h0 : Heap) (n0 : Nat) (Z0 : n0 ≤ h0.size) (hlo : ¬ p0 < (1 : Int32)) (hhi : ¬ (1000 : Int32) < p0) :
    MetFree l (⟨"com/example/key_lock/keylock/lock/Limits", "checkAttempts", "(I)I"⟩ : MethodName) (head1 (Jvm.Cond.code (⟨"com/example/key_lock/keylock/lock/Limits", "checkAttempts", "(I)I"⟩ : MethodName) prog_8_method_6_code 1 (some .int) :: ws) ({ frames := 1, cells := 4, slots := 60, locals := 15 } : Room)) (fun a U => a = #[(.int p0)] ∧ Z.Warmed39 U.vm ∧ U.heap = h0) (fun _ _ _ _ _ => True) (fun _ U o U' => ∃ v L, o = .returned v ∧ Q1 Z p0 h0 n0 v U'.heap L ∧ (∃ a b : Addr, Lit U' "com/example/key_lock/keylock/lock/Limits" 100 a ∧ Lit U' "com/example/key_lock/keylock/lock/Limits" 102 b) ∧ ReturnedEndW U o U' L ({ frames := 1, cells := 4, slots := 60, locals := 15 } : Room).cells ({ frames := 1, cells := 4, slots := 60, locals := 15 } : Room).slots) := by
  refine MetFree.of_bodySF (plainFor_of_name pn_1) hisR ?_
  intro p e s m args below meth c s₁ Bd hml0 hP hK
  obtain ⟨rfl, hZ, hh⟩ := hP
  have hx := Bd.exec
  have hby := Bd.bytes
  have hml : c.maxLocals = 1 := hml0
  have hown : s.vm.findClass "com/example/key_lock/keylock/lock/Limits" = some m.cls := findClass_of_methodNamed Bd.named
  have hnm := (name_of_methodNamed Bd.named Bd.method).1
  have X0 : Stand p l e ({ frames := 1, cells := 4, slots := 60, locals := 15 } : Room) s m #[(.int p0)] below meth c s₁ [] 0 0 := Stand.of_body Bd
  have e0 : s₁.heap = h0 := by rw [← hh, Bd.state]; rfl
  have N0 := Fr.nil n0
  refine Goes.start (Q := (fun o U' => ∃ v L, o = .returned v ∧ Q1 Z p0 h0 n0 v U'.heap L ∧ (∃ a b : Addr, Lit U' "com/example/key_lock/keylock/lock/Limits" 100 a ∧ Lit U' "com/example/key_lock/keylock/lock/Limits" 102 b) ∧ ReturnedEndW s o U' L ({ frames := 1, cells := 4, slots := 60, locals := 15 } : Room).cells ({ frames := 1, cells := 4, slots := 60, locals := 15 } : Room).slots)) (A := s₁.setTop (mkF m 0 #[.val (.int p0)] [])) (fun t k => castTop (ef_1 m p0) k) ?_
  have X0 : Stand p l e ({ frames := 1, cells := 4, slots := 60, locals := 15 } : Room) (s.setVm s.vm) m #[(.int p0)] below meth c s₁ [] 0 0 := X0
  have hS : s.Since s.vm h0.size := (State.WarmedH.refl s).since _
  have hk : h0.size ≤ h0.size := Nat.le_refl _
  have hZ : Z.Warmed39 (s.setVm s.vm).vm := hZ
  have hown : (s.setVm s.vm).vm.findClass "com/example/key_lock/keylock/lock/Limits" = some m.cls := hown
  refine Goes.step (A := s₁.setTop (mkF m 4 #[.val (.int p0)] [(.int p0), (.int (1000 : Int32))])) (fun t kt => ?_) ?_
  · refine XS.sipush X0.here hx rfl (hb hby d1_0) ?_
    show Steps p.tables e below (s₁.setTop (mkF m 3 #[.val (.int p0)] [(.int (1000 : Int32))])) _
    refine XS.iloadN X0.here hx rfl (hb hby d1_3) rfl ?_
    exact kt
  obtain ⟨a1, T1, h1, k1, X1, e1, E1, hS1, hk1, hZ1, hown1, hv1, Li1, st1⟩ := own_ldcL X0 hx hZ hown hw (hw _ (List.mem_of_getElem? (i := 5) rfl)) e0 hS hk (g := (mkF m 4 #[.val (.int p0)] [(.int p0), (.int (1000 : Int32))])) rfl (hb hby d1_4) (n := 20) (by decide) (by decide) (by decide) (by decide)
  have hZ := hZ1
  have hown := hown1
  have hS := hS1
  have hk := hk1
  have Z1 : n0 ≤ h1.size := Nat.le_trans Z0 E1.1
  refine Goes.step (A := T1.setTop (mkF m 6 #[.val (.int p0)] [(.ref a1), (.int p0), (.int (1000 : Int32))])) (fun t kt => st1 _ kt) ?_
  obtain ⟨a2, T2, h2, k2, X2, e2, E2, hS2, hk2, hZ2, hown2, hv2, Li2, st2⟩ := own_ldcL X1 hx hZ hown hw (hw _ (List.mem_of_getElem? (i := 13) rfl)) e1 hS hk (g := (mkF m 6 #[.val (.int p0)] [(.ref a1), (.int p0), (.int (1000 : Int32))])) rfl (hb hby d1_6) (n := 32) (by decide) (by decide) (by decide) (by decide)
  have hZ := hZ2
  have hown := hown2
  have hS := hS2
  have hk := hk2
  have Z2 : n0 ≤ h2.size := Nat.le_trans Z1 E2.1
  refine Goes.step (A := T2.setTop (mkF m 8 #[.val (.int p0)] [(.ref a2), (.ref a1), (.int p0), (.int (1000 : Int32))])) (fun t kt => st2 _ kt) ?_
  obtain ⟨_, _, ⟨T3, L3, k3, n3⟩, -, X3, ⟨Lc3, hQ3, l3, y3, z3⟩, st3⟩ := Jvm.LawKit.callS X2 hx (y := (⟨"com/example/key_lock/keylock/lock/Limits", "oneTo", "(IILjava/lang/String;Ljava/lang/String;)I"⟩ : MethodName)) hown (mvT hZ (hw _ (List.mem_of_getElem? (i := 14) rfl))) (mvT hZ (hw _ (List.mem_of_getElem? (i := 15) rfl))) (mvT hZ (hw _ (List.mem_of_getElem? (i := 3) rfl))) (mvT hZ (hw _ (List.mem_of_getElem? (i := 16) rfl))) (by decide) (backOf (W := 0) (rm2 l Z a0 hw [] (1000 : Int32) p0 a1 a2 h2 n0 Z2 hlo hhi) hZ (hw _ (List.mem_of_getElem? (i := 16) rfl)) (hw _ (List.mem_of_getElem? (i := 3) rfl)) (by decide) (by decide)) (g := (mkF m 8 #[.val (.int p0)] [(.ref a2), (.ref a1), (.int p0), (.int (1000 : Int32))])) rfl (by rw [hml]; rfl) (argsL := [(.int (1000 : Int32)), (.int p0), (.ref a1), (.ref a2)]) (rest := []) (lenOf pd_0 rfl) rfl (by show 2 * 0 + _ ≤ _; exact Nat.le_of_eq rfl) (hb hby d1_8) (fun _ _ => ⟨rfl, e2, (by decide : 4 + 0 ≤ _), (by decide : 60 + 0 ≤ _)⟩)
  dsimp only [Pt.U, Pt.locs, Pt.cells, Pt.slots] at X3 l3 y3 z3 st3 hQ3
  subst l3 y3 z3
  obtain ⟨rfl, N3q, e3⟩ := hQ3
  have N3 := Fr.app N0 N3q
  refine Goes.step (A := T3.setTop (mkF m 11 #[.val (.int p0)] [(.int p0)])) (fun t kt => st3 _ kt) ?_
  have hk9 : k2 ≤ T3.heap.size := by rw [e3]; exact hk
  have Li1b : Lit (s.setVm T2.vm) "com/example/key_lock/keylock/lock/Limits" 100 a1 := State.resolvedAt?_warmed39 hv2 Li1
  have La : Lit T3 "com/example/key_lock/keylock/lock/Limits" 100 a1 := State.resolvedAt?_warmed39 X3.warmed.wide Li1b
  have Lb : Lit T3 "com/example/key_lock/keylock/lock/Limits" 102 a2 := State.resolvedAt?_warmed39 X3.warmed.wide Li2
  obtain ⟨fs, hr, hrun, hended, hEnd⟩ := X3.leaveW hS hk9 (v := some (.int p0)) (fun h => by rw [Bd.returns] at h; cases h)
  refine Goes.done ?_ hrun hended ⟨_, _, rfl, ?_, ⟨_, _, La, Lb⟩, hEnd.1, hEnd.2.1, hEnd.2.2.1, hEnd.2.2.2.mono (by decide) (by decide)⟩
  · exact retI X3 hx Bd.returns (hb hby d1_11) hr
  · show Q1 Z p0 h0 n0 _ T3.heap _
    exact ⟨rfl, N3, by rw [e3]; exact Nat.le_trans E1.1 E2.1⟩
/- the same body where both literals have been used -/
def Qw1 (Z : State) (p0 : Int32) (la : Addr) (lb : Addr) (h0 : Heap) (n0 : Nat) (v : Option Value) (h : Heap) (L : List Loc) : Prop := v = some (.int p0) ∧ Fr n0 L ∧ h = h0
set_option maxRecDepth 65536 in
set_option maxHeartbeats 40000000 in
theorem rw1 (l : Launch) (Z : State) (a0 : Array Value) (hw : ∀ d ∈ tables_1, d.before a0 Z = true) (ws : List Jvm.Cond) (p0 : Int32) (la : Addr) (lb : Addr) (h0 : Heap) (n0 : Nat) (Z0 : n0 ≤ h0.size) (hlo : ¬ p0 < (1 : Int32)) (hhi : ¬ (1000 : Int32) < p0) (La : Lit Z "com/example/key_lock/keylock/lock/Limits" 100 la) (Lb : Lit Z "com/example/key_lock/keylock/lock/Limits" 102 lb) :
    MetFree l (⟨"com/example/key_lock/keylock/lock/Limits", "checkAttempts", "(I)I"⟩ : MethodName) (head1 (Jvm.Cond.code (⟨"com/example/key_lock/keylock/lock/Limits", "checkAttempts", "(I)I"⟩ : MethodName) prog_8_method_6_code 1 (some .int) :: ws) ({ frames := 1, cells := 0, slots := 0, locals := 15 } : Room)) (fun a U => a = #[(.int p0)] ∧ Z.Warmed39 U.vm ∧ U.heap = h0) (fun _ _ _ _ _ => True) (fun _ U o U' => ∃ v L, o = .returned v ∧ Qw1 Z p0 la lb h0 n0 v U'.heap L ∧ FrameEnd U o U' L ({ frames := 1, cells := 0, slots := 0, locals := 15 } : Room).cells ({ frames := 1, cells := 0, slots := 0, locals := 15 } : Room).slots) := by
  refine MetFree.of_bodySF (plainFor_of_name pn_1) hisR ?_
  intro p e s m args below meth c s₁ Bd hml0 hP hK
  obtain ⟨rfl, hZ, hh⟩ := hP
  have hx := Bd.exec
  have hby := Bd.bytes
  have hml : c.maxLocals = 1 := hml0
  have hown : s.vm.findClass "com/example/key_lock/keylock/lock/Limits" = some m.cls := findClass_of_methodNamed Bd.named
  have hnm := (name_of_methodNamed Bd.named Bd.method).1
  have X0 : Stand p l e ({ frames := 1, cells := 0, slots := 0, locals := 15 } : Room) s m #[(.int p0)] below meth c s₁ [] 0 0 := Stand.of_body Bd
  have e0 : s₁.heap = h0 := by rw [← hh, Bd.state]; rfl
  have N0 := Fr.nil n0
  refine Goes.start (Q := (fun o U' => ∃ v L, o = .returned v ∧ Qw1 Z p0 la lb h0 n0 v U'.heap L ∧ FrameEnd s o U' L ({ frames := 1, cells := 0, slots := 0, locals := 15 } : Room).cells ({ frames := 1, cells := 0, slots := 0, locals := 15 } : Room).slots)) (A := s₁.setTop (mkF m 0 #[.val (.int p0)] [])) (fun t k => castTop (ef_1 m p0) k) ?_
  refine Goes.step (A := s₁.setTop (mkF m 4 #[.val (.int p0)] [(.int p0), (.int (1000 : Int32))])) (fun t kt => ?_) ?_
  · refine XS.sipush X0.here hx rfl (hb hby d1_0) ?_
    show Steps p.tables e below (s₁.setTop (mkF m 3 #[.val (.int p0)] [(.int (1000 : Int32))])) _
    refine XS.iloadN X0.here hx rfl (hb hby d1_3) rfl ?_
    exact kt
  refine Goes.step (A := s₁.setTop (mkF m 6 #[.val (.int p0)] [(.ref la), (.int p0), (.int (1000 : Int32))])) (fun t kt => ?_) ?_
  · refine ldcR X0 hx hZ hown (own_ref (hw _ (List.mem_of_getElem? (i := 5) rfl)) La) La (g := (mkF m 4 #[.val (.int p0)] [(.int p0), (.int (1000 : Int32))])) rfl (hb hby d1_4) _ ?_
    exact kt
  refine Goes.step (A := s₁.setTop (mkF m 8 #[.val (.int p0)] [(.ref lb), (.ref la), (.int p0), (.int (1000 : Int32))])) (fun t kt => ?_) ?_
  · refine ldcR X0 hx hZ hown (own_ref (hw _ (List.mem_of_getElem? (i := 13) rfl)) Lb) Lb (g := (mkF m 6 #[.val (.int p0)] [(.ref la), (.int p0), (.int (1000 : Int32))])) rfl (hb hby d1_6) _ ?_
    exact kt
  obtain ⟨_, _, ⟨T1, L1, k1, n1⟩, -, X1, ⟨Lc1, hQ1, l1, y1, z1⟩, st1⟩ := Jvm.LawKit.callS X0 hx (y := (⟨"com/example/key_lock/keylock/lock/Limits", "oneTo", "(IILjava/lang/String;Ljava/lang/String;)I"⟩ : MethodName)) hown (mvT hZ (hw _ (List.mem_of_getElem? (i := 14) rfl))) (mvT hZ (hw _ (List.mem_of_getElem? (i := 15) rfl))) (mvT hZ (hw _ (List.mem_of_getElem? (i := 3) rfl))) (mvT hZ (hw _ (List.mem_of_getElem? (i := 16) rfl))) (by decide) (backOf (W := 0) (rm2 l Z a0 hw [] (1000 : Int32) p0 la lb h0 n0 Z0 hlo hhi) hZ (hw _ (List.mem_of_getElem? (i := 16) rfl)) (hw _ (List.mem_of_getElem? (i := 3) rfl)) (by decide) (by decide)) (g := (mkF m 8 #[.val (.int p0)] [(.ref lb), (.ref la), (.int p0), (.int (1000 : Int32))])) rfl (by rw [hml]; rfl) (argsL := [(.int (1000 : Int32)), (.int p0), (.ref la), (.ref lb)]) (rest := []) (lenOf pd_0 rfl) rfl (by show 2 * 0 + _ ≤ _; exact Nat.le_of_eq rfl) (hb hby d1_8) (fun _ _ => ⟨rfl, e0, (by decide : 0 + 0 ≤ _), (by decide : 0 + 0 ≤ _)⟩)
  dsimp only [Pt.U, Pt.locs, Pt.cells, Pt.slots] at X1 l1 y1 z1 st1 hQ1
  subst l1 y1 z1
  obtain ⟨rfl, N1q, e1⟩ := hQ1
  have N1 := Fr.app N0 N1q
  refine Goes.step (A := T1.setTop (mkF m 11 #[.val (.int p0)] [(.int p0)])) (fun t kt => st1 _ kt) ?_
  obtain ⟨fs, hr, hrun, hended, hW, hsame⟩ := X1.leave (v := some (.int p0)) (fun h => by rw [Bd.returns] at h; cases h)
  refine Goes.done ?_ hrun hended ⟨_, _, rfl, ?_, ⟨_, rfl⟩, hW, hsame.mono (by decide) (by decide)⟩
  · exact retI X1 hx Bd.returns (hb hby d1_11) hr
  · show Qw1 Z p0 la lb h0 n0 _ T1.heap _
    rw [e1]
    exact ⟨rfl, N1, rfl⟩
theorem ef_0 (m : MethodId) (x0 : Int32) : entryFrame m #[(.int x0)] maxLocals = mkF m 0 #[.val (.int x0), .unset, .unset, .unset, .unset] [] := by first | (simp [entryFrame, mkF, argsToLocals, Value.category, maxLocals]; done) | rfl
def Q0 (Z : State) (p0 : Int32) (h0 : Heap) (n0 : Nat) (v : Option Value) (h : Heap) (L : List Loc) : Prop := v = some (.int 1) ∧ Fr n0 L
theorem pn_0 : plainName "com/example/key_lock/keylock/lock/LimitsCheckAttemptsPinLaw" = true := by first | (simp [plainName, overriddenIn]; done) | decide +kernel
theorem pd_1 : parseMethodDescriptor "(I)I" = some ⟨[.int], some .int⟩ := by decide +kernel
set_option maxRecDepth 65536 in
set_option maxHeartbeats 40000000 in
theorem rm0 (l : Launch) (Z : State) (a0 : Array Value) (hw : ∀ d ∈ tables_1, d.before a0 Z = true) (ws : List Jvm.Cond) (p0 : Int32) (h0 : Heap) (n0 : Nat) (Z0 : n0 ≤ h0.size) :
    MetFree l x (head1 (Jvm.Cond.code x code maxLocals ret :: ws) room_1) (fun a U => a = #[(.int p0)] ∧ Z.Warmed39 U.vm ∧ U.heap = h0) (fun _ _ _ _ _ => True) (fun _ U o U' => ∃ v L, o = .returned v ∧ Q0 Z p0 h0 n0 v U'.heap L ∧ ReturnedEndW U o U' L room_1.cells room_1.slots) := by
  refine MetFree.of_bodySF (plainFor_of_name pn_0) hisR ?_
  intro p e s m args below meth c s₁ Bd hml0 hP hK
  obtain ⟨rfl, hZ, hh⟩ := hP
  have hx := Bd.exec
  have hby := Bd.bytes
  have hml : c.maxLocals = 5 := hml0
  have hown : s.vm.findClass "com/example/key_lock/keylock/lock/LimitsCheckAttemptsPinLaw" = some m.cls := findClass_of_methodNamed Bd.named
  have hnm := (name_of_methodNamed Bd.named Bd.method).1
  have X0 : Stand p l e room_1 s m #[(.int p0)] below meth c s₁ [] 0 0 := Stand.of_body Bd
  have e0 : s₁.heap = h0 := by rw [← hh, Bd.state]; rfl
  have N0 := Fr.nil n0
  refine Goes.start (Q := (fun o U' => ∃ v L, o = .returned v ∧ Q0 Z p0 h0 n0 v U'.heap L ∧ ReturnedEndW s o U' L room_1.cells room_1.slots)) (A := s₁.setTop (mkF m 0 #[.val (.int p0), .unset, .unset, .unset, .unset] [])) (fun t k => castTop (ef_0 m p0) k) ?_
  refine Goes.step (A := s₁.setTop (mkF m 12 #[.val (.int p0), .val (.int ((1 : Int32) + ((p0 &&& (2147483647 : Int32)) % (1000 : Int32)))), .unset, .unset, .unset] [(.int ((1 : Int32) + ((p0 &&& (2147483647 : Int32)) % (1000 : Int32))))])) (fun t kt => ?_) ?_
  · refine XS.iconst X0.here hx rfl (hb hby at_0) ?_
    show Steps p.tables e below (s₁.setTop (mkF m 1 #[.val (.int p0), .unset, .unset, .unset, .unset] [(.int (1 : Int32))])) _
    refine XS.iloadN X0.here hx rfl (hb hby at_1) rfl ?_
    show Steps p.tables e below (s₁.setTop (mkF m 2 #[.val (.int p0), .unset, .unset, .unset, .unset] [(.int p0), (.int (1 : Int32))])) _
    refine X0.ldcInt hx hown (mvT hZ (hw _ (List.mem_of_getElem? (i := 0) rfl))) (g := (mkF m 2 #[.val (.int p0), .unset, .unset, .unset, .unset] [(.int p0), (.int (1 : Int32))])) rfl (hb hby at_2) _ ?_
    show Steps p.tables e below (s₁.setTop (mkF m 4 #[.val (.int p0), .unset, .unset, .unset, .unset] [(.int (2147483647 : Int32)), (.int p0), (.int (1 : Int32))])) _
    refine XS.iand X0.here hx rfl (hb hby at_4) rfl ?_
    show Steps p.tables e below (s₁.setTop (mkF m 5 #[.val (.int p0), .unset, .unset, .unset, .unset] [(.int (p0 &&& (2147483647 : Int32))), (.int (1 : Int32))])) _
    refine XS.sipush X0.here hx rfl (hb hby at_5) ?_
    show Steps p.tables e below (s₁.setTop (mkF m 8 #[.val (.int p0), .unset, .unset, .unset, .unset] [(.int (1000 : Int32)), (.int (p0 &&& (2147483647 : Int32))), (.int (1 : Int32))])) _
    refine Jvm.RoadKit.iremM X0 hx rfl (hb hby at_8) rfl (by decide) ?_
    show Steps p.tables e below (s₁.setTop (mkF m 9 #[.val (.int p0), .unset, .unset, .unset, .unset] [(.int ((p0 &&& (2147483647 : Int32)) % (1000 : Int32))), (.int (1 : Int32))])) _
    refine XS.iadd X0.here hx rfl (hb hby at_9) rfl ?_
    show Steps p.tables e below (s₁.setTop (mkF m 10 #[.val (.int p0), .unset, .unset, .unset, .unset] [(.int ((1 : Int32) + ((p0 &&& (2147483647 : Int32)) % (1000 : Int32))))])) _
    refine XS.istoreN X0.here hx rfl (hb hby at_10) rfl (l' := #[.val (.int p0), .val (.int ((1 : Int32) + ((p0 &&& (2147483647 : Int32)) % (1000 : Int32)))), .unset, .unset, .unset]) rfl ?_
    show Steps p.tables e below (s₁.setTop (mkF m 11 #[.val (.int p0), .val (.int ((1 : Int32) + ((p0 &&& (2147483647 : Int32)) % (1000 : Int32)))), .unset, .unset, .unset] [])) _
    refine XS.iloadN X0.here hx rfl (hb hby at_11) rfl ?_
    exact kt
  obtain ⟨_, _, ⟨T1, L1, c1, n1⟩, -, X1, hS1, hg1, ⟨Lc1, hQ1, l1, y1, z1, la, lb, La, Lb⟩, st1⟩ := callSS X0 hx (y := (⟨"com/example/key_lock/keylock/lock/Limits", "checkAttempts", "(I)I"⟩ : MethodName)) hown (mvT hZ (hw _ (List.mem_of_getElem? (i := 1) rfl))) (mvT hZ (hw _ (List.mem_of_getElem? (i := 2) rfl))) (mvT hZ (hw _ (List.mem_of_getElem? (i := 3) rfl))) (mvT hZ (hw _ (List.mem_of_getElem? (i := 4) rfl))) (by decide) (own_backL (W := 0) (rm1 l Z a0 hw [] ((1 : Int32) + ((p0 &&& (2147483647 : Int32)) % (1000 : Int32))) h0 n0 Z0 (own_r p0).1 (own_r p0).2) hZ (hw _ (List.mem_of_getElem? (i := 4) rfl)) (hw _ (List.mem_of_getElem? (i := 3) rfl)) (by decide) (by decide)) (g := (mkF m 12 #[.val (.int p0), .val (.int ((1 : Int32) + ((p0 &&& (2147483647 : Int32)) % (1000 : Int32)))), .unset, .unset, .unset] [(.int ((1 : Int32) + ((p0 &&& (2147483647 : Int32)) % (1000 : Int32))))])) rfl (by rw [hml]; rfl) (argsL := [(.int ((1 : Int32) + ((p0 &&& (2147483647 : Int32)) % (1000 : Int32))))]) (rest := []) (lenOf pd_1 rfl) rfl (by show 2 * 0 + _ ≤ _; exact Nat.le_of_eq rfl) (hb hby at_12) (fun _ _ => ⟨rfl, e0, (by decide : 0 + 4 ≤ _), (by decide : 0 + 60 ≤ _)⟩)
  dsimp only [Pt.U, Pt.locs, Pt.cells, Pt.slots] at X1 l1 y1 z1 st1 hQ1 hS1 hg1 La Lb
  subst l1 y1 z1
  obtain ⟨rfl, N1q, sz1⟩ := hQ1
  have N1 := Fr.app N0 N1q
  have hZ0 : Z.Warmed39 (s.setVm T1.vm).vm := State.Warmed39.trans hZ hS1.1
  have hown : (s.setVm T1.vm).vm.findClass "com/example/key_lock/keylock/lock/LimitsCheckAttemptsPinLaw" = some m.cls := by rw [show (s.setVm T1.vm).vm = T1.vm from rfl, hS1.1.alike.findClass]; exact hown
  have hw := own_hw hZ0 hw
  have hZ := State.Warmed39.refl (s.setVm T1.vm)
  have La' : Lit (s.setVm T1.vm) "com/example/key_lock/keylock/lock/Limits" 100 la := La
  have Lb' : Lit (s.setVm T1.vm) "com/example/key_lock/keylock/lock/Limits" 102 lb := Lb
  have hS := hS1
  have Z1 : n0 ≤ T1.heap.size := Nat.le_trans Z0 sz1
  refine Goes.step (A := T1.setTop (mkF m 15 #[.val (.int p0), .val (.int ((1 : Int32) + ((p0 &&& (2147483647 : Int32)) % (1000 : Int32)))), .unset, .unset, .unset] [(.int ((1 : Int32) + ((p0 &&& (2147483647 : Int32)) % (1000 : Int32))))])) (fun t kt => st1.trans kt) ?_
  refine Goes.step (A := T1.setTop (mkF m 16 #[.val (.int p0), .val (.int ((1 : Int32) + ((p0 &&& (2147483647 : Int32)) % (1000 : Int32)))), .unset, .unset, .unset] [(.int ((1 : Int32) + ((p0 &&& (2147483647 : Int32)) % (1000 : Int32)))), (.int ((1 : Int32) + ((p0 &&& (2147483647 : Int32)) % (1000 : Int32))))])) (fun t kt => ?_) ?_
  · refine XS.iloadN X1.here hx rfl (hb hby at_15) rfl ?_
    exact kt
  refine Goes.step (A := T1.setTop (mkF m 19 #[.val (.int p0), .val (.int ((1 : Int32) + ((p0 &&& (2147483647 : Int32)) % (1000 : Int32)))), .unset, .unset, .unset] [])) (fun t kt => XS.icmpNo X1.here hx rfl (hb hby at_16) rfl (teq (rfl : ((1 : Int32) + ((p0 &&& (2147483647 : Int32)) % (1000 : Int32))) = ((1 : Int32) + ((p0 &&& (2147483647 : Int32)) % (1000 : Int32))))).2 kt) ?_
  refine Goes.step (A := T1.setTop (mkF m 26 #[.val (.int p0), .val (.int ((1 : Int32) + ((p0 &&& (2147483647 : Int32)) % (1000 : Int32)))), .val (.int (1 : Int32)), .unset, .unset] [(.int (1 : Int32))])) (fun t kt => ?_) ?_
  · refine XS.iconst X1.here hx rfl (hb hby at_19) ?_
    show Steps p.tables e below (T1.setTop (mkF m 20 #[.val (.int p0), .val (.int ((1 : Int32) + ((p0 &&& (2147483647 : Int32)) % (1000 : Int32)))), .unset, .unset, .unset] [(.int (1 : Int32))])) _
    refine XS.goto X1.here hx rfl (pc0 := 20) (pc' := 24) rfl (hb hby at_20) (by decide) (by decide) ?_
    show Steps p.tables e below (T1.setTop (mkF m 24 #[.val (.int p0), .val (.int ((1 : Int32) + ((p0 &&& (2147483647 : Int32)) % (1000 : Int32)))), .unset, .unset, .unset] [(.int (1 : Int32))])) _
    refine XS.istoreN X1.here hx rfl (hb hby at_24) rfl (l' := #[.val (.int p0), .val (.int ((1 : Int32) + ((p0 &&& (2147483647 : Int32)) % (1000 : Int32)))), .val (.int (1 : Int32)), .unset, .unset]) rfl ?_
    show Steps p.tables e below (T1.setTop (mkF m 25 #[.val (.int p0), .val (.int ((1 : Int32) + ((p0 &&& (2147483647 : Int32)) % (1000 : Int32)))), .val (.int (1 : Int32)), .unset, .unset] [])) _
    refine XS.iconst X1.here hx rfl (hb hby at_25) ?_
    exact kt
  obtain ⟨_, _, ⟨T2, L2, k2, n2⟩, -, X2, ⟨Lc2, hQ2, l2, y2, z2⟩, st2⟩ := Jvm.LawKit.callS X1 hx (y := (⟨"com/example/key_lock/keylock/lock/Limits", "checkAttempts", "(I)I"⟩ : MethodName)) hown (mvT hZ (hw _ (List.mem_of_getElem? (i := 1) rfl))) (mvT hZ (hw _ (List.mem_of_getElem? (i := 2) rfl))) (mvT hZ (hw _ (List.mem_of_getElem? (i := 3) rfl))) (mvT hZ (hw _ (List.mem_of_getElem? (i := 4) rfl))) (by decide) (backOf (W := 0) (rw1 l (s.setVm T1.vm) a0 hw [] (1 : Int32) la lb T1.heap n0 Z1 (by decide) (by decide) La' Lb') hZ (hw _ (List.mem_of_getElem? (i := 4) rfl)) (hw _ (List.mem_of_getElem? (i := 3) rfl)) (by decide) (by decide)) (g := (mkF m 26 #[.val (.int p0), .val (.int ((1 : Int32) + ((p0 &&& (2147483647 : Int32)) % (1000 : Int32)))), .val (.int (1 : Int32)), .unset, .unset] [(.int (1 : Int32))])) rfl (by rw [hml]; rfl) (argsL := [(.int (1 : Int32))]) (rest := []) (lenOf pd_1 rfl) rfl (by show 2 * 0 + _ ≤ _; exact Nat.le_of_eq rfl) (hb hby at_26) (fun _ _ => ⟨rfl, rfl, (by decide : 4 + 0 ≤ _), (by decide : 60 + 0 ≤ _)⟩)
  dsimp only [Pt.U, Pt.locs, Pt.cells, Pt.slots] at X2 l2 y2 z2 st2 hQ2
  subst l2 y2 z2
  obtain ⟨rfl, N2q, e2⟩ := hQ2
  have N2 := Fr.app N1 N2q
  refine Goes.step (A := T2.setTop (mkF m 29 #[.val (.int p0), .val (.int ((1 : Int32) + ((p0 &&& (2147483647 : Int32)) % (1000 : Int32)))), .val (.int (1 : Int32)), .unset, .unset] [(.int (1 : Int32))])) (fun t kt => st2 _ kt) ?_
  refine Goes.step (A := T2.setTop (mkF m 30 #[.val (.int p0), .val (.int ((1 : Int32) + ((p0 &&& (2147483647 : Int32)) % (1000 : Int32)))), .val (.int (1 : Int32)), .unset, .unset] [(.int (1 : Int32)), (.int (1 : Int32))])) (fun t kt => ?_) ?_
  · refine XS.iconst X2.here hx rfl (hb hby at_29) ?_
    exact kt
  refine Goes.step (A := T2.setTop (mkF m 33 #[.val (.int p0), .val (.int ((1 : Int32) + ((p0 &&& (2147483647 : Int32)) % (1000 : Int32)))), .val (.int (1 : Int32)), .unset, .unset] [])) (fun t kt => XS.icmpNo X2.here hx rfl (hb hby at_30) rfl (teq ((by decide) : (1 : Int32) = (1 : Int32))).2 kt) ?_
  refine Goes.step (A := T2.setTop (mkF m 42 #[.val (.int p0), .val (.int ((1 : Int32) + ((p0 &&& (2147483647 : Int32)) % (1000 : Int32)))), .val (.int (1 : Int32)), .val (.int (1 : Int32)), .unset] [(.int (1000 : Int32))])) (fun t kt => ?_) ?_
  · refine XS.iconst X2.here hx rfl (hb hby at_33) ?_
    show Steps p.tables e below (T2.setTop (mkF m 34 #[.val (.int p0), .val (.int ((1 : Int32) + ((p0 &&& (2147483647 : Int32)) % (1000 : Int32)))), .val (.int (1 : Int32)), .unset, .unset] [(.int (1 : Int32))])) _
    refine XS.goto X2.here hx rfl (pc0 := 34) (pc' := 38) rfl (hb hby at_34) (by decide) (by decide) ?_
    show Steps p.tables e below (T2.setTop (mkF m 38 #[.val (.int p0), .val (.int ((1 : Int32) + ((p0 &&& (2147483647 : Int32)) % (1000 : Int32)))), .val (.int (1 : Int32)), .unset, .unset] [(.int (1 : Int32))])) _
    refine XS.istoreN X2.here hx rfl (hb hby at_38) rfl (l' := #[.val (.int p0), .val (.int ((1 : Int32) + ((p0 &&& (2147483647 : Int32)) % (1000 : Int32)))), .val (.int (1 : Int32)), .val (.int (1 : Int32)), .unset]) rfl ?_
    show Steps p.tables e below (T2.setTop (mkF m 39 #[.val (.int p0), .val (.int ((1 : Int32) + ((p0 &&& (2147483647 : Int32)) % (1000 : Int32)))), .val (.int (1 : Int32)), .val (.int (1 : Int32)), .unset] [])) _
    refine XS.sipush X2.here hx rfl (hb hby at_39) ?_
    exact kt
  obtain ⟨_, _, ⟨T3, L3, k3, n3⟩, -, X3, ⟨Lc3, hQ3, l3, y3, z3⟩, st3⟩ := Jvm.LawKit.callS X2 hx (y := (⟨"com/example/key_lock/keylock/lock/Limits", "checkAttempts", "(I)I"⟩ : MethodName)) hown (mvT hZ (hw _ (List.mem_of_getElem? (i := 1) rfl))) (mvT hZ (hw _ (List.mem_of_getElem? (i := 2) rfl))) (mvT hZ (hw _ (List.mem_of_getElem? (i := 3) rfl))) (mvT hZ (hw _ (List.mem_of_getElem? (i := 4) rfl))) (by decide) (backOf (W := 0) (rw1 l (s.setVm T1.vm) a0 hw [] (1000 : Int32) la lb T1.heap n0 Z1 (by decide) (by decide) La' Lb') hZ (hw _ (List.mem_of_getElem? (i := 4) rfl)) (hw _ (List.mem_of_getElem? (i := 3) rfl)) (by decide) (by decide)) (g := (mkF m 42 #[.val (.int p0), .val (.int ((1 : Int32) + ((p0 &&& (2147483647 : Int32)) % (1000 : Int32)))), .val (.int (1 : Int32)), .val (.int (1 : Int32)), .unset] [(.int (1000 : Int32))])) rfl (by rw [hml]; rfl) (argsL := [(.int (1000 : Int32))]) (rest := []) (lenOf pd_1 rfl) rfl (by show 2 * 0 + _ ≤ _; exact Nat.le_of_eq rfl) (hb hby at_42) (fun _ _ => ⟨rfl, e2, (by decide : 4 + 0 ≤ _), (by decide : 60 + 0 ≤ _)⟩)
  dsimp only [Pt.U, Pt.locs, Pt.cells, Pt.slots] at X3 l3 y3 z3 st3 hQ3
  subst l3 y3 z3
  obtain ⟨rfl, N3q, e3⟩ := hQ3
  have N3 := Fr.app N2 N3q
  refine Goes.step (A := T3.setTop (mkF m 45 #[.val (.int p0), .val (.int ((1 : Int32) + ((p0 &&& (2147483647 : Int32)) % (1000 : Int32)))), .val (.int (1 : Int32)), .val (.int (1 : Int32)), .unset] [(.int (1000 : Int32))])) (fun t kt => st3 _ kt) ?_
  refine Goes.step (A := T3.setTop (mkF m 48 #[.val (.int p0), .val (.int ((1 : Int32) + ((p0 &&& (2147483647 : Int32)) % (1000 : Int32)))), .val (.int (1 : Int32)), .val (.int (1 : Int32)), .unset] [(.int (1000 : Int32)), (.int (1000 : Int32))])) (fun t kt => ?_) ?_
  · refine XS.sipush X3.here hx rfl (hb hby at_45) ?_
    exact kt
  refine Goes.step (A := T3.setTop (mkF m 51 #[.val (.int p0), .val (.int ((1 : Int32) + ((p0 &&& (2147483647 : Int32)) % (1000 : Int32)))), .val (.int (1 : Int32)), .val (.int (1 : Int32)), .unset] [])) (fun t kt => XS.icmpNo X3.here hx rfl (hb hby at_48) rfl (teq ((by decide) : (1000 : Int32) = (1000 : Int32))).2 kt) ?_
  refine Goes.step (A := T3.setTop (mkF m 59 #[.val (.int p0), .val (.int ((1 : Int32) + ((p0 &&& (2147483647 : Int32)) % (1000 : Int32)))), .val (.int (1 : Int32)), .val (.int (1 : Int32)), .val (.int (1 : Int32))] [(.int (1 : Int32))])) (fun t kt => ?_) ?_
  · refine XS.iconst X3.here hx rfl (hb hby at_51) ?_
    show Steps p.tables e below (T3.setTop (mkF m 52 #[.val (.int p0), .val (.int ((1 : Int32) + ((p0 &&& (2147483647 : Int32)) % (1000 : Int32)))), .val (.int (1 : Int32)), .val (.int (1 : Int32)), .unset] [(.int (1 : Int32))])) _
    refine XS.goto X3.here hx rfl (pc0 := 52) (pc' := 56) rfl (hb hby at_52) (by decide) (by decide) ?_
    show Steps p.tables e below (T3.setTop (mkF m 56 #[.val (.int p0), .val (.int ((1 : Int32) + ((p0 &&& (2147483647 : Int32)) % (1000 : Int32)))), .val (.int (1 : Int32)), .val (.int (1 : Int32)), .unset] [(.int (1 : Int32))])) _
    refine XS.istore X3.here hx rfl (hb hby at_56) rfl (l' := #[.val (.int p0), .val (.int ((1 : Int32) + ((p0 &&& (2147483647 : Int32)) % (1000 : Int32)))), .val (.int (1 : Int32)), .val (.int (1 : Int32)), .val (.int (1 : Int32))]) rfl ?_
    show Steps p.tables e below (T3.setTop (mkF m 58 #[.val (.int p0), .val (.int ((1 : Int32) + ((p0 &&& (2147483647 : Int32)) % (1000 : Int32)))), .val (.int (1 : Int32)), .val (.int (1 : Int32)), .val (.int (1 : Int32))] [])) _
    refine XS.iloadN X3.here hx rfl (hb hby at_58) rfl ?_
    exact kt
  refine Goes.step (A := T3.setTop (mkF m 62 #[.val (.int p0), .val (.int ((1 : Int32) + ((p0 &&& (2147483647 : Int32)) % (1000 : Int32)))), .val (.int (1 : Int32)), .val (.int (1 : Int32)), .val (.int (1 : Int32))] [])) (fun t kt => XS.ifNo X3.here hx rfl (hb hby at_59) rfl ((if0 _ _).trans (feq ((by decide) : ¬ ((1 : Int32) = (0 : Int32)))).1) kt) ?_
  refine Goes.step (A := T3.setTop (mkF m 63 #[.val (.int p0), .val (.int ((1 : Int32) + ((p0 &&& (2147483647 : Int32)) % (1000 : Int32)))), .val (.int (1 : Int32)), .val (.int (1 : Int32)), .val (.int (1 : Int32))] [(.int (1 : Int32))])) (fun t kt => ?_) ?_
  · refine XS.iloadN X3.here hx rfl (hb hby at_62) rfl ?_
    exact kt
  refine Goes.step (A := T3.setTop (mkF m 66 #[.val (.int p0), .val (.int ((1 : Int32) + ((p0 &&& (2147483647 : Int32)) % (1000 : Int32)))), .val (.int (1 : Int32)), .val (.int (1 : Int32)), .val (.int (1 : Int32))] [])) (fun t kt => XS.ifNo X3.here hx rfl (hb hby at_63) rfl ((if0 _ _).trans (feq ((by decide) : ¬ ((1 : Int32) = (0 : Int32)))).1) kt) ?_
  refine Goes.step (A := T3.setTop (mkF m 68 #[.val (.int p0), .val (.int ((1 : Int32) + ((p0 &&& (2147483647 : Int32)) % (1000 : Int32)))), .val (.int (1 : Int32)), .val (.int (1 : Int32)), .val (.int (1 : Int32))] [(.int (1 : Int32))])) (fun t kt => ?_) ?_
  · refine XS.iload X3.here hx rfl (hb hby at_66) rfl ?_
    exact kt
  refine Goes.step (A := T3.setTop (mkF m 71 #[.val (.int p0), .val (.int ((1 : Int32) + ((p0 &&& (2147483647 : Int32)) % (1000 : Int32)))), .val (.int (1 : Int32)), .val (.int (1 : Int32)), .val (.int (1 : Int32))] [])) (fun t kt => XS.ifNo X3.here hx rfl (hb hby at_68) rfl ((if0 _ _).trans (feq ((by decide) : ¬ ((1 : Int32) = (0 : Int32)))).1) kt) ?_
  refine Goes.step (A := T3.setTop (mkF m 76 #[.val (.int p0), .val (.int ((1 : Int32) + ((p0 &&& (2147483647 : Int32)) % (1000 : Int32)))), .val (.int (1 : Int32)), .val (.int (1 : Int32)), .val (.int (1 : Int32))] [(.int (1 : Int32))])) (fun t kt => ?_) ?_
  · refine XS.iconst X3.here hx rfl (hb hby at_71) ?_
    show Steps p.tables e below (T3.setTop (mkF m 72 #[.val (.int p0), .val (.int ((1 : Int32) + ((p0 &&& (2147483647 : Int32)) % (1000 : Int32)))), .val (.int (1 : Int32)), .val (.int (1 : Int32)), .val (.int (1 : Int32))] [(.int (1 : Int32))])) _
    refine XS.goto X3.here hx rfl (pc0 := 72) (pc' := 76) rfl (hb hby at_72) (by decide) (by decide) ?_
    exact kt
  have hk9 : T1.heap.size ≤ T3.heap.size := by rw [e3]; exact Nat.le_refl _
  obtain ⟨fs, hr, hrun, hended, hEnd⟩ := X3.leaveW hS hk9 (v := some (.int (1 : Int32))) (fun h => by rw [Bd.returns] at h; cases h)
  refine Goes.done ?_ hrun hended ⟨_, _, rfl, ?_, hEnd.1, hEnd.2.1, hEnd.2.2.1, hEnd.2.2.2.mono (by decide) (by decide)⟩
  · exact retN X3 hx (t := .boolean) Bd.returns (by simp) (hb hby at_76) hr
  · show Q0 Z p0 h0 n0 _ T3.heap _
    exact ⟨rfl, N3⟩
set_option maxRecDepth 65536 in
set_option maxHeartbeats 40000000 in
theorem comes_1 {Post : Tables → Env → Array Value → State → Outcome → State → Prop} (hpost : ∀ tb e args s v u, (limb_1_1.after args s (.returned v) u = true ∧ limb_1_2.after args s (.returned v) u = true ∧ True) → ReturnedEndW s (.returned v) u (Jvm.fieldLocs frame_1_writes args s ++ Jvm.arrayLocs frame_1_arrays args s ++ Jvm.staticLocs frame_1_statics s) 8 2112 → Post tb e args s (.returned v) u) :
    ArmFor flags0 classFile x code maxLocals ret World_1 tables_1 room_1 Calls_1 rest_1 Pre_1 Post := by
  intro l hfl _ _ p e ha hc hk s m args below hf hA hF happ hP
  obtain ⟨hcalls, hrest, hpre⟩ := hP
  obtain ⟨-, -, -, hnamed, -, -, -, hat⟩ := (Spec.applies_iff hf).mp happ
  obtain ⟨hg, hn⟩ := and_e (Cond.before_iff.mp (show (Jvm.Cond.and given_1 narrow_1).before args s = true from hpre))
  obtain ⟨hcnt, hr0⟩ := and_e hg
  obtain ⟨w0, rfl⟩ : ∃ w0 : Value, args = #[w0] := by
    have hs : args.size = 1 := by simpa [Cond.value, given_1] using hcnt
    obtain ⟨L⟩ := args
    match L, hs with
    | [w0], _ => exact ⟨w0, rfl⟩
  have hw := fun d (hd : d ∈ tables_1) => atoms_spec (ws := Jvm.Cond.code x code maxLocals ret :: tables_1) hat d (List.mem_cons_of_mem _ hd)
  obtain ⟨i0, ei0⟩ := is_v hr0
  obtain rfl : w0 = (.int i0) := Option.some.inj ei0
  obtain ⟨n, o, h1, h2, h3, _, L, rfl, ⟨rfl, N⟩, hq⟩ := rm0 l s _ hw tables_1 i0 s.heap s.heap.size (Nat.le_refl _) p e ha hc hk s m _ below hf ((Spec.applies_iff_loose hf).mp happ).1 ⟨rfl, State.Warmed39.refl s, rfl⟩ trivial
  refine ⟨n, _, h1, h2, h3, hpost _ _ _ _ _ _ ⟨Cond.after_iff.mpr rfl, Cond.after_iff.mpr (eq_i res_at (Term.int_eval (1)) rfl), trivial⟩ ⟨hq.1, hq.2.1, hq.2.2.1, (hq.2.2.2.sift fun y hy => Or.inr (N y hy)).mono (by decide) (by decide)⟩⟩
theorem main_1_1 : Claimed_1_1 := comes_1 fun _ _ _ _ _ _ h hF => ⟨h.1, hF⟩
theorem main_1_2 : Claimed_1_2 := comes_1 fun _ _ _ _ _ _ h hF => ⟨h.2.1, hF⟩
end Jvm.Pilot.@@N@@
namespace Jvm.Pilot.@@N@@
open Jvm Jvm.ClassFile Sem Op Lib Jvm.Free Jvm.Stand Jvm.Pilot.@@N@@.Jvm.D
/-! MADE BY PROGRAM (witnessworld.py) out of the Statement's table words and the real class files: 14 classes; the members and pool entries that the words name. The judged class is class 1, her method 1. -/
namespace start1
open Jvm.ClassFile
def u (s : String) : CpInfo := .utf8 (stringToUtf16 s)
/-- a pool by its gaps: so many unusable entries, then the entry; so many at the end -/
def gap : Nat → List CpInfo → List CpInfo
  | 0, r => r
  | n + 1, r => .unusable :: gap n r
def poolList (es : List (Nat × CpInfo)) (last : Nat) : List CpInfo := es.foldr (fun e r => gap e.1 (e.2 :: r)) (gap last [])
def pool (es : List (Nat × CpInfo)) (last : Nat) : Array CpInfo := ⟨poolList es last⟩
def fileOf (pool : Array CpInfo) (this : Nat) (attrs : Array Attribute := #[]) (ms : Array MethodInfo := #[]) (fl : Nat := 33) (sup : Nat := 0) (ifs : Array Nat := #[]) (fds : Array FieldInfo := #[]) : ClassFile where
  minorVersion := 0
  majorVersion := 65
  constantPool := pool
  accessFlags := fl
  thisClass := this
  superClass := sup
  interfaces := ifs
  fields := fds
  methods := ms
  attributes := attrs
def plain (name : String) (sup : Option ClassId) : Class where
  name := name
  kind := .ordinary
  loader := none
  accessFlags := 33
  super := sup
  interfaces := #[]
  cf := none
  fields := #[]
  methods := #[]
  instanceTypes := #[]
  staticTypes := #[]
  resolved := #[]
  callSites := []
  init := .initialized
  statics := none
  mirror := none

def pool0 : Array CpInfo := pool [(5, u "<init>"), (0, u "()V"), (1, .class_ 10), (1, u "java/lang/Object")] 113

def k0m0 : Method := { name := "<init>", desc := "()V", sig := { parameters := [], returnType := none }, accessFlags := 1, code := none }
/-- java/lang/Object -/
def k0 : Class := { plain "java/lang/Object" none with
  accessFlags := 33
  interfaces := #[]
  cf := some (fileOf pool0 8 #[] #[{ accessFlags := 1, nameIndex := 5, descriptorIndex := 6, attributes := #[] }] 33 0 #[] #[])
  fields := #[]
  methods := #[k0m0]
  instanceTypes := #[]
  staticTypes := #[]
  resolved := Array.replicate 124 none
  statics := none }

def pool1 : Array CpInfo := pool [(2, .class_ 4), (1, u "java/lang/Object"), (0, u "<init>"), (0, u "()V"), (0, .integer 2147483647), (0, .methodref 9 10), (0, .class_ 11), (0, .nameAndType 12 13), (0, u "com/example/key_lock/keylock/lock/Limits"), (0, u "checkAttempts"), (0, u "(I)I"), (0, .class_ 15), (0, u "com/example/key_lock/keylock/lock/LimitsCheckAttemptsPinLaw"), (2, u "law"), (0, u "(I)Z")] 3

def k1m0 : Method := { name := "<init>", desc := "()V", sig := { parameters := [], returnType := none }, accessFlags := 2, code := none }
def k1c1 : Code := { maxStack := 3, maxLocals := 5, code := code, exceptionTable := #[], attributes := #[] }
def k1m1 : Method := { name := "law", desc := "(I)Z", sig := { parameters := [.int], returnType := some .boolean }, accessFlags := 9, code := some k1c1 }
/-- com/example/key_lock/keylock/lock/LimitsCheckAttemptsPinLaw -/
def k1 : Class := { plain "com/example/key_lock/keylock/lock/LimitsCheckAttemptsPinLaw" (some 0) with
  accessFlags := 49
  interfaces := #[]
  cf := some (fileOf pool1 14 #[] #[{ accessFlags := 2, nameIndex := 5, descriptorIndex := 6, attributes := #[] }, { accessFlags := 9, nameIndex := 18, descriptorIndex := 19, attributes := #[] }] 49 2 #[] #[])
  fields := #[]
  methods := #[k1m0, k1m1]
  instanceTypes := #[]
  staticTypes := #[]
  resolved := Array.replicate 23 none
  statics := none }

def pool2 : Array CpInfo := pool [(2, .class_ 4), (1, u "java/lang/Object"), (0, u "<init>"), (0, u "()V"), (28, u "(I)I"), (18, .class_ 55), (0, u "com/example/key_lock/keylock/lock/Limits"), (6, .methodref 54 63), (0, .nameAndType 64 65), (0, u "oneTo"), (0, u "(IILjava/lang/String;Ljava/lang/String;)I"), (4, u "MIN_LEASE"), (0, u "Ljava/time/Duration;"), (6, u "MAX_LEASE"), (20, u "MAX_WAIT"), (0, .string 101), (0, u "a job"), (0, .string 103), (0, u "attempts"), (9, u "MIN_DONE_FOR"), (2, u "MAX_DONE_FOR"), (48, u "MAX_NAME_LENGTH"), (0, u "I"), (2, u "MAX_PERMITS"), (1, u "MAX_ATTEMPTS"), (9, u "checkAttempts")] 33

def k2m0 : Method := { name := "<init>", desc := "()V", sig := { parameters := [], returnType := none }, accessFlags := 2, code := none }
def k2c1 : Code := { maxStack := 4, maxLocals := 1, code := prog_8_method_6_code, exceptionTable := #[], attributes := #[] }
def k2m1 : Method := { name := "checkAttempts", desc := "(I)I", sig := { parameters := [.int], returnType := some .int }, accessFlags := 9, code := some k2c1 }
def k2c2 : Code := { maxStack := 6, maxLocals := 4, code := prog_8_method_7_code, exceptionTable := #[], attributes := #[] }
def k2m2 : Method := { name := "oneTo", desc := "(IILjava/lang/String;Ljava/lang/String;)I", sig := { parameters := [.int, .int, (.object "java/lang/String"), (.object "java/lang/String")], returnType := some .int }, accessFlags := 10, code := some k2c2 }
/-- com/example/key_lock/keylock/lock/Limits -/
def k2 : Class := { plain "com/example/key_lock/keylock/lock/Limits" (some 0) with
  accessFlags := 49
  interfaces := #[]
  cf := some (fileOf pool2 54 #[] #[{ accessFlags := 2, nameIndex := 5, descriptorIndex := 6, attributes := #[] }, { accessFlags := 9, nameIndex := 181, descriptorIndex := 35, attributes := #[] }, { accessFlags := 10, nameIndex := 64, descriptorIndex := 65, attributes := #[] }] 49 2 #[] #[{ accessFlags := 25, nameIndex := 165, descriptorIndex := 166, attributes := #[] }, { accessFlags := 25, nameIndex := 70, descriptorIndex := 71, attributes := #[] }, { accessFlags := 25, nameIndex := 78, descriptorIndex := 71, attributes := #[] }, { accessFlags := 25, nameIndex := 99, descriptorIndex := 71, attributes := #[] }, { accessFlags := 25, nameIndex := 169, descriptorIndex := 166, attributes := #[] }, { accessFlags := 25, nameIndex := 171, descriptorIndex := 166, attributes := #[] }, { accessFlags := 25, nameIndex := 113, descriptorIndex := 71, attributes := #[] }, { accessFlags := 25, nameIndex := 116, descriptorIndex := 71, attributes := #[] }])
  fields := #[{ name := "MAX_NAME_LENGTH", type := .int, accessFlags := 25, slot := 0, constantValue := 0 }, { name := "MIN_LEASE", type := (.object "java/time/Duration"), accessFlags := 25, slot := 1, constantValue := 0 }, { name := "MAX_LEASE", type := (.object "java/time/Duration"), accessFlags := 25, slot := 2, constantValue := 0 }, { name := "MAX_WAIT", type := (.object "java/time/Duration"), accessFlags := 25, slot := 3, constantValue := 0 }, { name := "MAX_PERMITS", type := .int, accessFlags := 25, slot := 4, constantValue := 0 }, { name := "MAX_ATTEMPTS", type := .int, accessFlags := 25, slot := 5, constantValue := 0 }, { name := "MIN_DONE_FOR", type := (.object "java/time/Duration"), accessFlags := 25, slot := 6, constantValue := 0 }, { name := "MAX_DONE_FOR", type := (.object "java/time/Duration"), accessFlags := 25, slot := 7, constantValue := 0 }]
  methods := #[k2m0, k2m1, k2m2]
  instanceTypes := #[]
  staticTypes := #[.int, (.object "java/time/Duration"), (.object "java/time/Duration"), (.object "java/time/Duration"), .int, .int, (.object "java/time/Duration"), (.object "java/time/Duration")]
  resolved := Array.replicate 215 none
  statics := none }

def pool3 : Array CpInfo := pool [(1, .class_ 2), (0, u "java/io/Serializable"), (0, .class_ 4), (0, u "java/lang/Object")] 2

/-- java/io/Serializable -/
def k3 : Class := { plain "java/io/Serializable" (some 0) with
  accessFlags := 1537
  interfaces := #[]
  cf := some (fileOf pool3 1 #[] #[] 1537 3 #[] #[])
  fields := #[]
  methods := #[]
  instanceTypes := #[]
  staticTypes := #[]
  resolved := Array.replicate 7 none
  statics := none }

def pool4 : Array CpInfo := pool [(1, .class_ 2), (0, u "java/lang/Comparable"), (0, .class_ 4), (0, u "java/lang/Object")] 7

/-- java/lang/Comparable -/
def k4 : Class := { plain "java/lang/Comparable" (some 0) with
  accessFlags := 1537
  interfaces := #[]
  cf := some (fileOf pool4 1 #[] #[] 1537 3 #[] #[])
  fields := #[]
  methods := #[]
  instanceTypes := #[]
  staticTypes := #[]
  resolved := Array.replicate 12 none
  statics := none }

def pool5 : Array CpInfo := pool [(2, .class_ 4), (1, u "java/lang/CharSequence"), (42, .class_ 48), (0, u "java/lang/CharSequence$1CodePointIterator"), (10, .class_ 60), (0, u "java/lang/CharSequence$1CharIterator"), (5, .class_ 67), (0, u "java/lang/Object")] 63

/-- java/lang/CharSequence -/
def k5 : Class := { plain "java/lang/CharSequence" (some 0) with
  accessFlags := 1537
  interfaces := #[]
  cf := some (fileOf pool5 2 #[.nestMembers #[47, 59]] #[] 1537 66 #[] #[])
  fields := #[]
  methods := #[]
  instanceTypes := #[]
  staticTypes := #[]
  resolved := Array.replicate 131 none
  statics := none }

def pool6 : Array CpInfo := pool [(1, .class_ 2), (0, u "java/lang/constant/Constable"), (0, .class_ 4), (0, u "java/lang/Object")] 6

/-- java/lang/constant/Constable -/
def k6 : Class := { plain "java/lang/constant/Constable" (some 0) with
  accessFlags := 1537
  interfaces := #[]
  cf := some (fileOf pool6 1 #[] #[] 1537 3 #[] #[])
  fields := #[]
  methods := #[]
  instanceTypes := #[]
  staticTypes := #[]
  resolved := Array.replicate 11 none
  statics := none }

def pool7 : Array CpInfo := pool [(1, .class_ 2), (0, u "java/lang/constant/ConstantDesc"), (0, .class_ 4), (0, u "java/lang/Object")] 32

/-- java/lang/constant/ConstantDesc -/
def k7 : Class := { plain "java/lang/constant/ConstantDesc" (some 0) with
  accessFlags := 1537
  interfaces := #[]
  cf := some (fileOf pool7 1 #[] #[] 1537 3 #[] #[])
  fields := #[]
  methods := #[]
  instanceTypes := #[]
  staticTypes := #[]
  resolved := Array.replicate 37 none
  statics := none }

def pool8 : Array CpInfo := pool [(2, .class_ 4), (1, u "java/lang/Object"), (0, u "<init>"), (0, u "()V"), (3, .class_ 12), (1, u "java/lang/String"), (0, u "value"), (0, u "[B"), (2, u "coder"), (0, u "B"), (2, u "hash"), (0, u "I"), (2, u "hashIsZero"), (0, u "Z"), (13, u "COMPACT_STRINGS"), (534, .class_ 576), (0, u "java/lang/CharSequence"), (22, u "CASE_INSENSITIVE_ORDER"), (0, u "Ljava/util/Comparator;"), (500, u "serialPersistentFields"), (0, u "[Ljava/io/ObjectStreamField;"), (0, .class_ 1104), (0, u "java/lang/String$CaseInsensitiveComparator"), (1, .class_ 1107), (0, u "java/io/Serializable"), (0, .class_ 1109), (0, u "java/lang/Comparable"), (0, .class_ 1111), (0, u "java/lang/constant/Constable"), (0, .class_ 1113), (0, u "java/lang/constant/ConstantDesc"), (2, u "serialVersionUID"), (0, u "J"), (3, u "REPL"), (0, u "C"), (2, u "LATIN1"), (1, u "UTF16")] 323

def k8m0 : Method := { name := "<init>", desc := "()V", sig := { parameters := [], returnType := none }, accessFlags := 1, code := none }
/-- java/lang/String -/
def k8 : Class := { plain "java/lang/String" (some 0) with
  accessFlags := 49
  interfaces := #[3, 4, 5, 6, 7]
  cf := some (fileOf pool8 10 #[.nestMembers #[1103]] #[{ accessFlags := 1, nameIndex := 5, descriptorIndex := 6, attributes := #[] }] 49 2 #[1106, 1108, 575, 1110, 1112] #[{ accessFlags := 18, nameIndex := 13, descriptorIndex := 14, attributes := #[] }, { accessFlags := 18, nameIndex := 17, descriptorIndex := 18, attributes := #[] }, { accessFlags := 2, nameIndex := 21, descriptorIndex := 22, attributes := #[] }, { accessFlags := 2, nameIndex := 25, descriptorIndex := 26, attributes := #[] }, { accessFlags := 26, nameIndex := 1116, descriptorIndex := 1117, attributes := #[] }, { accessFlags := 24, nameIndex := 40, descriptorIndex := 26, attributes := #[] }, { accessFlags := 26, nameIndex := 1101, descriptorIndex := 1102, attributes := #[] }, { accessFlags := 26, nameIndex := 1121, descriptorIndex := 1122, attributes := #[] }, { accessFlags := 25, nameIndex := 599, descriptorIndex := 600, attributes := #[] }, { accessFlags := 24, nameIndex := 1125, descriptorIndex := 18, attributes := #[] }, { accessFlags := 24, nameIndex := 1127, descriptorIndex := 18, attributes := #[] }])
  fields := #[{ name := "value", type := (.array .byte), accessFlags := 18, slot := 0, constantValue := 0 }, { name := "coder", type := .byte, accessFlags := 18, slot := 1, constantValue := 0 }, { name := "hash", type := .int, accessFlags := 2, slot := 2, constantValue := 0 }, { name := "hashIsZero", type := .boolean, accessFlags := 2, slot := 3, constantValue := 0 }, { name := "serialVersionUID", type := .long, accessFlags := 26, slot := 0, constantValue := 0 }, { name := "COMPACT_STRINGS", type := .boolean, accessFlags := 24, slot := 1, constantValue := 0 }, { name := "serialPersistentFields", type := (.array (.object "java/io/ObjectStreamField")), accessFlags := 26, slot := 2, constantValue := 0 }, { name := "REPL", type := .char, accessFlags := 26, slot := 3, constantValue := 0 }, { name := "CASE_INSENSITIVE_ORDER", type := (.object "java/util/Comparator"), accessFlags := 25, slot := 4, constantValue := 0 }, { name := "LATIN1", type := .byte, accessFlags := 24, slot := 5, constantValue := 0 }, { name := "UTF16", type := .byte, accessFlags := 24, slot := 6, constantValue := 0 }]
  methods := #[k8m0]
  instanceTypes := #[(.array .byte), .byte, .int, .boolean]
  staticTypes := #[.long, .boolean, (.array (.object "java/io/ObjectStreamField")), .char, (.object "java/util/Comparator"), .byte, .byte]
  resolved := Array.replicate 1451 none
  statics := none }

def pool9 : Array CpInfo := pool [(1, u "java/lang/Cloneable"), (0, .class_ 1), (0, u "java/lang/Object"), (0, .class_ 3)] 3

/-- java/lang/Cloneable -/
def k9 : Class := { plain "java/lang/Cloneable" (some 0) with
  accessFlags := 1537
  interfaces := #[]
  cf := some (fileOf pool9 2 #[] #[] 1537 4 #[] #[])
  fields := #[]
  methods := #[]
  instanceTypes := #[]
  staticTypes := #[]
  resolved := Array.replicate 8 none
  statics := none }

/-- the primitive byte -/
def k10 : Class := { plain "byte" none with kind := .primitive 'B', accessFlags := 0x411 }
/-- [B -/
def k11 : Class := { plain "[B" (some 0) with kind := .array 10 .byte, interfaces := #[9, 3], accessFlags := 1041 }

/-- the primitive int -/
def k12 : Class := { plain "int" none with kind := .primitive 'I', accessFlags := 0x411 }
/-- [I -/
def k13 : Class := { plain "[I" (some 0) with kind := .array 12 .int, interfaces := #[9, 3], accessFlags := 1041 }

def heap : Heap := #[]
def classes : Array Class := #[k0, k1, k2, k3, k4, k5, k6, k7, k8, k9, k10, k11, k12, k13]
def interned : List (Array UInt16 × Addr) := []
def slotsUsed : Nat := 0
def theMethod : MethodId := ⟨1, 1⟩
def args0 : Array Value := #[.int 5]
def aboutOver (below : List Frame) : State where
  vm := { classes := classes, interned := interned.toArray }
  heap := heap
  slotsUsed := slotsUsed
  threads := #[{ frames := .invoking theMethod args0 :: below }]
def below0 : List Frame := [.native { method := ⟨0, 0⟩, args := #[] }]
def about1 : State := aboutOver below0
def p0 : Program := .bare "" "" ""
def e0 : Env := launch0.env 0 0 0
theorem w_frames : about1.frames = Frame.invoking theMethod args0 :: below0 := rfl
set_option maxRecDepth 65536 in
theorem w_args : argsFit about1.vm theMethod args0 = true := by decide +kernel
set_option maxRecDepth 65536 in
theorem w_heap : heapFits about1 = true := by decide +kernel
set_option maxRecDepth 65536 in
theorem w_runnable : about1.curStatus? = some .runnable := by decide +kernel
set_option maxRecDepth 65536 in
theorem w_alone : about1.alone = true := by decide +kernel
set_option maxRecDepth 65536 in
theorem w_named : about1.methodNamed? x = some theMethod := by decide +kernel
set_option maxRecDepth 65536 in
theorem w_hears : about1.hears theMethod below0 = true := by decide +kernel
set_option maxRecDepth 65536 in
theorem w_ripe : about1.ripe theMethod args0 below0 = true := by decide +kernel
theorem w_running : about1.status = .running := rfl
set_option maxRecDepth 65536 in
theorem w_room : about1.hasRoom e0.platform room_1 = true :=
  launch0.hasRoom_least _ room_1 (by decide +kernel) (by decide +kernel) (by decide +kernel) (by decide +kernel) (by decide +kernel) (by decide +kernel)
theorem allAtoms_all (ts : List Jvm.Cond) (a : Array Jvm.Value) (st : Jvm.State) : (allAtoms ts).before a st = ts.all (fun c => c.before a st) := by
  induction ts with
  | nil => rfl
  | cons c t ih =>
    show (Jvm.Cond.and c (allAtoms t)).before a st = _
    rw [Jvm.Cond.before_and, ih, List.all_cons]
def words1 : List Jvm.Cond := Jvm.Cond.code x code maxLocals ret :: tables_1
/-- a 'code' word, met by the world's own term for the bytes: nothing is compared byte by byte -/
theorem code_word {y : MethodName} {bytes : ByteArray} {mx : Nat} {rt : Option FieldType} {a : Array Value} {s : State} {m : MethodId} {meth : Method} {c : Code} (h1 : s.methodNamed? y = some m) (h2 : s.vm.method? m = some meth) (h3 : meth.code = some c) (h4 : c.code = bytes)
    (h5 : (c.maxLocals == mx && c.exceptionTable.isEmpty && decide (c.maxStack ≤ mostOperands) && decide (meth.sig.returnType = rt) && !meth.locks && decide (parseMethodDescriptor y.desc = some meth.sig)) = true) : (Jvm.Cond.code y bytes mx rt).before a s = true := by
  simp only [Bool.and_eq_true, beq_iff_eq, Bool.not_eq_true', decide_eq_true_eq] at h5
  obtain ⟨⟨⟨⟨⟨g1, g2⟩, g3⟩, g4⟩, g5⟩, g6⟩ := h5
  simp [Cond.before, Cond.holds, Cond.value, h1, h2, h3, h4, g1, g2, g3, g4, g5, g6]
def isCode : Jvm.Cond → Bool
  | .code _ _ _ _ => true
  | _ => false
theorem all_split {L : List Jvm.Cond} {P : Jvm.Cond → Bool} (h1 : L.all (fun c => isCode c || P c) = true) (h2 : ∀ c ∈ L.filter isCode, P c = true) : L.all P = true := by
  refine List.all_eq_true.mpr fun c hc => ?_
  have h := List.all_eq_true.mp h1 c hc
  rcases Bool.eq_false_or_eq_true (isCode c) with hi | hi
  · exact h2 c (List.mem_filter.mpr ⟨hc, hi⟩)
  · simpa [hi] using h
set_option maxRecDepth 65536 in
theorem w_c0 : (Jvm.Cond.code x code maxLocals ret).before args0 about1 = true := code_word (m := ⟨1, 1⟩) (meth := k1m1) (c := k1c1) (by decide +kernel) rfl rfl rfl (by decide +kernel)
set_option maxRecDepth 65536 in
theorem w_c1 : (Jvm.Cond.code ({ cls := "com/example/key_lock/keylock/lock/Limits", name := "checkAttempts", desc := "(I)I" } : Jvm.MethodName) prog_8_method_6_code (1 : Nat) (Option.some Jvm.ClassFile.FieldType.int)).before args0 about1 = true := code_word (m := ⟨2, 1⟩) (meth := k2m1) (c := k2c1) (by decide +kernel) rfl rfl rfl (by decide +kernel)
set_option maxRecDepth 65536 in
theorem w_c2 : (Jvm.Cond.code ({ cls := "com/example/key_lock/keylock/lock/Limits", name := "oneTo", desc := "(IILjava/lang/String;Ljava/lang/String;)I" } : Jvm.MethodName) prog_8_method_7_code (4 : Nat) (Option.some Jvm.ClassFile.FieldType.int)).before args0 about1 = true := code_word (m := ⟨2, 2⟩) (meth := k2m2) (c := k2c2) (by decide +kernel) rfl rfl rfl (by decide +kernel)
def codes1 : List Jvm.Cond := [Jvm.Cond.code x code maxLocals ret, Jvm.Cond.code ({ cls := "com/example/key_lock/keylock/lock/Limits", name := "checkAttempts", desc := "(I)I" } : Jvm.MethodName) prog_8_method_6_code (1 : Nat) (Option.some Jvm.ClassFile.FieldType.int), Jvm.Cond.code ({ cls := "com/example/key_lock/keylock/lock/Limits", name := "oneTo", desc := "(IILjava/lang/String;Ljava/lang/String;)I" } : Jvm.MethodName) prog_8_method_7_code (4 : Nat) (Option.some Jvm.ClassFile.FieldType.int)]
set_option maxRecDepth 65536 in
theorem codes_eq : words1.filter isCode = codes1 := rfl
theorem w_codes : ∀ c ∈ words1.filter isCode, c.before args0 about1 = true := by
  rw [codes_eq]
  intro c hc
  simp only [codes1, List.mem_cons, List.not_mem_nil, or_false] at hc
  rcases hc with rfl | rfl | rfl
  · exact w_c0
  · exact w_c1
  · exact w_c2
set_option maxRecDepth 65536 in
theorem w_t1 : words1.all (fun c => isCode c || c.before args0 about1) = true := by decide +kernel
theorem w_tables : (allAtoms (Jvm.Cond.code x code maxLocals ret :: tables_1)).before args0 about1 = true := by
  rw [allAtoms_all]
  show words1.all (fun c => c.before args0 about1) = true
  refine all_split ?_ w_codes
  rw [w_t1]
set_option maxRecDepth 65536 in
theorem w_case : (Jvm.Cond.and given_1 narrow_1).before args0 about1 = true := by decide +kernel
theorem w_applies : (headSpec (Jvm.Cond.code x code maxLocals ret :: tables_1) room_1).applies x e0.platform about1 = true :=
  (Spec.applies_iff w_frames).mpr ⟨w_running, w_runnable, w_alone, w_named, w_hears, w_ripe, w_room, w_tables⟩
theorem atStart : AtStart classFile x code maxLocals ret World_1 tables_1 room_1 Calls_1 rest_1 Pre_1 launch0 p0 e0 about1 theMethod args0 below0 :=
  ⟨lists_1, trivial, launch0.admits_env _ _ _, launch0.least_env, fairChoices_fair.cas, fairChoices_fair.clock, w_frames, w_args, w_heap, w_applies, trivial, trivial, w_case⟩
end start1
theorem witness_1 : WitnessClaimed_1 := ⟨start1.p0, start1.e0, start1.about1, start1.theMethod, start1.args0, start1.below0, start1.atStart⟩
end Jvm.Pilot.@@N@@
