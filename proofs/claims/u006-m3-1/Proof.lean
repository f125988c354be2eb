import JvmDerived
import JvmDerived.Pilot.@@N@@Statement
import JvmDerived.Pilot.@@N@@Code
set_option linter.unusedVariables false
set_option linter.unusedSimpArgs false
namespace Jvm.RoadKit
open Sem ClassFile Op Lib Jvm.Stand Jvm.Free Jvm.LawKit
section New
variable {p : Program} {l : Launch} {e : Env} {R : Room} {s : State} {m : MethodId} {args : Array Value} {below : List Frame} {meth : Method} {c : Code} {T : State} {locs : List Loc} {cells slots : Nat}
theorem retI (X : Stand p l e R s m args below meth c T locs cells slots) (hx : p.tables.exec = Jvm.exec) {pc : Nat} {Ls : Array Slot} {z : Int32} {rest : List Value} (hret : meth.sig.returnType = some .int) (hd : decode c.code pc = .ok (.ireturn, 1)) {fs : List Frame}
    (hl : ∀ (f : JFrame) (acts : List Action), f.method = m → f.locked = none → f.entered = [] → (doReturn e (T.setTop f) acts (some (.int z))).1 = T.setFrames fs) : Steps p.tables e below (T.setTop (mkF m pc Ls (.int z :: rest))) (T.setFrames fs) := by
  have hm' : T.vm.method? m = some meth := X.method'
  have hn : narrow .int (.int z) = .int z := rfl
  show Steps p.tables e below (T.setTop { method := m, pc := pc, locals := Ls, stack := _ :: rest, locked := none }) _
  jvm_step X.here [X.here.top, hx, hd, hm', hret, hn]
  first | (intro acts; rw [hl _ acts rfl rfl rfl]) | rw [hl _ _ rfl rfl rfl]
  exact Steps.refl _
end New
end Jvm.RoadKit
namespace Jvm.Pilot.@@N@@
open Jvm Jvm.ClassFile Sem Op Lib Jvm.Free Jvm.Stand Jvm.LawKit Jvm.RoadKit Bundle Jvm.Pilot.@@N@@.Jvm.D
def Gl (p : Program) (e : Env) (below : List Frame) (Q : Outcome → State → Prop) (A : State) : Prop := ∃ t o, Steps p.tables e below A t ∧ t.status = .running ∧ Ended t below o ∧ Q o t
theorem Gl.st {p : Program} {e : Env} {below : List Frame} {Q : Outcome → State → Prop} {A B : State} (k : ∀ t, Steps p.tables e below B t → Steps p.tables e below A t) (h : Gl p e below Q B) : Gl p e below Q A := by
  obtain ⟨t, o, h1, r⟩ := h
  exact ⟨t, o, k t h1, r⟩
theorem Gl.cast {p : Program} {e : Env} {below : List Frame} {Q : Outcome → State → Prop} {A B : State} (k : A = B) (h : Gl p e below Q B) : Gl p e below Q A := k ▸ h
theorem Gl.join {p : Program} {e : Env} {below : List Frame} {Q : Outcome → State → Prop} {A B : State} (k : Gl p e below Q A → Gl p e below Q B) (h : Gl p e below Q A) : Gl p e below Q B := k h
theorem Gl.fin {p : Program} {e : Env} {below : List Frame} {Q : Outcome → State → Prop} {A t : State} {o : Outcome} (h1 : Steps p.tables e below A t) (h2 : t.status = .running) (h3 : Ended t below o) (h4 : Q o t) : Gl p e below Q A := ⟨t, o, h1, h2, h3, h4⟩
theorem tw {a0 : Array Value} {Z : State} (hw : ∀ d ∈ tables_1, d.before a0 Z = true) (i : Nat) {d : Jvm.Cond} (h : tables_1[i]? = some d) : d.before a0 Z = true := hw _ (List.mem_of_getElem? h)
theorem ldAt {L M : Array Slot} (h : L = M) {k : Nat} {v : Slot} (q : M[k]? = some v) : L[k]? = some v := h ▸ q
theorem stAt {L M L' M' : Array Slot} {k : Nat} {v w : Value} (h : L = M) (h' : L' = M') (e : w = v) (q : storeLocals M k v = some M') : storeLocals L k w = some L' := by subst h h' e; exact q
theorem stAt' {L M L' M' : Array Slot} {k : Nat} {v w : Value} (h : L = M) (h' : L' = M') (e : w = v) (q : storeLocals M k v = some M') : storeLocals L k w = some L' := by subst h h' e; exact q
theorem szAt {L M : Array Slot} {k n : Nat} (h : k = n) (h' : L = M) (q : M.size = n) : L.size = k := by subst h h'; exact q
theorem efAt {m : MethodId} {L M : Array Slot} {f : JFrame} (h : L = M) (q : f = mkF m 0 M []) : f = mkF m 0 L [] := h ▸ q
theorem own_nb {c : Prop} [Decidable c] {a b : Int32} (ha : nar .boolean a = a) (hb : nar .boolean b = b) : nar .boolean (if c then a else b) = if c then a else b := by split <;> assumption
theorem own_eqL {args : Array Value} {s : State} {t : Term} {z : Int64} (h : (Jvm.Cond.eq t (.long z)).value args s none s [] = some true) : t.eval args s none [] s = some (.long z) := by
  obtain ⟨x, y, ha, hb, k1, k2⟩ := cmp_v (Or.inl h)
  obtain rfl : y = .long z := Option.some.inj (hb.symm.trans (long_at z))
  obtain ⟨w, rfl⟩ : ∃ w, x = .long w := k2
  rw [ha, gotT (eq_L ha hb) h]
theorem own_eqI {args : Array Value} {s : State} {t : Term} {z : Int32} (h : (Jvm.Cond.eq t (.int z)).value args s none s [] = some true) : t.eval args s none [] s = some (.int z) := by
  obtain ⟨x, y, ha, hb, k1, k2⟩ := cmp_v (Or.inl h)
  obtain rfl : y = .int z := Option.some.inj (hb.symm.trans (Term.int_eval z))
  obtain ⟨w, rfl⟩ : ∃ w, x = .int w := k2
  rw [ha, gotT (Cond.eq_ints ha hb) h]
theorem own_sta_keep {Z : State} {h h' : Heap} {C n d : String} {v : Value} {ws : List Addr} (F : Sta Z h C n d v) (K : Keep h h' ws) (q : ∀ x ∈ ws, ∀ cell : Cell, h[x]? = some cell → cell.vm.isStatics = false) : Sta Z h' C n d v := by
  obtain ⟨cf, i, k, f, a, cell, h1, h2, h3, h4, h5, h6, r⟩ := F
  exact ⟨cf, i, k, f, a, cell, h1, h2, h3, h4, K.2.1 a cell h5 (fun y => by have := q a y cell h5; rw [h6] at this; cases this), h6, r⟩
theorem own_exa_plain {Z : State} {h : Heap} {a : Addr} {C : String} (F : Exa Z h a C) : ∀ cell : Cell, h[a]? = some cell → cell.vm.isStatics = false := fun cell hc => by
  obtain ⟨c', k, h1, -, -, h4, -⟩ := F
  rw [h1] at hc; cases hc; exact h4
theorem own_arv_plain {Z : State} {h : Heap} {a : Addr} {k : ClassId} {ty : FieldType} {z : Int32} {vs : List Value} {dv : Value} (F : Arv Z h a k ty z vs dv) : ∀ cell : Cell, h[a]? = some cell → cell.vm.isStatics = false := fun cell hc => by
  obtain ⟨c', A, -⟩ := F
  have := A.1; rw [this] at hc; cases hc; exact A.plain
theorem own_nn (q : Int64) : ¬ ((q &&& (9223372036854775807 : Int64)) < (0 : Int64)) := by
  rw [Int64.lt_iff_toInt_lt, c_maskL q (9223372036854775807 : Int64) 63 (by decide) (by decide)]
  simp only [Int64.reduceToInt]
  omega
theorem d1_0 : decode jdk_29_method_70_code 0 = .ok (.lload_n 0, 1) := by decide +kernel
theorem d1_1 : decode jdk_29_method_70_code 1 = .ok (.lload_n 2, 1) := by decide +kernel
theorem d1_2 : decode jdk_29_method_70_code 2 = .ok (.lcmp, 1) := by decide +kernel
theorem d1_3 : decode jdk_29_method_70_code 3 = .ok (.ifCond .gt 7, 3) := by decide +kernel
theorem d1_6 : decode jdk_29_method_70_code 6 = .ok (.lload_n 0, 1) := by decide +kernel
theorem d1_7 : decode jdk_29_method_70_code 7 = .ok (.goto 4, 3) := by decide +kernel
theorem d1_10 : decode jdk_29_method_70_code 10 = .ok (.lload_n 2, 1) := by decide +kernel
theorem d1_11 : decode jdk_29_method_70_code 11 = .ok (.lreturn, 1) := by decide +kernel
theorem ef_1 (m : MethodId) (q1 : Int64) (q2 : Int64) : entryFrame m #[(.long q1), (.long q2)] 4 = mkF m 0 #[.val (.long q1), .second, .val (.long q2), .second] [] := by first | (simp [entryFrame, mkF, argsToLocals, Value.category]; done) | rfl
def Q1 (Z : State) (q1 : Int64) (q2 : Int64) (h0 : Heap) (n0 : Nat) (v : Option Value) (h : Heap) (L : List Loc) : Prop := v = some (.long ((if q2 < q1 then q2 else q1))) ∧ Fr n0 L ∧ h = h0
set_option maxRecDepth 65536 in
set_option maxHeartbeats 40000000 in
theorem rm1 (l : Launch) (Z : State) (a0 : Array Value) (hw : ∀ d ∈ tables_1, d.before a0 Z = true) (ws : List Jvm.Cond) (q1 : Int64) (q2 : Int64) (h0 : Heap) (n0 : Nat) (Z0 : n0 ≤ h0.size) :
    MetFree l (⟨"java/lang/Math", "min", "(JJ)J"⟩ : MethodName) (head1 (Jvm.Cond.code (⟨"java/lang/Math", "min", "(JJ)J"⟩ : MethodName) jdk_29_method_70_code 4 (some .long) :: ws) ({ frames := 0, cells := 0, slots := 0, locals := 0 } : Room)) (fun a U => a = #[(.long q1), (.long q2)] ∧ Z.Warmed39 U.vm ∧ U.heap = h0) (fun _ _ _ _ _ => True) (fun _ U o U' => ∃ v L, o = .returned v ∧ Q1 Z q1 q2 h0 n0 v U'.heap L ∧ FrameEnd U o U' L ({ frames := 0, cells := 0, slots := 0, locals := 0 } : Room).cells ({ frames := 0, cells := 0, slots := 0, locals := 0 } : Room).slots) := by
  refine MetFree.of_bodySF (Jvm.Free.JP.mathPlain rfl (by decide +kernel)) hisR ?_
  intro p e s m args below meth c s₁ Bd hml0 hP hK
  obtain ⟨rfl, hZ, hh⟩ := hP
  have hx := Bd.exec
  have hby := Bd.bytes
  have hml : c.maxLocals = 4 := hml0
  have hown : s.vm.findClass "java/lang/Math" = some m.cls := findClass_of_methodNamed Bd.named
  have hnm := (name_of_methodNamed Bd.named Bd.method).1
  have X0 : Stand p l e ({ frames := 0, cells := 0, slots := 0, locals := 0 } : Room) s m #[(.long q1), (.long q2)] below meth c s₁ [] 0 0 := Stand.of_body Bd
  have e0 : s₁.heap = h0 := by rw [← hh, Bd.state]; rfl
  have N0 := Fr.nil n0
  have K0 : Keep h0 h0 [] := Keep.refl h0 _
  refine (show Gl p e below (fun o U' => ∃ v L, o = .returned v ∧ Q1 Z q1 q2 h0 n0 v U'.heap L ∧ FrameEnd s o U' L ({ frames := 0, cells := 0, slots := 0, locals := 0 } : Room).cells ({ frames := 0, cells := 0, slots := 0, locals := 0 } : Room).slots) (s₁.setTop (entryFrame m #[(.long q1), (.long q2)] 4)) from ?_)
  obtain ⟨L0, hL0⟩ : ∃ z : Array Slot, z = #[.val (.long q1), .second, .val (.long q2), .second] := ⟨_, rfl⟩
  refine Gl.st (B := (s₁.setTop (mkF m 0 L0 []))) (fun t k => castTop (efAt hL0 (ef_1 m q1 q2)) k) ?_
  refine Gl.st (B := (s₁.setTop (mkF m 1 L0 [(.long q1)]))) (fun t k => XS.lloadN X0.here hx rfl (hb hby d1_0) (ldAt hL0 rfl) k) ?_
  refine Gl.st (B := (s₁.setTop (mkF m 2 L0 [(.long q2), (.long q1)]))) (fun t k => XS.lloadN X0.here hx rfl (hb hby d1_1) (ldAt hL0 rfl) k) ?_
  refine Gl.st (B := (s₁.setTop (mkF m 3 L0 [(.int (lcmpW q1 q2))]))) (fun t k => XS.lcmp X0.here hx rfl (hb hby d1_2) rfl k) ?_
  obtain ⟨v11_s0_2, hv11_s0_2⟩ : ∃ z : Int64, z = (if q2 < q1 then q2 else q1) := ⟨_, rfl⟩
  refine Gl.join (A := (s₁.setTop (mkF m 11 L0 [(.long v11_s0_2)]))) (fun J3_2 => ?_) ?_
  · by_cases hc3_1 : q2 < q1
    · skip
      refine Gl.st (B := (s₁.setTop (mkF m 10 L0 []))) (fun t k => XS.ifYes X0.here hx rfl (pc0 := 3) (pc' := 10) rfl (hb hby d1_3) rfl ((if0 _ _).trans (tlt ((lw_gt q1 q2).mpr hc3_1)).2.2.1) (by decide) (by decide) k) ?_
      refine Gl.st (B := (s₁.setTop (mkF m 11 L0 [(.long q2)]))) (fun t k => XS.lloadN X0.here hx rfl (hb hby d1_10) (ldAt hL0 rfl) k) ?_
      have ev11_s0_2 : v11_s0_2 = q2 := by rw [hv11_s0_2, if_pos hc3_1]
      rw [ev11_s0_2] at J3_2
      exact J3_2
    · skip
      refine Gl.st (B := (s₁.setTop (mkF m 6 L0 []))) (fun t k => XS.ifNo X0.here hx rfl (hb hby d1_3) rfl ((if0 _ _).trans (flt (mt (lw_gt q1 q2).mp hc3_1)).2.2.1) k) ?_
      refine Gl.st (B := (s₁.setTop (mkF m 7 L0 [(.long q1)]))) (fun t k => XS.lloadN X0.here hx rfl (hb hby d1_6) (ldAt hL0 rfl) k) ?_
      refine Gl.st (B := (s₁.setTop (mkF m 11 L0 [(.long q1)]))) (fun t k => XS.goto X0.here hx rfl (pc0 := 7) (pc' := 11) rfl (hb hby d1_7) (by decide) (by decide) k) ?_
      have ev11_s0_2 : v11_s0_2 = q1 := by rw [hv11_s0_2, if_neg hc3_1]
      rw [ev11_s0_2] at J3_2
      exact J3_2
  obtain ⟨fs, hr, hrun, hended, hW, hsame⟩ := X0.leave (v := some (.long v11_s0_2)) (fun h => by rw [Bd.returns] at h; cases h)
  refine Gl.fin (X0.lreturnOut hx Bd.returns (hb hby d1_11) hr) hrun hended ⟨_, _, rfl, ?_, ⟨_, rfl⟩, hW, hsame.mono (by decide) (by decide)⟩
  show Q1 Z q1 q2 h0 n0 _ s₁.heap _
  rw [e0]
  exact ⟨(by subst hv11_s0_2; rfl), N0, rfl⟩
theorem d2_0 : decode jdk_29_method_66_code 0 = .ok (.lload_n 0, 1) := by decide +kernel
theorem d2_1 : decode jdk_29_method_66_code 1 = .ok (.lload_n 2, 1) := by decide +kernel
theorem d2_2 : decode jdk_29_method_66_code 2 = .ok (.lcmp, 1) := by decide +kernel
theorem d2_3 : decode jdk_29_method_66_code 3 = .ok (.ifCond .lt 7, 3) := by decide +kernel
theorem d2_6 : decode jdk_29_method_66_code 6 = .ok (.lload_n 0, 1) := by decide +kernel
theorem d2_7 : decode jdk_29_method_66_code 7 = .ok (.goto 4, 3) := by decide +kernel
theorem d2_10 : decode jdk_29_method_66_code 10 = .ok (.lload_n 2, 1) := by decide +kernel
theorem d2_11 : decode jdk_29_method_66_code 11 = .ok (.lreturn, 1) := by decide +kernel
theorem ef_2 (m : MethodId) (q1 : Int64) (q2 : Int64) : entryFrame m #[(.long q1), (.long q2)] 4 = mkF m 0 #[.val (.long q1), .second, .val (.long q2), .second] [] := by first | (simp [entryFrame, mkF, argsToLocals, Value.category]; done) | rfl
def Q2 (Z : State) (q1 : Int64) (q2 : Int64) (h0 : Heap) (n0 : Nat) (v : Option Value) (h : Heap) (L : List Loc) : Prop := v = some (.long ((if q1 < q2 then q2 else q1))) ∧ Fr n0 L ∧ h = h0
set_option maxRecDepth 65536 in
set_option maxHeartbeats 40000000 in
theorem rm2 (l : Launch) (Z : State) (a0 : Array Value) (hw : ∀ d ∈ tables_1, d.before a0 Z = true) (ws : List Jvm.Cond) (q1 : Int64) (q2 : Int64) (h0 : Heap) (n0 : Nat) (Z0 : n0 ≤ h0.size) :
    MetFree l (⟨"java/lang/Math", "max", "(JJ)J"⟩ : MethodName) (head1 (Jvm.Cond.code (⟨"java/lang/Math", "max", "(JJ)J"⟩ : MethodName) jdk_29_method_66_code 4 (some .long) :: ws) ({ frames := 0, cells := 0, slots := 0, locals := 0 } : Room)) (fun a U => a = #[(.long q1), (.long q2)] ∧ Z.Warmed39 U.vm ∧ U.heap = h0) (fun _ _ _ _ _ => True) (fun _ U o U' => ∃ v L, o = .returned v ∧ Q2 Z q1 q2 h0 n0 v U'.heap L ∧ FrameEnd U o U' L ({ frames := 0, cells := 0, slots := 0, locals := 0 } : Room).cells ({ frames := 0, cells := 0, slots := 0, locals := 0 } : Room).slots) := by
  refine MetFree.of_bodySF (Jvm.Free.JP.mathPlain rfl (by decide +kernel)) hisR ?_
  intro p e s m args below meth c s₁ Bd hml0 hP hK
  obtain ⟨rfl, hZ, hh⟩ := hP
  have hx := Bd.exec
  have hby := Bd.bytes
  have hml : c.maxLocals = 4 := hml0
  have hown : s.vm.findClass "java/lang/Math" = some m.cls := findClass_of_methodNamed Bd.named
  have hnm := (name_of_methodNamed Bd.named Bd.method).1
  have X0 : Stand p l e ({ frames := 0, cells := 0, slots := 0, locals := 0 } : Room) s m #[(.long q1), (.long q2)] below meth c s₁ [] 0 0 := Stand.of_body Bd
  have e0 : s₁.heap = h0 := by rw [← hh, Bd.state]; rfl
  have N0 := Fr.nil n0
  have K0 : Keep h0 h0 [] := Keep.refl h0 _
  refine (show Gl p e below (fun o U' => ∃ v L, o = .returned v ∧ Q2 Z q1 q2 h0 n0 v U'.heap L ∧ FrameEnd s o U' L ({ frames := 0, cells := 0, slots := 0, locals := 0 } : Room).cells ({ frames := 0, cells := 0, slots := 0, locals := 0 } : Room).slots) (s₁.setTop (entryFrame m #[(.long q1), (.long q2)] 4)) from ?_)
  obtain ⟨L0, hL0⟩ : ∃ z : Array Slot, z = #[.val (.long q1), .second, .val (.long q2), .second] := ⟨_, rfl⟩
  refine Gl.st (B := (s₁.setTop (mkF m 0 L0 []))) (fun t k => castTop (efAt hL0 (ef_2 m q1 q2)) k) ?_
  refine Gl.st (B := (s₁.setTop (mkF m 1 L0 [(.long q1)]))) (fun t k => XS.lloadN X0.here hx rfl (hb hby d2_0) (ldAt hL0 rfl) k) ?_
  refine Gl.st (B := (s₁.setTop (mkF m 2 L0 [(.long q2), (.long q1)]))) (fun t k => XS.lloadN X0.here hx rfl (hb hby d2_1) (ldAt hL0 rfl) k) ?_
  refine Gl.st (B := (s₁.setTop (mkF m 3 L0 [(.int (lcmpW q1 q2))]))) (fun t k => XS.lcmp X0.here hx rfl (hb hby d2_2) rfl k) ?_
  obtain ⟨v11_s0_2, hv11_s0_2⟩ : ∃ z : Int64, z = (if q1 < q2 then q2 else q1) := ⟨_, rfl⟩
  refine Gl.join (A := (s₁.setTop (mkF m 11 L0 [(.long v11_s0_2)]))) (fun J3_2 => ?_) ?_
  · by_cases hc3_1 : q1 < q2
    · skip
      refine Gl.st (B := (s₁.setTop (mkF m 10 L0 []))) (fun t k => XS.ifYes X0.here hx rfl (pc0 := 3) (pc' := 10) rfl (hb hby d2_3) rfl ((if0 _ _).trans (tlt ((lw_lt q1 q2).mpr hc3_1)).1) (by decide) (by decide) k) ?_
      refine Gl.st (B := (s₁.setTop (mkF m 11 L0 [(.long q2)]))) (fun t k => XS.lloadN X0.here hx rfl (hb hby d2_10) (ldAt hL0 rfl) k) ?_
      have ev11_s0_2 : v11_s0_2 = q2 := by rw [hv11_s0_2, if_pos hc3_1]
      rw [ev11_s0_2] at J3_2
      exact J3_2
    · skip
      refine Gl.st (B := (s₁.setTop (mkF m 6 L0 []))) (fun t k => XS.ifNo X0.here hx rfl (hb hby d2_3) rfl ((if0 _ _).trans (flt (mt (lw_lt q1 q2).mp hc3_1)).1) k) ?_
      refine Gl.st (B := (s₁.setTop (mkF m 7 L0 [(.long q1)]))) (fun t k => XS.lloadN X0.here hx rfl (hb hby d2_6) (ldAt hL0 rfl) k) ?_
      refine Gl.st (B := (s₁.setTop (mkF m 11 L0 [(.long q1)]))) (fun t k => XS.goto X0.here hx rfl (pc0 := 7) (pc' := 11) rfl (hb hby d2_7) (by decide) (by decide) k) ?_
      have ev11_s0_2 : v11_s0_2 = q1 := by rw [hv11_s0_2, if_neg hc3_1]
      rw [ev11_s0_2] at J3_2
      exact J3_2
  obtain ⟨fs, hr, hrun, hended, hW, hsame⟩ := X0.leave (v := some (.long v11_s0_2)) (fun h => by rw [Bd.returns] at h; cases h)
  refine Gl.fin (X0.lreturnOut hx Bd.returns (hb hby d2_11) hr) hrun hended ⟨_, _, rfl, ?_, ⟨_, rfl⟩, hW, hsame.mono (by decide) (by decide)⟩
  show Q2 Z q1 q2 h0 n0 _ s₁.heap _
  rw [e0]
  exact ⟨(by subst hv11_s0_2; rfl), N0, rfl⟩
theorem d4_0 : decode jdk_30_method_1_code 0 = .ok (.aload_n 0, 1) := by decide +kernel
theorem d4_1 : decode jdk_30_method_1_code 1 = .ok (.invokespecial 1, 3) := by decide +kernel
theorem d4_4 : decode jdk_30_method_1_code 4 = .ok (.return_, 1) := by decide +kernel
theorem pn_4 : plainName "java/lang/Record" = true := by first | (simp [plainName, overriddenIn]; done) | decide +kernel
theorem ef_4 (m : MethodId) (a1 : Addr) : entryFrame m #[(.ref a1)] 1 = mkF m 0 #[.val (.ref a1)] [] := by first | (simp [entryFrame, mkF, argsToLocals, Value.category]; done) | rfl
def Q4 (Z : State) (a1 : Addr) (h0 : Heap) (n0 : Nat) (v : Option Value) (h : Heap) (L : List Loc) : Prop := v = none ∧ Fr n0 L ∧ h = h0
set_option maxRecDepth 65536 in
set_option maxHeartbeats 40000000 in
theorem rm4 (l : Launch) (Z : State) (a0 : Array Value) (hw : ∀ d ∈ tables_1, d.before a0 Z = true) (ws : List Jvm.Cond) (a1 : Addr) (h0 : Heap) (n0 : Nat) (Z0 : n0 ≤ h0.size) :
    MetFree l (⟨"java/lang/Record", "<init>", "()V"⟩ : MethodName) (head1 (Jvm.Cond.code (⟨"java/lang/Record", "<init>", "()V"⟩ : MethodName) jdk_30_method_1_code 1 none :: ws) ({ frames := 1, cells := 0, slots := 0, locals := 12 } : Room)) (fun a U => a = #[(.ref a1)] ∧ Z.Warmed39 U.vm ∧ U.heap = h0) (fun _ _ _ _ _ => True) (fun _ U o U' => ∃ v L, o = .returned v ∧ Q4 Z a1 h0 n0 v U'.heap L ∧ FrameEnd U o U' L ({ frames := 1, cells := 0, slots := 0, locals := 12 } : Room).cells ({ frames := 1, cells := 0, slots := 0, locals := 12 } : Room).slots) := by
  refine MetFree.of_bodySF (plainFor_of_name pn_4) hisR ?_
  intro p e s m args below meth c s₁ Bd hml0 hP hK
  obtain ⟨rfl, hZ, hh⟩ := hP
  have hx := Bd.exec
  have hby := Bd.bytes
  have hml : c.maxLocals = 1 := hml0
  have hown : s.vm.findClass "java/lang/Record" = some m.cls := findClass_of_methodNamed Bd.named
  have hnm := (name_of_methodNamed Bd.named Bd.method).1
  have X0 : Stand p l e ({ frames := 1, cells := 0, slots := 0, locals := 12 } : Room) s m #[(.ref a1)] below meth c s₁ [] 0 0 := Stand.of_body Bd
  have e0 : s₁.heap = h0 := by rw [← hh, Bd.state]; rfl
  have N0 := Fr.nil n0
  have K0 : Keep h0 h0 [] := Keep.refl h0 _
  refine (show Gl p e below (fun o U' => ∃ v L, o = .returned v ∧ Q4 Z a1 h0 n0 v U'.heap L ∧ FrameEnd s o U' L ({ frames := 1, cells := 0, slots := 0, locals := 12 } : Room).cells ({ frames := 1, cells := 0, slots := 0, locals := 12 } : Room).slots) (s₁.setTop (entryFrame m #[(.ref a1)] 1)) from ?_)
  obtain ⟨L0, hL0⟩ : ∃ z : Array Slot, z = #[.val (.ref a1)] := ⟨_, rfl⟩
  refine Gl.st (B := (s₁.setTop (mkF m 0 L0 []))) (fun t k => castTop (efAt hL0 (ef_4 m a1)) k) ?_
  refine Gl.st (B := (s₁.setTop (mkF m 1 L0 [(.ref a1)]))) (fun t k => XS.aloadN X0.here hx rfl (hb hby d4_0) (ldAt hL0 rfl) rfl k) ?_
  obtain ⟨T1, X1, e1, st1⟩ := initO X0 hx hZ hown (tw hw 20 rfl) (tw hw 21 rfl) (tw hw 22 rfl) e0 (g := (mkF m 1 L0 [(.ref a1)])) rfl (szAt hml hL0 rfl) rfl (hb hby d4_1) (by decide) (W := 0) (by show 2 * 0 + _ ≤ _; exact Nat.le_of_eq rfl) (by decide)
  refine Gl.st (B := (T1.setTop (mkF m 4 L0 []))) st1 ?_
  obtain ⟨fs, hr, hrun, hended, hW, hsame⟩ := X1.leave (v := none) (fun _ => rfl)
  refine Gl.fin (X1.returnOut hx Bd.returns (hb hby d4_4) hr) hrun hended ⟨_, _, rfl, ?_, ⟨_, rfl⟩, hW, hsame.mono (by decide) (by decide)⟩
  show Q4 Z a1 h0 n0 _ T1.heap _
  rw [e1]
  exact ⟨rfl, N0, rfl⟩
theorem sn0 {Z : State} {a0 : Array Value} (hw : ∀ d ∈ tables_1, d.before a0 Z = true) : Jvm.RoadKit.slotOf Z "com/example/idem1/idem1/ByteRange" "max" "J" ≠ Jvm.RoadKit.slotOf Z "com/example/idem1/idem1/ByteRange" "min" "J" := slot_ne (Or.inr (tw hw 26 rfl)) (Or.inr (tw hw 24 rfl)) (by decide) (t := .long) (t' := .long) (by decide) (by decide)
theorem sn1 {Z : State} {a0 : Array Value} (hw : ∀ d ∈ tables_1, d.before a0 Z = true) : Jvm.RoadKit.slotOf Z "com/example/idem1/idem1/ByteRange" "min" "J" ≠ Jvm.RoadKit.slotOf Z "com/example/idem1/idem1/ByteRange" "max" "J" := slot_ne (Or.inr (tw hw 24 rfl)) (Or.inr (tw hw 26 rfl)) (by decide) (t := .long) (t' := .long) (by decide) (by decide)
theorem d3_0 : decode prog_2_method_1_code 0 = .ok (.aload_n 0, 1) := by decide +kernel
theorem d3_1 : decode prog_2_method_1_code 1 = .ok (.invokespecial 1, 3) := by decide +kernel
theorem d3_4 : decode prog_2_method_1_code 4 = .ok (.aload_n 0, 1) := by decide +kernel
theorem d3_5 : decode prog_2_method_1_code 5 = .ok (.lload_n 1, 1) := by decide +kernel
theorem d3_6 : decode prog_2_method_1_code 6 = .ok (.putfield 7, 3) := by decide +kernel
theorem d3_9 : decode prog_2_method_1_code 9 = .ok (.aload_n 0, 1) := by decide +kernel
theorem d3_10 : decode prog_2_method_1_code 10 = .ok (.lload_n 3, 1) := by decide +kernel
theorem d3_11 : decode prog_2_method_1_code 11 = .ok (.putfield 13, 3) := by decide +kernel
theorem d3_14 : decode prog_2_method_1_code 14 = .ok (.return_, 1) := by decide +kernel
theorem pn_3 : plainName "com/example/idem1/idem1/ByteRange" = true := by first | (simp [plainName, overriddenIn]; done) | decide +kernel
theorem pd_3_0 : parseMethodDescriptor "()V" = some ⟨[], none⟩ := by decide +kernel
theorem ef_3 (m : MethodId) (a1 : Addr) (q2 : Int64) (q3 : Int64) : entryFrame m #[(.ref a1), (.long q2), (.long q3)] 5 = mkF m 0 #[.val (.ref a1), .val (.long q2), .second, .val (.long q3), .second] [] := by first | (simp [entryFrame, mkF, argsToLocals, Value.category]; done) | rfl
def Q3 (Z : State) (a1 : Addr) (q2 : Int64) (q3 : Int64) (u_min_a1 : Value) (u_max_a1 : Value) (h0 : Heap) (n0 : Nat) (v : Option Value) (h : Heap) (L : List Loc) : Prop := v = none ∧ Fr n0 L ∧ Keep h0 h [a1] ∧ Exa Z h a1 "com/example/idem1/idem1/ByteRange" ∧ Fld Z h a1 "com/example/idem1/idem1/ByteRange" "min" "J" (.long q2) ∧ Fld Z h a1 "com/example/idem1/idem1/ByteRange" "max" "J" (.long q3)
set_option maxRecDepth 65536 in
set_option maxHeartbeats 40000000 in
theorem rm3 (l : Launch) (Z : State) (a0 : Array Value) (hw : ∀ d ∈ tables_1, d.before a0 Z = true) (ws : List Jvm.Cond) (a1 : Addr) (q2 : Int64) (q3 : Int64) (u_min_a1 : Value) (u_max_a1 : Value) (h0 : Heap) (n0 : Nat) (Z0 : n0 ≤ h0.size) (E_a1 : Exa Z h0 a1 "com/example/idem1/idem1/ByteRange") (F_min_a1 : Fld Z h0 a1 "com/example/idem1/idem1/ByteRange" "min" "J" u_min_a1) (g_a1 : n0 ≤ a1) (F_max_a1 : Fld Z h0 a1 "com/example/idem1/idem1/ByteRange" "max" "J" u_max_a1) :
    MetFree l (⟨"com/example/idem1/idem1/ByteRange", "<init>", "(JJ)V"⟩ : MethodName) (head1 (Jvm.Cond.code (⟨"com/example/idem1/idem1/ByteRange", "<init>", "(JJ)V"⟩ : MethodName) prog_2_method_1_code 5 none :: ws) ({ frames := 2, cells := 0, slots := 0, locals := 24 } : Room)) (fun a U => a = #[(.ref a1), (.long q2), (.long q3)] ∧ Z.Warmed39 U.vm ∧ U.heap = h0) (fun _ _ _ _ _ => True) (fun _ U o U' => ∃ v L, o = .returned v ∧ Q3 Z a1 q2 q3 u_min_a1 u_max_a1 h0 n0 v U'.heap L ∧ FrameEnd U o U' L ({ frames := 2, cells := 0, slots := 0, locals := 24 } : Room).cells ({ frames := 2, cells := 0, slots := 0, locals := 24 } : Room).slots) := by
  refine MetFree.of_bodySF (plainFor_of_name pn_3) hisR ?_
  intro p e s m args below meth c s₁ Bd hml0 hP hK
  obtain ⟨rfl, hZ, hh⟩ := hP
  have hx := Bd.exec
  have hby := Bd.bytes
  have hml : c.maxLocals = 5 := hml0
  have hown : s.vm.findClass "com/example/idem1/idem1/ByteRange" = some m.cls := findClass_of_methodNamed Bd.named
  have hnm := (name_of_methodNamed Bd.named Bd.method).1
  have X0 : Stand p l e ({ frames := 2, cells := 0, slots := 0, locals := 24 } : Room) s m #[(.ref a1), (.long q2), (.long q3)] below meth c s₁ [] 0 0 := Stand.of_body Bd
  have e0 : s₁.heap = h0 := by rw [← hh, Bd.state]; rfl
  have N0 := Fr.nil n0
  have K0 : Keep h0 h0 [a1] := Keep.refl h0 _
  refine (show Gl p e below (fun o U' => ∃ v L, o = .returned v ∧ Q3 Z a1 q2 q3 u_min_a1 u_max_a1 h0 n0 v U'.heap L ∧ FrameEnd s o U' L ({ frames := 2, cells := 0, slots := 0, locals := 24 } : Room).cells ({ frames := 2, cells := 0, slots := 0, locals := 24 } : Room).slots) (s₁.setTop (entryFrame m #[(.ref a1), (.long q2), (.long q3)] 5)) from ?_)
  obtain ⟨L0, hL0⟩ : ∃ z : Array Slot, z = #[.val (.ref a1), .val (.long q2), .second, .val (.long q3), .second] := ⟨_, rfl⟩
  refine Gl.st (B := (s₁.setTop (mkF m 0 L0 []))) (fun t k => castTop (efAt hL0 (ef_3 m a1 q2 q3)) k) ?_
  refine Gl.st (B := (s₁.setTop (mkF m 1 L0 [(.ref a1)]))) (fun t k => XS.aloadN X0.here hx rfl (hb hby d3_0) (ldAt hL0 rfl) rfl k) ?_
  obtain ⟨_, _, ⟨T1, L1q, k1, n1⟩, -, X1, ⟨Lc1, hQ1, l1, y1, z1⟩, st1⟩ := X0.specialBack hx (y := (⟨"java/lang/Record", "<init>", "()V"⟩ : MethodName)) rfl hown (mvT hZ (tw hw 15 rfl)) (mvT hZ (tw hw 16 rfl)) (mvT hZ (tw hw 19 rfl)) (by decide) (backOf (W := 0) (rm4 l Z a0 hw [] a1 h0 n0 Z0) hZ (tw hw 19 rfl) (tw hw 18 rfl) (by decide) (by decide)) (g := (mkF m 1 L0 [(.ref a1)])) rfl (szAt hml hL0 rfl) (Steps.refl _) (a := a1) (argsL := []) (rest := []) (lenOf pd_3_0 rfl) rfl (by show 2 * 0 + _ ≤ _; exact Nat.le_of_eq rfl) (hb hby d3_1) (fun _ _ => ⟨rfl, e0, (by decide : 0 + 0 ≤ _), (by decide : 0 + 0 ≤ _)⟩)
  dsimp only [Pt.U, Pt.locs, Pt.cells, Pt.slots] at X1 l1 y1 z1 st1 hQ1
  subst l1 y1 z1
  obtain ⟨rfl, N1q, eh1⟩ := hQ1
  have N1 := Fr.app N0 N1q
  refine Gl.st (B := (T1.setTop (mkF m 4 L0 []))) (fun t k => st1.trans k) ?_
  refine Gl.st (B := (T1.setTop (mkF m 5 L0 [(.ref a1)]))) (fun t k => XS.aloadN X1.here hx rfl (hb hby d3_4) (ldAt hL0 rfl) rfl k) ?_
  refine Gl.st (B := (T1.setTop (mkF m 6 L0 [(.long q2), (.ref a1)]))) (fun t k => XS.lloadN X1.here hx rfl (hb hby d3_5) (ldAt hL0 rfl) k) ?_
  obtain ⟨T2, h2, X2, e2, W2, st2⟩ := putF X1 hx hZ hown (host := "") (Or.inl (tw hw 23 rfl)) Via.refl eh1 F_min_a1 E_a1 (Or.inr ⟨(tw hw 24 rfl), rfl, hnm⟩) (tw hw 9 rfl) (ty := .long) (by decide) rfl rfl (g := (mkF m 6 L0 [(.long q2), (.ref a1)])) rfl rfl (hb hby d3_6)
  have Fw2 := F_min_a1.same W2
  have Zc3 : n0 ≤ h2.size := Nat.le_trans Z0 (Nat.le_of_eq W2.size.symm)
  have K4 : Keep h0 h2 [a1] := K0.wr W2 (Or.inl (List.mem_of_getElem? (i := 0) rfl))
  have N2 := Fr.snoc X2 N1 g_a1
  refine Gl.st (B := (T2.setTop (mkF m 9 L0 []))) st2 ?_
  refine Gl.st (B := (T2.setTop (mkF m 10 L0 [(.ref a1)]))) (fun t k => XS.aloadN X2.here hx rfl (hb hby d3_9) (ldAt hL0 rfl) rfl k) ?_
  refine Gl.st (B := (T2.setTop (mkF m 11 L0 [(.long q3), (.ref a1)]))) (fun t k => XS.lloadN X2.here hx rfl (hb hby d3_10) (ldAt hL0 rfl) k) ?_
  have c5 := (E_a1.wr W2)
  have c6 := (F_max_a1.other W2 (Or.inr (sn0 hw)))
  obtain ⟨T7, h7, X7, e7, W7, st7⟩ := putF X2 hx hZ hown (host := "") (Or.inl (tw hw 25 rfl)) Via.refl e2 c6 c5 (Or.inr ⟨(tw hw 26 rfl), rfl, hnm⟩) (tw hw 9 rfl) (ty := .long) (by decide) rfl rfl (g := (mkF m 11 L0 [(.long q3), (.ref a1)])) rfl rfl (hb hby d3_11)
  have Fw7 := c6.same W7
  have Zc8 : n0 ≤ h7.size := Nat.le_trans Zc3 (Nat.le_of_eq W7.size.symm)
  have K9 : Keep h0 h7 [a1] := K4.wr W7 (Or.inl (List.mem_of_getElem? (i := 0) rfl))
  have N7 := Fr.snoc X7 N2 g_a1
  refine Gl.st (B := (T7.setTop (mkF m 14 L0 []))) st7 ?_
  obtain ⟨fs, hr, hrun, hended, hW, hsame⟩ := X7.leave (v := none) (fun _ => rfl)
  refine Gl.fin (X7.returnOut hx Bd.returns (hb hby d3_14) hr) hrun hended ⟨_, _, rfl, ?_, ⟨_, rfl⟩, hW, hsame.mono (by decide) (by decide)⟩
  show Q3 Z a1 q2 q3 u_min_a1 u_max_a1 h0 n0 _ T7.heap _
  rw [e7]
  have c10 := (c5.wr W7)
  have c11 := (Fw2.other W7 (Or.inr (sn1 hw)))
  exact ⟨rfl, N7, K9, c10, c11, Fw7⟩
theorem d7_0 : decode prog_2_method_2_code 0 = .ok (.aload_n 0, 1) := by decide +kernel
theorem d7_1 : decode prog_2_method_2_code 1 = .ok (.getfield 7, 3) := by decide +kernel
theorem d7_4 : decode prog_2_method_2_code 4 = .ok (.lconst 0, 1) := by decide +kernel
theorem d7_5 : decode prog_2_method_2_code 5 = .ok (.lcmp, 1) := by decide +kernel
theorem d7_6 : decode prog_2_method_2_code 6 = .ok (.ifCond .ge 7, 3) := by decide +kernel
theorem d7_9 : decode prog_2_method_2_code 9 = .ok (.iconst 1, 1) := by decide +kernel
theorem d7_10 : decode prog_2_method_2_code 10 = .ok (.goto 4, 3) := by decide +kernel
theorem d7_13 : decode prog_2_method_2_code 13 = .ok (.iconst 0, 1) := by decide +kernel
theorem d7_14 : decode prog_2_method_2_code 14 = .ok (.ireturn, 1) := by decide +kernel
theorem pn_7 : plainName "com/example/idem1/idem1/ByteRange" = true := by first | (simp [plainName, overriddenIn]; done) | decide +kernel
theorem ef_7 (m : MethodId) (a1 : Addr) : entryFrame m #[(.ref a1)] 1 = mkF m 0 #[.val (.ref a1)] [] := by first | (simp [entryFrame, mkF, argsToLocals, Value.category]; done) | rfl
def Q7 (Z : State) (a1 : Addr) (w_min_a1 : Int64) (h0 : Heap) (n0 : Nat) (v : Option Value) (h : Heap) (L : List Loc) : Prop := v = some (.int ((if w_min_a1 < (0 : Int64) then (1 : Int32) else (0 : Int32)))) ∧ Fr n0 L ∧ h = h0
set_option maxRecDepth 65536 in
set_option maxHeartbeats 40000000 in
theorem rm7 (l : Launch) (Z : State) (a0 : Array Value) (hw : ∀ d ∈ tables_1, d.before a0 Z = true) (ws : List Jvm.Cond) (a1 : Addr) (w_min_a1 : Int64) (h0 : Heap) (n0 : Nat) (Z0 : n0 ≤ h0.size) (F_min_a1 : Fld Z h0 a1 "com/example/idem1/idem1/ByteRange" "min" "J" (.long w_min_a1)) :
    MetFree l (⟨"com/example/idem1/idem1/ByteRange", "isNone", "()Z"⟩ : MethodName) (head1 (Jvm.Cond.code (⟨"com/example/idem1/idem1/ByteRange", "isNone", "()Z"⟩ : MethodName) prog_2_method_2_code 1 (some .boolean) :: ws) ({ frames := 0, cells := 0, slots := 0, locals := 0 } : Room)) (fun a U => a = #[(.ref a1)] ∧ Z.Warmed39 U.vm ∧ U.heap = h0) (fun _ _ _ _ _ => True) (fun _ U o U' => ∃ v L, o = .returned v ∧ Q7 Z a1 w_min_a1 h0 n0 v U'.heap L ∧ FrameEnd U o U' L ({ frames := 0, cells := 0, slots := 0, locals := 0 } : Room).cells ({ frames := 0, cells := 0, slots := 0, locals := 0 } : Room).slots) := by
  refine MetFree.of_bodySF (plainFor_of_name pn_7) hisR ?_
  intro p e s m args below meth c s₁ Bd hml0 hP hK
  obtain ⟨rfl, hZ, hh⟩ := hP
  have hx := Bd.exec
  have hby := Bd.bytes
  have hml : c.maxLocals = 1 := hml0
  have hown : s.vm.findClass "com/example/idem1/idem1/ByteRange" = some m.cls := findClass_of_methodNamed Bd.named
  have hnm := (name_of_methodNamed Bd.named Bd.method).1
  have X0 : Stand p l e ({ frames := 0, cells := 0, slots := 0, locals := 0 } : Room) s m #[(.ref a1)] below meth c s₁ [] 0 0 := Stand.of_body Bd
  have e0 : s₁.heap = h0 := by rw [← hh, Bd.state]; rfl
  have N0 := Fr.nil n0
  have K0 : Keep h0 h0 [] := Keep.refl h0 _
  refine (show Gl p e below (fun o U' => ∃ v L, o = .returned v ∧ Q7 Z a1 w_min_a1 h0 n0 v U'.heap L ∧ FrameEnd s o U' L ({ frames := 0, cells := 0, slots := 0, locals := 0 } : Room).cells ({ frames := 0, cells := 0, slots := 0, locals := 0 } : Room).slots) (s₁.setTop (entryFrame m #[(.ref a1)] 1)) from ?_)
  obtain ⟨L0, hL0⟩ : ∃ z : Array Slot, z = #[.val (.ref a1)] := ⟨_, rfl⟩
  refine Gl.st (B := (s₁.setTop (mkF m 0 L0 []))) (fun t k => castTop (efAt hL0 (ef_7 m a1)) k) ?_
  refine Gl.st (B := (s₁.setTop (mkF m 1 L0 [(.ref a1)]))) (fun t k => XS.aloadN X0.here hx rfl (hb hby d7_0) (ldAt hL0 rfl) rfl k) ?_
  obtain ⟨T1, X1, e1, st1⟩ := getF X0 hx hZ hown (host := "") (Or.inl (tw hw 23 rfl)) Via.refl e0 F_min_a1 (g := (mkF m 1 L0 [(.ref a1)])) rfl rfl (hb hby d7_1)
  refine Gl.st (B := (T1.setTop (mkF m 4 L0 [(.long w_min_a1)]))) st1 ?_
  refine Gl.st (B := (T1.setTop (mkF m 5 L0 [(.long (0 : Int64)), (.long w_min_a1)]))) (fun t k => XS.lconst X1.here hx rfl (hb hby d7_4) k) ?_
  refine Gl.st (B := (T1.setTop (mkF m 6 L0 [(.int (lcmpW w_min_a1 (0 : Int64)))]))) (fun t k => XS.lcmp X1.here hx rfl (hb hby d7_5) rfl k) ?_
  obtain ⟨v14_s0_3, hv14_s0_3⟩ : ∃ z : Int32, z = (if w_min_a1 < (0 : Int64) then (1 : Int32) else (0 : Int32)) := ⟨_, rfl⟩
  refine Gl.join (A := (T1.setTop (mkF m 14 L0 [(.int v14_s0_3)]))) (fun J6_3 => ?_) ?_
  · by_cases hc6_2 : w_min_a1 < (0 : Int64)
    · skip
      refine Gl.st (B := (T1.setTop (mkF m 9 L0 []))) (fun t k => XS.ifNo X1.here hx rfl (hb hby d7_6) rfl ((if0 _ _).trans (tlt ((lw_lt w_min_a1 (0 : Int64)).mpr hc6_2)).2.1) k) ?_
      refine Gl.st (B := (T1.setTop (mkF m 10 L0 [(.int (1 : Int32))]))) (fun t k => XS.iconst X1.here hx rfl (hb hby d7_9) k) ?_
      refine Gl.st (B := (T1.setTop (mkF m 14 L0 [(.int (1 : Int32))]))) (fun t k => XS.goto X1.here hx rfl (pc0 := 10) (pc' := 14) rfl (hb hby d7_10) (by decide) (by decide) k) ?_
      have ev14_s0_3 : v14_s0_3 = (1 : Int32) := by rw [hv14_s0_3, if_pos hc6_2]
      rw [ev14_s0_3] at J6_3
      exact J6_3
    · skip
      refine Gl.st (B := (T1.setTop (mkF m 13 L0 []))) (fun t k => XS.ifYes X1.here hx rfl (pc0 := 6) (pc' := 13) rfl (hb hby d7_6) rfl ((if0 _ _).trans (flt (mt (lw_lt w_min_a1 (0 : Int64)).mp hc6_2)).2.1) (by decide) (by decide) k) ?_
      refine Gl.st (B := (T1.setTop (mkF m 14 L0 [(.int (0 : Int32))]))) (fun t k => XS.iconst X1.here hx rfl (hb hby d7_13) k) ?_
      have ev14_s0_3 : v14_s0_3 = (0 : Int32) := by rw [hv14_s0_3, if_neg hc6_2]
      rw [ev14_s0_3] at J6_3
      exact J6_3
  obtain ⟨fs, hr, hrun, hended, hW, hsame⟩ := X1.leave (v := some (.int (nar .boolean v14_s0_3))) (fun h => by rw [Bd.returns] at h; cases h)
  refine Gl.fin (retN X1 hx (t := .boolean) Bd.returns (by simp) (hb hby d7_14) hr) hrun hended ⟨_, _, rfl, ?_, ⟨_, rfl⟩, hW, hsame.mono (by decide) (by decide)⟩
  show Q7 Z a1 w_min_a1 h0 n0 _ T1.heap _
  rw [e1]
  exact ⟨(by subst hv14_s0_3; exact congrArg (fun z => some (Value.int z)) (own_nb rfl rfl)), N0, rfl⟩
theorem d6_0 : decode prog_2_method_3_code 0 = .ok (.aload_n 0, 1) := by decide +kernel
theorem d6_1 : decode prog_2_method_3_code 1 = .ok (.invokevirtual 16, 3) := by decide +kernel
theorem d6_4 : decode prog_2_method_3_code 4 = .ok (.ifCond .ne 38, 3) := by decide +kernel
theorem d6_7 : decode prog_2_method_3_code 7 = .ok (.aload_n 1, 1) := by decide +kernel
theorem d6_8 : decode prog_2_method_3_code 8 = .ok (.invokevirtual 16, 3) := by decide +kernel
theorem d6_11 : decode prog_2_method_3_code 11 = .ok (.ifCond .ne 31, 3) := by decide +kernel
theorem d6_14 : decode prog_2_method_3_code 14 = .ok (.aload_n 0, 1) := by decide +kernel
theorem d6_15 : decode prog_2_method_3_code 15 = .ok (.getfield 7, 3) := by decide +kernel
theorem d6_18 : decode prog_2_method_3_code 18 = .ok (.aload_n 1, 1) := by decide +kernel
theorem d6_19 : decode prog_2_method_3_code 19 = .ok (.getfield 13, 3) := by decide +kernel
theorem d6_22 : decode prog_2_method_3_code 22 = .ok (.lcmp, 1) := by decide +kernel
theorem d6_23 : decode prog_2_method_3_code 23 = .ok (.ifCond .gt 19, 3) := by decide +kernel
theorem d6_26 : decode prog_2_method_3_code 26 = .ok (.aload_n 1, 1) := by decide +kernel
theorem d6_27 : decode prog_2_method_3_code 27 = .ok (.getfield 7, 3) := by decide +kernel
theorem d6_30 : decode prog_2_method_3_code 30 = .ok (.aload_n 0, 1) := by decide +kernel
theorem d6_31 : decode prog_2_method_3_code 31 = .ok (.getfield 13, 3) := by decide +kernel
theorem d6_34 : decode prog_2_method_3_code 34 = .ok (.lcmp, 1) := by decide +kernel
theorem d6_35 : decode prog_2_method_3_code 35 = .ok (.ifCond .gt 7, 3) := by decide +kernel
theorem d6_38 : decode prog_2_method_3_code 38 = .ok (.iconst 1, 1) := by decide +kernel
theorem d6_39 : decode prog_2_method_3_code 39 = .ok (.goto 4, 3) := by decide +kernel
theorem d6_42 : decode prog_2_method_3_code 42 = .ok (.iconst 0, 1) := by decide +kernel
theorem d6_43 : decode prog_2_method_3_code 43 = .ok (.ireturn, 1) := by decide +kernel
theorem pn_6 : plainName "com/example/idem1/idem1/ByteRange" = true := by first | (simp [plainName, overriddenIn]; done) | decide +kernel
theorem pd_6_0 : parseMethodDescriptor "()Z" = some ⟨[], some .boolean⟩ := by decide +kernel
theorem ef_6 (m : MethodId) (a1 : Addr) (a2 : Addr) : entryFrame m #[(.ref a1), (.ref a2)] 2 = mkF m 0 #[.val (.ref a1), .val (.ref a2)] [] := by first | (simp [entryFrame, mkF, argsToLocals, Value.category]; done) | rfl
def Q6 (Z : State) (a1 : Addr) (a2 : Addr) (w_min_a1 : Int64) (w_min_a2 : Int64) (w_max_a2 : Int64) (w_max_a1 : Int64) (h0 : Heap) (n0 : Nat) (v : Option Value) (h : Heap) (L : List Loc) : Prop := v = some (.int (if (((if w_min_a1 < (0 : Int64) then (1 : Int32) else (0 : Int32)))) = (0 : Int32) then (if (((if w_min_a2 < (0 : Int64) then (1 : Int32) else (0 : Int32)))) = (0 : Int32) then (if w_max_a2 < w_min_a1 then (0 : Int32) else ((if w_max_a1 < w_min_a2 then (0 : Int32) else (1 : Int32)))) else (0 : Int32)) else (0 : Int32))) ∧ Fr n0 L ∧ h = h0
set_option maxRecDepth 65536 in
set_option maxHeartbeats 40000000 in
theorem rm6 (l : Launch) (Z : State) (a0 : Array Value) (hw : ∀ d ∈ tables_1, d.before a0 Z = true) (ws : List Jvm.Cond) (a1 : Addr) (a2 : Addr) (w_min_a1 : Int64) (w_min_a2 : Int64) (w_max_a2 : Int64) (w_max_a1 : Int64) (h0 : Heap) (n0 : Nat) (Z0 : n0 ≤ h0.size) (F_min_a1 : Fld Z h0 a1 "com/example/idem1/idem1/ByteRange" "min" "J" (.long w_min_a1)) (E_a1 : Exa Z h0 a1 "com/example/idem1/idem1/ByteRange") (F_min_a2 : Fld Z h0 a2 "com/example/idem1/idem1/ByteRange" "min" "J" (.long w_min_a2)) (E_a2 : Exa Z h0 a2 "com/example/idem1/idem1/ByteRange") (F_max_a2 : Fld Z h0 a2 "com/example/idem1/idem1/ByteRange" "max" "J" (.long w_max_a2)) (F_max_a1 : Fld Z h0 a1 "com/example/idem1/idem1/ByteRange" "max" "J" (.long w_max_a1)) :
    MetFree l (⟨"com/example/idem1/idem1/ByteRange", "overlaps", "(Lcom/example/idem1/idem1/ByteRange;)Z"⟩ : MethodName) (head1 (Jvm.Cond.code (⟨"com/example/idem1/idem1/ByteRange", "overlaps", "(Lcom/example/idem1/idem1/ByteRange;)Z"⟩ : MethodName) prog_2_method_3_code 2 (some .boolean) :: ws) ({ frames := 1, cells := 0, slots := 0, locals := 12 } : Room)) (fun a U => a = #[(.ref a1), (.ref a2)] ∧ Z.Warmed39 U.vm ∧ U.heap = h0) (fun _ _ _ _ _ => True) (fun _ U o U' => ∃ v L, o = .returned v ∧ Q6 Z a1 a2 w_min_a1 w_min_a2 w_max_a2 w_max_a1 h0 n0 v U'.heap L ∧ FrameEnd U o U' L ({ frames := 1, cells := 0, slots := 0, locals := 12 } : Room).cells ({ frames := 1, cells := 0, slots := 0, locals := 12 } : Room).slots) := by
  refine MetFree.of_bodySF (plainFor_of_name pn_6) hisR ?_
  intro p e s m args below meth c s₁ Bd hml0 hP hK
  obtain ⟨rfl, hZ, hh⟩ := hP
  have hx := Bd.exec
  have hby := Bd.bytes
  have hml : c.maxLocals = 2 := hml0
  have hown : s.vm.findClass "com/example/idem1/idem1/ByteRange" = some m.cls := findClass_of_methodNamed Bd.named
  have hnm := (name_of_methodNamed Bd.named Bd.method).1
  have X0 : Stand p l e ({ frames := 1, cells := 0, slots := 0, locals := 12 } : Room) s m #[(.ref a1), (.ref a2)] below meth c s₁ [] 0 0 := Stand.of_body Bd
  have e0 : s₁.heap = h0 := by rw [← hh, Bd.state]; rfl
  have N0 := Fr.nil n0
  have K0 : Keep h0 h0 [] := Keep.refl h0 _
  refine (show Gl p e below (fun o U' => ∃ v L, o = .returned v ∧ Q6 Z a1 a2 w_min_a1 w_min_a2 w_max_a2 w_max_a1 h0 n0 v U'.heap L ∧ FrameEnd s o U' L ({ frames := 1, cells := 0, slots := 0, locals := 12 } : Room).cells ({ frames := 1, cells := 0, slots := 0, locals := 12 } : Room).slots) (s₁.setTop (entryFrame m #[(.ref a1), (.ref a2)] 2)) from ?_)
  obtain ⟨L0, hL0⟩ : ∃ z : Array Slot, z = #[.val (.ref a1), .val (.ref a2)] := ⟨_, rfl⟩
  refine Gl.st (B := (s₁.setTop (mkF m 0 L0 []))) (fun t k => castTop (efAt hL0 (ef_6 m a1 a2)) k) ?_
  refine Gl.st (B := (s₁.setTop (mkF m 1 L0 [(.ref a1)]))) (fun t k => XS.aloadN X0.here hx rfl (hb hby d6_0) (ldAt hL0 rfl) rfl k) ?_
  obtain ⟨cq1, kq1, q1a, q1b, q1c⟩ := isOf hZ e0 E_a1
  obtain ⟨_, _, ⟨T1, L1q, k1, n1⟩, -, X1, ⟨Lc1, hQ1, l1, y1, z1⟩, st1⟩ := X0.virtualBack hx (y := (⟨"com/example/idem1/idem1/ByteRange", "isNone", "()Z"⟩ : MethodName)) (z := (⟨"com/example/idem1/idem1/ByteRange", "isNone", "()Z"⟩ : MethodName)) hown (mvT hZ (tw hw 32 rfl)) (mvT hZ (tw hw 33 rfl)) (notFace_of_selects (args := #[]) (mvT hZ (tw hw 35 rfl))) (mvT hZ (tw hw 35 rfl)) (mvT hZ (tw hw 34 rfl)) (by decide) (backOf (W := 0) (rm7 l Z a0 hw [] a1 w_min_a1 h0 n0 Z0 F_min_a1) hZ (tw hw 36 rfl) (tw hw 10 rfl) (by decide) (by decide)) q1a q1c (g := (mkF m 1 L0 [(.ref a1)])) rfl (szAt hml hL0 rfl) (Steps.refl _) (argsL := []) (rest := []) (lenOf pd_6_0 rfl) rfl (by show 2 * 0 + _ ≤ _; exact Nat.le_of_eq rfl) (hb hby d6_1) (fun _ _ => ⟨rfl, e0, (by decide : 0 + 0 ≤ _), (by decide : 0 + 0 ≤ _)⟩)
  dsimp only [Pt.U, Pt.locs, Pt.cells, Pt.slots] at X1 l1 y1 z1 st1 hQ1
  subst l1 y1 z1
  obtain ⟨rfl, N1q, eh1⟩ := hQ1
  have N1 := Fr.app N0 N1q
  refine Gl.st (B := (T1.setTop (mkF m 4 L0 [(.int ((if w_min_a1 < (0 : Int64) then (1 : Int32) else (0 : Int32))))]))) (fun t k => st1.trans k) ?_
  obtain ⟨r1_2, hr1_2⟩ : ∃ z : Int32, z = ((if w_min_a1 < (0 : Int64) then (1 : Int32) else (0 : Int32))) := ⟨_, rfl⟩
  refine Gl.cast (B := (T1.setTop (mkF m 4 L0 [(.int r1_2)]))) (by rw [hr1_2]) ?_
  by_cases hc4_3 : r1_2 = (0 : Int32)
  · skip
    refine Gl.st (B := (T1.setTop (mkF m 7 L0 []))) (fun t k => XS.ifNo X1.here hx rfl (hb hby d6_4) rfl ((if0 _ _).trans (teq hc4_3).2) k) ?_
    refine Gl.st (B := (T1.setTop (mkF m 8 L0 [(.ref a2)]))) (fun t k => XS.aloadN X1.here hx rfl (hb hby d6_7) (ldAt hL0 rfl) rfl k) ?_
    obtain ⟨cq4, kq4, q4a, q4b, q4c⟩ := isOf hZ eh1 E_a2
    obtain ⟨_, _, ⟨T4, L4q, k4, n4⟩, -, X4, ⟨Lc4, hQ4, l4, y4, z4⟩, st4⟩ := X1.virtualBack hx (y := (⟨"com/example/idem1/idem1/ByteRange", "isNone", "()Z"⟩ : MethodName)) (z := (⟨"com/example/idem1/idem1/ByteRange", "isNone", "()Z"⟩ : MethodName)) hown (mvT hZ (tw hw 32 rfl)) (mvT hZ (tw hw 33 rfl)) (notFace_of_selects (args := #[]) (mvT hZ (tw hw 35 rfl))) (mvT hZ (tw hw 35 rfl)) (mvT hZ (tw hw 34 rfl)) (by decide) (backOf (W := 0) (rm7 l Z a0 hw [] a2 w_min_a2 h0 n0 Z0 F_min_a2) hZ (tw hw 36 rfl) (tw hw 10 rfl) (by decide) (by decide)) q4a q4c (g := (mkF m 8 L0 [(.ref a2)])) rfl (szAt hml hL0 rfl) (Steps.refl _) (argsL := []) (rest := []) (lenOf pd_6_0 rfl) rfl (by show 2 * 0 + _ ≤ _; exact Nat.le_of_eq rfl) (hb hby d6_8) (fun _ _ => ⟨rfl, eh1, (by decide : 0 + 0 ≤ _), (by decide : 0 + 0 ≤ _)⟩)
    dsimp only [Pt.U, Pt.locs, Pt.cells, Pt.slots] at X4 l4 y4 z4 st4 hQ4
    subst l4 y4 z4
    obtain ⟨rfl, N4q, eh4⟩ := hQ4
    have N4 := Fr.app N1 N4q
    refine Gl.st (B := (T4.setTop (mkF m 11 L0 [(.int ((if w_min_a2 < (0 : Int64) then (1 : Int32) else (0 : Int32))))]))) (fun t k => st4.trans k) ?_
    obtain ⟨r8_5, hr8_5⟩ : ∃ z : Int32, z = ((if w_min_a2 < (0 : Int64) then (1 : Int32) else (0 : Int32))) := ⟨_, rfl⟩
    refine Gl.cast (B := (T4.setTop (mkF m 11 L0 [(.int r8_5)]))) (by rw [hr8_5]) ?_
    by_cases hc11_6 : r8_5 = (0 : Int32)
    · skip
      refine Gl.st (B := (T4.setTop (mkF m 14 L0 []))) (fun t k => XS.ifNo X4.here hx rfl (hb hby d6_11) rfl ((if0 _ _).trans (teq hc11_6).2) k) ?_
      refine Gl.st (B := (T4.setTop (mkF m 15 L0 [(.ref a1)]))) (fun t k => XS.aloadN X4.here hx rfl (hb hby d6_14) (ldAt hL0 rfl) rfl k) ?_
      obtain ⟨T7, X7, e7, st7⟩ := getF X4 hx hZ hown (host := "") (Or.inl (tw hw 23 rfl)) Via.refl eh4 F_min_a1 (g := (mkF m 15 L0 [(.ref a1)])) rfl rfl (hb hby d6_15)
      refine Gl.st (B := (T7.setTop (mkF m 18 L0 [(.long w_min_a1)]))) st7 ?_
      refine Gl.st (B := (T7.setTop (mkF m 19 L0 [(.ref a2), (.long w_min_a1)]))) (fun t k => XS.aloadN X7.here hx rfl (hb hby d6_18) (ldAt hL0 rfl) rfl k) ?_
      obtain ⟨T8, X8, e8, st8⟩ := getF X7 hx hZ hown (host := "") (Or.inl (tw hw 25 rfl)) Via.refl e7 F_max_a2 (g := (mkF m 19 L0 [(.ref a2), (.long w_min_a1)])) rfl rfl (hb hby d6_19)
      refine Gl.st (B := (T8.setTop (mkF m 22 L0 [(.long w_max_a2), (.long w_min_a1)]))) st8 ?_
      refine Gl.st (B := (T8.setTop (mkF m 23 L0 [(.int (lcmpW w_min_a1 w_max_a2))]))) (fun t k => XS.lcmp X8.here hx rfl (hb hby d6_22) rfl k) ?_
      by_cases hc23_9 : w_max_a2 < w_min_a1
      · skip
        refine Gl.st (B := (T8.setTop (mkF m 42 L0 []))) (fun t k => XS.ifYes X8.here hx rfl (pc0 := 23) (pc' := 42) rfl (hb hby d6_23) rfl ((if0 _ _).trans (tlt ((lw_gt w_min_a1 w_max_a2).mpr hc23_9)).2.2.1) (by decide) (by decide) k) ?_
        refine Gl.st (B := (T8.setTop (mkF m 43 L0 [(.int (0 : Int32))]))) (fun t k => XS.iconst X8.here hx rfl (hb hby d6_42) k) ?_
        obtain ⟨fs, hr, hrun, hended, hW, hsame⟩ := X8.leave (v := some (.int (nar .boolean (0 : Int32)))) (fun h => by rw [Bd.returns] at h; cases h)
        refine Gl.fin (retN X8 hx (t := .boolean) Bd.returns (by simp) (hb hby d6_43) hr) hrun hended ⟨_, _, rfl, ?_, ⟨_, rfl⟩, hW, hsame.mono (by decide) (by decide)⟩
        show Q6 Z a1 a2 w_min_a1 w_min_a2 w_max_a2 w_max_a1 h0 n0 _ T8.heap _
        rw [e8]
        exact ⟨(by subst hr1_2; subst hr8_5; rw [if_pos hc4_3, if_pos hc11_6, if_pos hc23_9]; rfl), N4, rfl⟩
      · skip
        refine Gl.st (B := (T8.setTop (mkF m 26 L0 []))) (fun t k => XS.ifNo X8.here hx rfl (hb hby d6_23) rfl ((if0 _ _).trans (flt (mt (lw_gt w_min_a1 w_max_a2).mp hc23_9)).2.2.1) k) ?_
        refine Gl.st (B := (T8.setTop (mkF m 27 L0 [(.ref a2)]))) (fun t k => XS.aloadN X8.here hx rfl (hb hby d6_26) (ldAt hL0 rfl) rfl k) ?_
        obtain ⟨T10, X10, e10, st10⟩ := getF X8 hx hZ hown (host := "") (Or.inl (tw hw 23 rfl)) Via.refl e8 F_min_a2 (g := (mkF m 27 L0 [(.ref a2)])) rfl rfl (hb hby d6_27)
        refine Gl.st (B := (T10.setTop (mkF m 30 L0 [(.long w_min_a2)]))) st10 ?_
        refine Gl.st (B := (T10.setTop (mkF m 31 L0 [(.ref a1), (.long w_min_a2)]))) (fun t k => XS.aloadN X10.here hx rfl (hb hby d6_30) (ldAt hL0 rfl) rfl k) ?_
        obtain ⟨T11, X11, e11, st11⟩ := getF X10 hx hZ hown (host := "") (Or.inl (tw hw 25 rfl)) Via.refl e10 F_max_a1 (g := (mkF m 31 L0 [(.ref a1), (.long w_min_a2)])) rfl rfl (hb hby d6_31)
        refine Gl.st (B := (T11.setTop (mkF m 34 L0 [(.long w_max_a1), (.long w_min_a2)]))) st11 ?_
        refine Gl.st (B := (T11.setTop (mkF m 35 L0 [(.int (lcmpW w_min_a2 w_max_a1))]))) (fun t k => XS.lcmp X11.here hx rfl (hb hby d6_34) rfl k) ?_
        obtain ⟨v43_s0_13, hv43_s0_13⟩ : ∃ z : Int32, z = (if w_max_a1 < w_min_a2 then (0 : Int32) else (1 : Int32)) := ⟨_, rfl⟩
        refine Gl.join (A := (T11.setTop (mkF m 43 L0 [(.int v43_s0_13)]))) (fun J35_13 => ?_) ?_
        · by_cases hc35_12 : w_max_a1 < w_min_a2
          · skip
            refine Gl.st (B := (T11.setTop (mkF m 42 L0 []))) (fun t k => XS.ifYes X11.here hx rfl (pc0 := 35) (pc' := 42) rfl (hb hby d6_35) rfl ((if0 _ _).trans (tlt ((lw_gt w_min_a2 w_max_a1).mpr hc35_12)).2.2.1) (by decide) (by decide) k) ?_
            refine Gl.st (B := (T11.setTop (mkF m 43 L0 [(.int (0 : Int32))]))) (fun t k => XS.iconst X11.here hx rfl (hb hby d6_42) k) ?_
            have ev43_s0_13 : v43_s0_13 = (0 : Int32) := by rw [hv43_s0_13, if_pos hc35_12]
            rw [ev43_s0_13] at J35_13
            exact J35_13
          · skip
            refine Gl.st (B := (T11.setTop (mkF m 38 L0 []))) (fun t k => XS.ifNo X11.here hx rfl (hb hby d6_35) rfl ((if0 _ _).trans (flt (mt (lw_gt w_min_a2 w_max_a1).mp hc35_12)).2.2.1) k) ?_
            refine Gl.st (B := (T11.setTop (mkF m 39 L0 [(.int (1 : Int32))]))) (fun t k => XS.iconst X11.here hx rfl (hb hby d6_38) k) ?_
            refine Gl.st (B := (T11.setTop (mkF m 43 L0 [(.int (1 : Int32))]))) (fun t k => XS.goto X11.here hx rfl (pc0 := 39) (pc' := 43) rfl (hb hby d6_39) (by decide) (by decide) k) ?_
            have ev43_s0_13 : v43_s0_13 = (1 : Int32) := by rw [hv43_s0_13, if_neg hc35_12]
            rw [ev43_s0_13] at J35_13
            exact J35_13
        obtain ⟨fs, hr, hrun, hended, hW, hsame⟩ := X11.leave (v := some (.int (nar .boolean v43_s0_13))) (fun h => by rw [Bd.returns] at h; cases h)
        refine Gl.fin (retN X11 hx (t := .boolean) Bd.returns (by simp) (hb hby d6_43) hr) hrun hended ⟨_, _, rfl, ?_, ⟨_, rfl⟩, hW, hsame.mono (by decide) (by decide)⟩
        show Q6 Z a1 a2 w_min_a1 w_min_a2 w_max_a2 w_max_a1 h0 n0 _ T11.heap _
        rw [e11]
        exact ⟨(by subst hv43_s0_13; subst hr1_2; subst hr8_5; rw [if_pos hc4_3, if_pos hc11_6, if_neg hc23_9]; exact congrArg (fun z => some (Value.int z)) (own_nb rfl rfl)), N4, rfl⟩
    · skip
      refine Gl.st (B := (T4.setTop (mkF m 42 L0 []))) (fun t k => XS.ifYes X4.here hx rfl (pc0 := 11) (pc' := 42) rfl (hb hby d6_11) rfl ((if0 _ _).trans (feq hc11_6).2) (by decide) (by decide) k) ?_
      refine Gl.st (B := (T4.setTop (mkF m 43 L0 [(.int (0 : Int32))]))) (fun t k => XS.iconst X4.here hx rfl (hb hby d6_42) k) ?_
      obtain ⟨fs, hr, hrun, hended, hW, hsame⟩ := X4.leave (v := some (.int (nar .boolean (0 : Int32)))) (fun h => by rw [Bd.returns] at h; cases h)
      refine Gl.fin (retN X4 hx (t := .boolean) Bd.returns (by simp) (hb hby d6_43) hr) hrun hended ⟨_, _, rfl, ?_, ⟨_, rfl⟩, hW, hsame.mono (by decide) (by decide)⟩
      show Q6 Z a1 a2 w_min_a1 w_min_a2 w_max_a2 w_max_a1 h0 n0 _ T4.heap _
      rw [eh4]
      exact ⟨(by subst hr1_2; subst hr8_5; rw [if_pos hc4_3, if_neg hc11_6]; rfl), N4, rfl⟩
  · skip
    refine Gl.st (B := (T1.setTop (mkF m 42 L0 []))) (fun t k => XS.ifYes X1.here hx rfl (pc0 := 4) (pc' := 42) rfl (hb hby d6_4) rfl ((if0 _ _).trans (feq hc4_3).2) (by decide) (by decide) k) ?_
    refine Gl.st (B := (T1.setTop (mkF m 43 L0 [(.int (0 : Int32))]))) (fun t k => XS.iconst X1.here hx rfl (hb hby d6_42) k) ?_
    obtain ⟨fs, hr, hrun, hended, hW, hsame⟩ := X1.leave (v := some (.int (nar .boolean (0 : Int32)))) (fun h => by rw [Bd.returns] at h; cases h)
    refine Gl.fin (retN X1 hx (t := .boolean) Bd.returns (by simp) (hb hby d6_43) hr) hrun hended ⟨_, _, rfl, ?_, ⟨_, rfl⟩, hW, hsame.mono (by decide) (by decide)⟩
    show Q6 Z a1 a2 w_min_a1 w_min_a2 w_max_a2 w_max_a1 h0 n0 _ T1.heap _
    rw [eh1]
    exact ⟨(by subst hr1_2; rw [if_neg hc4_3]; rfl), N1, rfl⟩
theorem pn_0 : plainName "com/example/idem1/idem1/ByteRangeOverlapsPinLaw" = true := by first | (simp [plainName, overriddenIn]; done) | decide +kernel
theorem pd_0_0 : parseMethodDescriptor "(JJ)J" = some ⟨[.long, .long], some .long⟩ := by decide +kernel
theorem pd_0_1 : parseMethodDescriptor "(JJ)V" = some ⟨[.long, .long], none⟩ := by decide +kernel
theorem pd_0_2 : parseMethodDescriptor "(Lcom/example/idem1/idem1/ByteRange;)Z" = some ⟨[(.object "com/example/idem1/idem1/ByteRange")], some .boolean⟩ := by decide +kernel
theorem ef_0 (m : MethodId) (q1 : Int64) (q2 : Int64) (q3 : Int64) (q4 : Int64) (p5 : Int32) : entryFrame m #[(.long q1), (.long q2), (.long q3), (.long q4), (.int p5)] maxLocals = mkF m 0 #[.val (.long q1), .second, .val (.long q2), .second, .val (.long q3), .second, .val (.long q4), .second, .val (.int p5), .unset, .unset, .unset, .unset, .unset, .unset, .unset, .unset, .unset, .unset, .unset, .unset, .unset, .unset, .unset, .unset, .unset, .unset, .unset, .unset, .unset] [] := by first | (simp [entryFrame, mkF, argsToLocals, Value.category, maxLocals]; done) | rfl
theorem own_0_hc206_52 (q2 : Int64) (y13_40_9 : Int64) (q1 : Int64) (y11_33_7 : Int64) (r62_16 : Int64) (q4 : Int64) (y17_56_13 : Int64) (q3 : Int64) (y15_48_11 : Int64) (r80_22 : Int64) (r89_25 : Int64) (r71_19 : Int64) (r201_51 : Int32) (r183_42 : Int64) (r176_40 : Int64) (v195_s0_44 : Int32) (hy13_40_9 : y13_40_9 = (q2 &&& (9223372036854775807 : Int64))) (hy11_33_7 : y11_33_7 = (q1 &&& (9223372036854775807 : Int64))) (hr62_16 : r62_16 = ((if y13_40_9 < y11_33_7 then y13_40_9 else y11_33_7))) (hy17_56_13 : y17_56_13 = (q4 &&& (9223372036854775807 : Int64))) (hy15_48_11 : y15_48_11 = (q3 &&& (9223372036854775807 : Int64))) (hr80_22 : r80_22 = ((if y17_56_13 < y15_48_11 then y17_56_13 else y15_48_11))) (hr89_25 : r89_25 = ((if y15_48_11 < y17_56_13 then y17_56_13 else y15_48_11))) (hr71_19 : r71_19 = ((if y11_33_7 < y13_40_9 then y13_40_9 else y11_33_7))) (hr201_51 : r201_51 = (if (((if r62_16 < (0 : Int64) then (1 : Int32) else (0 : Int32)))) = (0 : Int32) then (if (((if r80_22 < (0 : Int64) then (1 : Int32) else (0 : Int32)))) = (0 : Int32) then (if r89_25 < r62_16 then (0 : Int32) else ((if r71_19 < r80_22 then (0 : Int32) else (1 : Int32)))) else (0 : Int32)) else (0 : Int32))) (hr183_42 : r183_42 = ((if r89_25 < r71_19 then r89_25 else r71_19))) (hr176_40 : r176_40 = ((if r62_16 < r80_22 then r80_22 else r62_16))) (hv195_s0_44 : v195_s0_44 = (if r183_42 < r176_40 then (0 : Int32) else (1 : Int32)))  : r201_51 = v195_s0_44 := by
  skip
  have er62_16 : ¬ (r62_16 < (0 : Int64)) := by
    rw [hr62_16]
    split <;> simp only [hy13_40_9, hy11_33_7] <;> exact own_nn _
  have er80_22 : ¬ (r80_22 < (0 : Int64)) := by
    rw [hr80_22]
    split <;> simp only [hy17_56_13, hy15_48_11] <;> exact own_nn _
  have ir62_16 : r62_16.toInt ≤ r71_19.toInt := by
    rw [hr62_16, hr71_19]
    repeat' split
    all_goals (simp only [Int64.lt_iff_toInt_lt] at *; omega)
  have ir80_22 : r80_22.toInt ≤ r89_25.toInt := by
    rw [hr80_22, hr89_25]
    repeat' split
    all_goals (simp only [Int64.lt_iff_toInt_lt] at *; omega)
  rw [hr201_51, if_neg er62_16, if_neg er80_22, if_pos rfl, if_pos rfl, hv195_s0_44]
  clear hr62_16 hr80_22 hr71_19 hr89_25 hr201_51 hv195_s0_44
  split at hr183_42
  all_goals split at hr176_40
  all_goals subst hr183_42 hr176_40
  all_goals repeat' split
  all_goals first | rfl | (exfalso; simp only [Int64.lt_iff_toInt_lt] at *; omega)
theorem own_0_hc218_55 (q4 : Int64) (y17_56_13 : Int64) (q3 : Int64) (y15_48_11 : Int64) (r80_22 : Int64) (q2 : Int64) (y13_40_9 : Int64) (q1 : Int64) (y11_33_7 : Int64) (r62_16 : Int64) (r71_19 : Int64) (r89_25 : Int64) (r213_54 : Int32) (r183_42 : Int64) (r176_40 : Int64) (v195_s0_44 : Int32) (hy17_56_13 : y17_56_13 = (q4 &&& (9223372036854775807 : Int64))) (hy15_48_11 : y15_48_11 = (q3 &&& (9223372036854775807 : Int64))) (hr80_22 : r80_22 = ((if y17_56_13 < y15_48_11 then y17_56_13 else y15_48_11))) (hy13_40_9 : y13_40_9 = (q2 &&& (9223372036854775807 : Int64))) (hy11_33_7 : y11_33_7 = (q1 &&& (9223372036854775807 : Int64))) (hr62_16 : r62_16 = ((if y13_40_9 < y11_33_7 then y13_40_9 else y11_33_7))) (hr71_19 : r71_19 = ((if y11_33_7 < y13_40_9 then y13_40_9 else y11_33_7))) (hr89_25 : r89_25 = ((if y15_48_11 < y17_56_13 then y17_56_13 else y15_48_11))) (hr213_54 : r213_54 = (if (((if r80_22 < (0 : Int64) then (1 : Int32) else (0 : Int32)))) = (0 : Int32) then (if (((if r62_16 < (0 : Int64) then (1 : Int32) else (0 : Int32)))) = (0 : Int32) then (if r71_19 < r80_22 then (0 : Int32) else ((if r89_25 < r62_16 then (0 : Int32) else (1 : Int32)))) else (0 : Int32)) else (0 : Int32))) (hr183_42 : r183_42 = ((if r89_25 < r71_19 then r89_25 else r71_19))) (hr176_40 : r176_40 = ((if r62_16 < r80_22 then r80_22 else r62_16))) (hv195_s0_44 : v195_s0_44 = (if r183_42 < r176_40 then (0 : Int32) else (1 : Int32)))  : r213_54 = v195_s0_44 := by
  skip
  have er62_16 : ¬ (r62_16 < (0 : Int64)) := by
    rw [hr62_16]
    split <;> simp only [hy13_40_9, hy11_33_7] <;> exact own_nn _
  have er80_22 : ¬ (r80_22 < (0 : Int64)) := by
    rw [hr80_22]
    split <;> simp only [hy17_56_13, hy15_48_11] <;> exact own_nn _
  have ir62_16 : r62_16.toInt ≤ r71_19.toInt := by
    rw [hr62_16, hr71_19]
    repeat' split
    all_goals (simp only [Int64.lt_iff_toInt_lt] at *; omega)
  have ir80_22 : r80_22.toInt ≤ r89_25.toInt := by
    rw [hr80_22, hr89_25]
    repeat' split
    all_goals (simp only [Int64.lt_iff_toInt_lt] at *; omega)
  rw [hr213_54, if_neg er80_22, if_neg er62_16, if_pos rfl, if_pos rfl, hv195_s0_44]
  clear hr62_16 hr80_22 hr71_19 hr89_25 hr213_54 hv195_s0_44
  split at hr183_42
  all_goals split at hr176_40
  all_goals subst hr183_42 hr176_40
  all_goals repeat' split
  all_goals first | rfl | (exfalso; simp only [Int64.lt_iff_toInt_lt] at *; omega)
theorem own_0_hc206_68 (q2 : Int64) (y13_40_9 : Int64) (q1 : Int64) (y11_33_7 : Int64) (r62_16 : Int64) (r71_19 : Int64) (r201_67 : Int32) (hy13_40_9 : y13_40_9 = (q2 &&& (9223372036854775807 : Int64))) (hy11_33_7 : y11_33_7 = (q1 &&& (9223372036854775807 : Int64))) (hr62_16 : r62_16 = ((if y13_40_9 < y11_33_7 then y13_40_9 else y11_33_7))) (hr71_19 : r71_19 = ((if y11_33_7 < y13_40_9 then y13_40_9 else y11_33_7))) (hr201_67 : r201_67 = (if (((if r62_16 < (0 : Int64) then (1 : Int32) else (0 : Int32)))) = (0 : Int32) then (if (((if (-1 : Int64) < (0 : Int64) then (1 : Int32) else (0 : Int32)))) = (0 : Int32) then (if (-1 : Int64) < r62_16 then (0 : Int32) else ((if r71_19 < (-1 : Int64) then (0 : Int32) else (1 : Int32)))) else (0 : Int32)) else (0 : Int32)))  : r201_67 = (0 : Int32) := by
  have e : ((-1 : Int64) < (0 : Int64)) := by decide
  rw [hr201_67]
  simp [e]
theorem own_0_hc218_71 (q2 : Int64) (y13_40_9 : Int64) (q1 : Int64) (y11_33_7 : Int64) (r62_16 : Int64) (r71_19 : Int64) (r213_70 : Int32) (hy13_40_9 : y13_40_9 = (q2 &&& (9223372036854775807 : Int64))) (hy11_33_7 : y11_33_7 = (q1 &&& (9223372036854775807 : Int64))) (hr62_16 : r62_16 = ((if y13_40_9 < y11_33_7 then y13_40_9 else y11_33_7))) (hr71_19 : r71_19 = ((if y11_33_7 < y13_40_9 then y13_40_9 else y11_33_7))) (hr213_70 : r213_70 = (if (((if (-1 : Int64) < (0 : Int64) then (1 : Int32) else (0 : Int32)))) = (0 : Int32) then (if (((if r62_16 < (0 : Int64) then (1 : Int32) else (0 : Int32)))) = (0 : Int32) then (if r71_19 < (-1 : Int64) then (0 : Int32) else ((if (-1 : Int64) < r62_16 then (0 : Int32) else (1 : Int32)))) else (0 : Int32)) else (0 : Int32)))  : r213_70 = (0 : Int32) := by
  have e : ((-1 : Int64) < (0 : Int64)) := by decide
  rw [hr213_70]
  simp [e]
theorem own_0_hc206_90 (q4 : Int64) (y17_56_13 : Int64) (q3 : Int64) (y15_48_11 : Int64) (r80_22 : Int64) (r89_25 : Int64) (r201_89 : Int32) (hy17_56_13 : y17_56_13 = (q4 &&& (9223372036854775807 : Int64))) (hy15_48_11 : y15_48_11 = (q3 &&& (9223372036854775807 : Int64))) (hr80_22 : r80_22 = ((if y17_56_13 < y15_48_11 then y17_56_13 else y15_48_11))) (hr89_25 : r89_25 = ((if y15_48_11 < y17_56_13 then y17_56_13 else y15_48_11))) (hr201_89 : r201_89 = (if (((if (-1 : Int64) < (0 : Int64) then (1 : Int32) else (0 : Int32)))) = (0 : Int32) then (if (((if r80_22 < (0 : Int64) then (1 : Int32) else (0 : Int32)))) = (0 : Int32) then (if r89_25 < (-1 : Int64) then (0 : Int32) else ((if (-1 : Int64) < r80_22 then (0 : Int32) else (1 : Int32)))) else (0 : Int32)) else (0 : Int32)))  : r201_89 = (0 : Int32) := by
  have e : ((-1 : Int64) < (0 : Int64)) := by decide
  rw [hr201_89]
  simp [e]
theorem own_0_hc218_93 (q4 : Int64) (y17_56_13 : Int64) (q3 : Int64) (y15_48_11 : Int64) (r80_22 : Int64) (r89_25 : Int64) (r213_92 : Int32) (hy17_56_13 : y17_56_13 = (q4 &&& (9223372036854775807 : Int64))) (hy15_48_11 : y15_48_11 = (q3 &&& (9223372036854775807 : Int64))) (hr80_22 : r80_22 = ((if y17_56_13 < y15_48_11 then y17_56_13 else y15_48_11))) (hr89_25 : r89_25 = ((if y15_48_11 < y17_56_13 then y17_56_13 else y15_48_11))) (hr213_92 : r213_92 = (if (((if r80_22 < (0 : Int64) then (1 : Int32) else (0 : Int32)))) = (0 : Int32) then (if (((if (-1 : Int64) < (0 : Int64) then (1 : Int32) else (0 : Int32)))) = (0 : Int32) then (if (-1 : Int64) < r80_22 then (0 : Int32) else ((if r89_25 < (-1 : Int64) then (0 : Int32) else (1 : Int32)))) else (0 : Int32)) else (0 : Int32)))  : r213_92 = (0 : Int32) := by
  have e : ((-1 : Int64) < (0 : Int64)) := by decide
  rw [hr213_92]
  simp [e]
theorem own_0_hc206_106 (r201_105 : Int32) (hr201_105 : r201_105 = (if (((if (-1 : Int64) < (0 : Int64) then (1 : Int32) else (0 : Int32)))) = (0 : Int32) then (if (((if (-1 : Int64) < (0 : Int64) then (1 : Int32) else (0 : Int32)))) = (0 : Int32) then (if (-1 : Int64) < (-1 : Int64) then (0 : Int32) else ((if (-1 : Int64) < (-1 : Int64) then (0 : Int32) else (1 : Int32)))) else (0 : Int32)) else (0 : Int32)))  : r201_105 = (0 : Int32) := by
  have e : ((-1 : Int64) < (0 : Int64)) := by decide
  rw [hr201_105]
  simp [e]
theorem own_0_hc218_109 (r213_108 : Int32) (hr213_108 : r213_108 = (if (((if (-1 : Int64) < (0 : Int64) then (1 : Int32) else (0 : Int32)))) = (0 : Int32) then (if (((if (-1 : Int64) < (0 : Int64) then (1 : Int32) else (0 : Int32)))) = (0 : Int32) then (if (-1 : Int64) < (-1 : Int64) then (0 : Int32) else ((if (-1 : Int64) < (-1 : Int64) then (0 : Int32) else (1 : Int32)))) else (0 : Int32)) else (0 : Int32)))  : r213_108 = (0 : Int32) := by
  have e : ((-1 : Int64) < (0 : Int64)) := by decide
  rw [hr213_108]
  simp [e]
def Q0 (Z : State) (q1 : Int64) (q2 : Int64) (q3 : Int64) (q4 : Int64) (p5 : Int32) (h0 : Heap) (n0 : Nat) (v : Option Value) (h : Heap) (L : List Loc) : Prop := v = some (.int (1 : Int32)) ∧ Fr n0 L
set_option maxRecDepth 65536 in
set_option maxHeartbeats 40000000 in
theorem rm0 (l : Launch) (Z : State) (a0 : Array Value) (hw : ∀ d ∈ tables_1, d.before a0 Z = true) (ws : List Jvm.Cond) (q1 : Int64) (q2 : Int64) (q3 : Int64) (q4 : Int64) (p5 : Int32) (h0 : Heap) (n0 : Nat) (Z0 : n0 ≤ h0.size) :
    MetFree l x (head1 (Jvm.Cond.code x code maxLocals ret :: ws) room_1) (fun a U => a = #[(.long q1), (.long q2), (.long q3), (.long q4), (.int p5)] ∧ Z.Warmed39 U.vm ∧ U.heap = h0) (fun _ _ _ _ _ => True) (fun _ U o U' => ∃ v L, o = .returned v ∧ Q0 Z q1 q2 q3 q4 p5 h0 n0 v U'.heap L ∧ FrameEnd U o U' L room_1.cells room_1.slots) := by
  refine MetFree.of_bodySF (plainFor_of_name pn_0) hisR ?_
  intro p e s m args below meth c s₁ Bd hml0 hP hK
  obtain ⟨rfl, hZ, hh⟩ := hP
  have hx := Bd.exec
  have hby := Bd.bytes
  have hml : c.maxLocals = 30 := hml0
  have hown : s.vm.findClass "com/example/idem1/idem1/ByteRangeOverlapsPinLaw" = some m.cls := findClass_of_methodNamed Bd.named
  have hnm := (name_of_methodNamed Bd.named Bd.method).1
  have X0 : Stand p l e room_1 s m #[(.long q1), (.long q2), (.long q3), (.long q4), (.int p5)] below meth c s₁ [] 0 0 := Stand.of_body Bd
  have e0 : s₁.heap = h0 := by rw [← hh, Bd.state]; rfl
  have N0 := Fr.nil n0
  refine (show Gl p e below (fun o U' => ∃ v L, o = .returned v ∧ Q0 Z q1 q2 q3 q4 p5 h0 n0 v U'.heap L ∧ FrameEnd s o U' L room_1.cells room_1.slots) (s₁.setTop (entryFrame m #[(.long q1), (.long q2), (.long q3), (.long q4), (.int p5)] maxLocals)) from ?_)
  obtain ⟨L0, hL0⟩ : ∃ z : Array Slot, z = #[.val (.long q1), .second, .val (.long q2), .second, .val (.long q3), .second, .val (.long q4), .second, .val (.int p5), .unset, .unset, .unset, .unset, .unset, .unset, .unset, .unset, .unset, .unset, .unset, .unset, .unset, .unset, .unset, .unset, .unset, .unset, .unset, .unset, .unset] := ⟨_, rfl⟩
  refine Gl.st (B := (s₁.setTop (mkF m 0 L0 []))) (fun t k => castTop (efAt hL0 (ef_0 m q1 q2 q3 q4 p5)) k) ?_
  refine Gl.st (B := (s₁.setTop (mkF m 2 L0 [(.int p5)]))) (fun t k => XS.iload X0.here hx rfl (hb hby at_0) (ldAt hL0 rfl) k) ?_
  refine Gl.st (B := (s₁.setTop (mkF m 3 L0 [(.int (1 : Int32)), (.int p5)]))) (fun t k => XS.iconst X0.here hx rfl (hb hby at_2) k) ?_
  refine Gl.st (B := (s₁.setTop (mkF m 4 L0 [(.int (p5 &&& (1 : Int32)))]))) (fun t k => XS.iand X0.here hx rfl (hb hby at_3) rfl k) ?_
  obtain ⟨v12_s0_2, hv12_s0_2⟩ : ∃ z : Int32, z = (if (p5 &&& (1 : Int32)) = (0 : Int32) then (0 : Int32) else (1 : Int32)) := ⟨_, rfl⟩
  refine Gl.join (A := (s₁.setTop (mkF m 12 L0 [(.int v12_s0_2)]))) (fun J4_2 => ?_) ?_
  · by_cases hc4_1 : (p5 &&& (1 : Int32)) = (0 : Int32)
    · skip
      refine Gl.st (B := (s₁.setTop (mkF m 11 L0 []))) (fun t k => XS.ifYes X0.here hx rfl (pc0 := 4) (pc' := 11) rfl (hb hby at_4) rfl ((if0 _ _).trans (teq hc4_1).1) (by decide) (by decide) k) ?_
      refine Gl.st (B := (s₁.setTop (mkF m 12 L0 [(.int (0 : Int32))]))) (fun t k => XS.iconst X0.here hx rfl (hb hby at_11) k) ?_
      have ev12_s0_2 : v12_s0_2 = (0 : Int32) := by rw [hv12_s0_2, if_pos hc4_1]
      rw [ev12_s0_2] at J4_2
      exact J4_2
    · skip
      refine Gl.st (B := (s₁.setTop (mkF m 7 L0 []))) (fun t k => XS.ifNo X0.here hx rfl (hb hby at_4) rfl ((if0 _ _).trans (feq hc4_1).1) k) ?_
      refine Gl.st (B := (s₁.setTop (mkF m 8 L0 [(.int (1 : Int32))]))) (fun t k => XS.iconst X0.here hx rfl (hb hby at_7) k) ?_
      refine Gl.st (B := (s₁.setTop (mkF m 12 L0 [(.int (1 : Int32))]))) (fun t k => XS.goto X0.here hx rfl (pc0 := 8) (pc' := 12) rfl (hb hby at_8) (by decide) (by decide) k) ?_
      have ev12_s0_2 : v12_s0_2 = (1 : Int32) := by rw [hv12_s0_2, if_neg hc4_1]
      rw [ev12_s0_2] at J4_2
      exact J4_2
  obtain ⟨L3, hL3⟩ : ∃ z : Array Slot, z = #[.val (.long q1), .second, .val (.long q2), .second, .val (.long q3), .second, .val (.long q4), .second, .val (.int p5), .val (.int v12_s0_2), .unset, .unset, .unset, .unset, .unset, .unset, .unset, .unset, .unset, .unset, .unset, .unset, .unset, .unset, .unset, .unset, .unset, .unset, .unset, .unset] := ⟨_, rfl⟩
  refine Gl.st (B := (s₁.setTop (mkF m 14 L3 []))) (fun t k => XS.istore X0.here hx rfl (hb hby at_12) rfl (l' := L3) (stAt hL0 hL3 rfl rfl) k) ?_
  refine Gl.st (B := (s₁.setTop (mkF m 16 L3 [(.int p5)]))) (fun t k => XS.iload X0.here hx rfl (hb hby at_14) (ldAt hL3 rfl) k) ?_
  refine Gl.st (B := (s₁.setTop (mkF m 17 L3 [(.int (2 : Int32)), (.int p5)]))) (fun t k => XS.iconst X0.here hx rfl (hb hby at_16) k) ?_
  refine Gl.st (B := (s₁.setTop (mkF m 18 L3 [(.int (p5 &&& (2 : Int32)))]))) (fun t k => XS.iand X0.here hx rfl (hb hby at_17) rfl k) ?_
  obtain ⟨v26_s0_5, hv26_s0_5⟩ : ∃ z : Int32, z = (if (p5 &&& (2 : Int32)) = (0 : Int32) then (0 : Int32) else (1 : Int32)) := ⟨_, rfl⟩
  refine Gl.join (A := (s₁.setTop (mkF m 26 L3 [(.int v26_s0_5)]))) (fun J18_5 => ?_) ?_
  · by_cases hc18_4 : (p5 &&& (2 : Int32)) = (0 : Int32)
    · skip
      refine Gl.st (B := (s₁.setTop (mkF m 25 L3 []))) (fun t k => XS.ifYes X0.here hx rfl (pc0 := 18) (pc' := 25) rfl (hb hby at_18) rfl ((if0 _ _).trans (teq hc18_4).1) (by decide) (by decide) k) ?_
      refine Gl.st (B := (s₁.setTop (mkF m 26 L3 [(.int (0 : Int32))]))) (fun t k => XS.iconst X0.here hx rfl (hb hby at_25) k) ?_
      have ev26_s0_5 : v26_s0_5 = (0 : Int32) := by rw [hv26_s0_5, if_pos hc18_4]
      rw [ev26_s0_5] at J18_5
      exact J18_5
    · skip
      refine Gl.st (B := (s₁.setTop (mkF m 21 L3 []))) (fun t k => XS.ifNo X0.here hx rfl (hb hby at_18) rfl ((if0 _ _).trans (feq hc18_4).1) k) ?_
      refine Gl.st (B := (s₁.setTop (mkF m 22 L3 [(.int (1 : Int32))]))) (fun t k => XS.iconst X0.here hx rfl (hb hby at_21) k) ?_
      refine Gl.st (B := (s₁.setTop (mkF m 26 L3 [(.int (1 : Int32))]))) (fun t k => XS.goto X0.here hx rfl (pc0 := 22) (pc' := 26) rfl (hb hby at_22) (by decide) (by decide) k) ?_
      have ev26_s0_5 : v26_s0_5 = (1 : Int32) := by rw [hv26_s0_5, if_neg hc18_4]
      rw [ev26_s0_5] at J18_5
      exact J18_5
  obtain ⟨L6, hL6⟩ : ∃ z : Array Slot, z = #[.val (.long q1), .second, .val (.long q2), .second, .val (.long q3), .second, .val (.long q4), .second, .val (.int p5), .val (.int v12_s0_2), .val (.int v26_s0_5), .unset, .unset, .unset, .unset, .unset, .unset, .unset, .unset, .unset, .unset, .unset, .unset, .unset, .unset, .unset, .unset, .unset, .unset, .unset] := ⟨_, rfl⟩
  refine Gl.st (B := (s₁.setTop (mkF m 28 L6 []))) (fun t k => XS.istore X0.here hx rfl (hb hby at_26) rfl (l' := L6) (stAt hL3 hL6 rfl rfl) k) ?_
  refine Gl.st (B := (s₁.setTop (mkF m 29 L6 [(.long q1)]))) (fun t k => XS.lloadN X0.here hx rfl (hb hby at_28) (ldAt hL6 rfl) k) ?_
  refine Gl.st (B := (s₁.setTop (mkF m 32 L6 [(.long (9223372036854775807 : Int64)), (.long q1)]))) (fun t k => X0.ldc2Long hx hown (mvT hZ (tw hw 0 rfl)) (g := (mkF m 29 L6 [(.long q1)])) rfl (hb hby at_29) _ k) ?_
  refine Gl.st (B := (s₁.setTop (mkF m 33 L6 [(.long (q1 &&& (9223372036854775807 : Int64)))]))) (fun t k => XS.land X0.here hx rfl (hb hby at_32) rfl k) ?_
  obtain ⟨y11_33_7, hy11_33_7⟩ : ∃ z : Int64, z = (q1 &&& (9223372036854775807 : Int64)) := ⟨_, rfl⟩
  refine Gl.cast (B := (s₁.setTop (mkF m 33 L6 [(.long y11_33_7)]))) (by rw [hy11_33_7]) ?_
  obtain ⟨L8, hL8⟩ : ∃ z : Array Slot, z = #[.val (.long q1), .second, .val (.long q2), .second, .val (.long q3), .second, .val (.long q4), .second, .val (.int p5), .val (.int v12_s0_2), .val (.int v26_s0_5), .val (.long y11_33_7), .second, .unset, .unset, .unset, .unset, .unset, .unset, .unset, .unset, .unset, .unset, .unset, .unset, .unset, .unset, .unset, .unset, .unset] := ⟨_, rfl⟩
  refine Gl.st (B := (s₁.setTop (mkF m 35 L8 []))) (fun t k => XS.lstore X0.here hx rfl (hb hby at_33) rfl (l' := L8) (stAt hL6 hL8 rfl rfl) k) ?_
  refine Gl.st (B := (s₁.setTop (mkF m 36 L8 [(.long q2)]))) (fun t k => XS.lloadN X0.here hx rfl (hb hby at_35) (ldAt hL8 rfl) k) ?_
  refine Gl.st (B := (s₁.setTop (mkF m 39 L8 [(.long (9223372036854775807 : Int64)), (.long q2)]))) (fun t k => X0.ldc2Long hx hown (mvT hZ (tw hw 0 rfl)) (g := (mkF m 36 L8 [(.long q2)])) rfl (hb hby at_36) _ k) ?_
  refine Gl.st (B := (s₁.setTop (mkF m 40 L8 [(.long (q2 &&& (9223372036854775807 : Int64)))]))) (fun t k => XS.land X0.here hx rfl (hb hby at_39) rfl k) ?_
  obtain ⟨y13_40_9, hy13_40_9⟩ : ∃ z : Int64, z = (q2 &&& (9223372036854775807 : Int64)) := ⟨_, rfl⟩
  refine Gl.cast (B := (s₁.setTop (mkF m 40 L8 [(.long y13_40_9)]))) (by rw [hy13_40_9]) ?_
  obtain ⟨L10, hL10⟩ : ∃ z : Array Slot, z = #[.val (.long q1), .second, .val (.long q2), .second, .val (.long q3), .second, .val (.long q4), .second, .val (.int p5), .val (.int v12_s0_2), .val (.int v26_s0_5), .val (.long y11_33_7), .second, .val (.long y13_40_9), .second, .unset, .unset, .unset, .unset, .unset, .unset, .unset, .unset, .unset, .unset, .unset, .unset, .unset, .unset, .unset] := ⟨_, rfl⟩
  refine Gl.st (B := (s₁.setTop (mkF m 42 L10 []))) (fun t k => XS.lstore X0.here hx rfl (hb hby at_40) rfl (l' := L10) (stAt hL8 hL10 rfl rfl) k) ?_
  refine Gl.st (B := (s₁.setTop (mkF m 44 L10 [(.long q3)]))) (fun t k => XS.lload X0.here hx rfl (hb hby at_42) (ldAt hL10 rfl) k) ?_
  refine Gl.st (B := (s₁.setTop (mkF m 47 L10 [(.long (9223372036854775807 : Int64)), (.long q3)]))) (fun t k => X0.ldc2Long hx hown (mvT hZ (tw hw 0 rfl)) (g := (mkF m 44 L10 [(.long q3)])) rfl (hb hby at_44) _ k) ?_
  refine Gl.st (B := (s₁.setTop (mkF m 48 L10 [(.long (q3 &&& (9223372036854775807 : Int64)))]))) (fun t k => XS.land X0.here hx rfl (hb hby at_47) rfl k) ?_
  obtain ⟨y15_48_11, hy15_48_11⟩ : ∃ z : Int64, z = (q3 &&& (9223372036854775807 : Int64)) := ⟨_, rfl⟩
  refine Gl.cast (B := (s₁.setTop (mkF m 48 L10 [(.long y15_48_11)]))) (by rw [hy15_48_11]) ?_
  obtain ⟨L12, hL12⟩ : ∃ z : Array Slot, z = #[.val (.long q1), .second, .val (.long q2), .second, .val (.long q3), .second, .val (.long q4), .second, .val (.int p5), .val (.int v12_s0_2), .val (.int v26_s0_5), .val (.long y11_33_7), .second, .val (.long y13_40_9), .second, .val (.long y15_48_11), .second, .unset, .unset, .unset, .unset, .unset, .unset, .unset, .unset, .unset, .unset, .unset, .unset, .unset] := ⟨_, rfl⟩
  refine Gl.st (B := (s₁.setTop (mkF m 50 L12 []))) (fun t k => XS.lstore X0.here hx rfl (hb hby at_48) rfl (l' := L12) (stAt hL10 hL12 rfl rfl) k) ?_
  refine Gl.st (B := (s₁.setTop (mkF m 52 L12 [(.long q4)]))) (fun t k => XS.lload X0.here hx rfl (hb hby at_50) (ldAt hL12 rfl) k) ?_
  refine Gl.st (B := (s₁.setTop (mkF m 55 L12 [(.long (9223372036854775807 : Int64)), (.long q4)]))) (fun t k => X0.ldc2Long hx hown (mvT hZ (tw hw 0 rfl)) (g := (mkF m 52 L12 [(.long q4)])) rfl (hb hby at_52) _ k) ?_
  refine Gl.st (B := (s₁.setTop (mkF m 56 L12 [(.long (q4 &&& (9223372036854775807 : Int64)))]))) (fun t k => XS.land X0.here hx rfl (hb hby at_55) rfl k) ?_
  obtain ⟨y17_56_13, hy17_56_13⟩ : ∃ z : Int64, z = (q4 &&& (9223372036854775807 : Int64)) := ⟨_, rfl⟩
  refine Gl.cast (B := (s₁.setTop (mkF m 56 L12 [(.long y17_56_13)]))) (by rw [hy17_56_13]) ?_
  obtain ⟨L14, hL14⟩ : ∃ z : Array Slot, z = #[.val (.long q1), .second, .val (.long q2), .second, .val (.long q3), .second, .val (.long q4), .second, .val (.int p5), .val (.int v12_s0_2), .val (.int v26_s0_5), .val (.long y11_33_7), .second, .val (.long y13_40_9), .second, .val (.long y15_48_11), .second, .val (.long y17_56_13), .second, .unset, .unset, .unset, .unset, .unset, .unset, .unset, .unset, .unset, .unset, .unset] := ⟨_, rfl⟩
  refine Gl.st (B := (s₁.setTop (mkF m 58 L14 []))) (fun t k => XS.lstore X0.here hx rfl (hb hby at_56) rfl (l' := L14) (stAt hL12 hL14 rfl rfl) k) ?_
  refine Gl.st (B := (s₁.setTop (mkF m 60 L14 [(.long y11_33_7)]))) (fun t k => XS.lload X0.here hx rfl (hb hby at_58) (ldAt hL14 rfl) k) ?_
  refine Gl.st (B := (s₁.setTop (mkF m 62 L14 [(.long y13_40_9), (.long y11_33_7)]))) (fun t k => XS.lload X0.here hx rfl (hb hby at_60) (ldAt hL14 rfl) k) ?_
  obtain ⟨_, _, ⟨T15, L15q, k15, n15⟩, -, X15, ⟨Lc15, hQ15, l15, y15, z15⟩, st15⟩ := Jvm.LawKit.callS X0 hx (y := (⟨"java/lang/Math", "min", "(JJ)J"⟩ : MethodName)) hown (mvT hZ (tw hw 1 rfl)) (mvT hZ (tw hw 2 rfl)) (mvT hZ (tw hw 3 rfl)) (mvT hZ (tw hw 4 rfl)) (by decide) (backOf (W := 0) (rm1 l Z a0 hw [] y11_33_7 y13_40_9 h0 n0 Z0) hZ (tw hw 4 rfl) (tw hw 3 rfl) (by decide) (by decide)) (g := (mkF m 62 L14 [(.long y13_40_9), (.long y11_33_7)])) rfl (szAt hml hL14 rfl) (argsL := [(.long y11_33_7), (.long y13_40_9)]) (rest := []) (lenOf pd_0_0 rfl) rfl (by show 2 * 0 + _ ≤ _; exact Nat.le_of_eq rfl) (hb hby at_62) (fun _ _ => ⟨rfl, e0, (by decide : 0 + 0 ≤ _), (by decide : 0 + 0 ≤ _)⟩)
  dsimp only [Pt.U, Pt.locs, Pt.cells, Pt.slots] at X15 l15 y15 z15 st15 hQ15
  subst l15 y15 z15
  obtain ⟨rfl, N15q, eh15⟩ := hQ15
  have N15 := Fr.app N0 N15q
  refine Gl.st (B := (T15.setTop (mkF m 65 L14 [(.long ((if y13_40_9 < y11_33_7 then y13_40_9 else y11_33_7)))]))) (fun t k => st15 t k) ?_
  obtain ⟨r62_16, hr62_16⟩ : ∃ z : Int64, z = ((if y13_40_9 < y11_33_7 then y13_40_9 else y11_33_7)) := ⟨_, rfl⟩
  refine Gl.cast (B := (T15.setTop (mkF m 65 L14 [(.long r62_16)]))) (by rw [hr62_16]) ?_
  obtain ⟨L17, hL17⟩ : ∃ z : Array Slot, z = #[.val (.long q1), .second, .val (.long q2), .second, .val (.long q3), .second, .val (.long q4), .second, .val (.int p5), .val (.int v12_s0_2), .val (.int v26_s0_5), .val (.long y11_33_7), .second, .val (.long y13_40_9), .second, .val (.long y15_48_11), .second, .val (.long y17_56_13), .second, .val (.long r62_16), .second, .unset, .unset, .unset, .unset, .unset, .unset, .unset, .unset, .unset] := ⟨_, rfl⟩
  refine Gl.st (B := (T15.setTop (mkF m 67 L17 []))) (fun t k => XS.lstore X15.here hx rfl (hb hby at_65) rfl (l' := L17) (stAt hL14 hL17 rfl rfl) k) ?_
  refine Gl.st (B := (T15.setTop (mkF m 69 L17 [(.long y11_33_7)]))) (fun t k => XS.lload X15.here hx rfl (hb hby at_67) (ldAt hL17 rfl) k) ?_
  refine Gl.st (B := (T15.setTop (mkF m 71 L17 [(.long y13_40_9), (.long y11_33_7)]))) (fun t k => XS.lload X15.here hx rfl (hb hby at_69) (ldAt hL17 rfl) k) ?_
  obtain ⟨_, _, ⟨T18, L18q, k18, n18⟩, -, X18, ⟨Lc18, hQ18, l18, y18, z18⟩, st18⟩ := Jvm.LawKit.callS X15 hx (y := (⟨"java/lang/Math", "max", "(JJ)J"⟩ : MethodName)) hown (mvT hZ (tw hw 5 rfl)) (mvT hZ (tw hw 6 rfl)) (mvT hZ (tw hw 3 rfl)) (mvT hZ (tw hw 7 rfl)) (by decide) (backOf (W := 0) (rm2 l Z a0 hw [] y11_33_7 y13_40_9 h0 n0 Z0) hZ (tw hw 7 rfl) (tw hw 3 rfl) (by decide) (by decide)) (g := (mkF m 71 L17 [(.long y13_40_9), (.long y11_33_7)])) rfl (szAt hml hL17 rfl) (argsL := [(.long y11_33_7), (.long y13_40_9)]) (rest := []) (lenOf pd_0_0 rfl) rfl (by show 2 * 0 + _ ≤ _; exact Nat.le_of_eq rfl) (hb hby at_71) (fun _ _ => ⟨rfl, eh15, (by decide : 0 + 0 ≤ _), (by decide : 0 + 0 ≤ _)⟩)
  dsimp only [Pt.U, Pt.locs, Pt.cells, Pt.slots] at X18 l18 y18 z18 st18 hQ18
  subst l18 y18 z18
  obtain ⟨rfl, N18q, eh18⟩ := hQ18
  have N18 := Fr.app N15 N18q
  refine Gl.st (B := (T18.setTop (mkF m 74 L17 [(.long ((if y11_33_7 < y13_40_9 then y13_40_9 else y11_33_7)))]))) (fun t k => st18 t k) ?_
  obtain ⟨r71_19, hr71_19⟩ : ∃ z : Int64, z = ((if y11_33_7 < y13_40_9 then y13_40_9 else y11_33_7)) := ⟨_, rfl⟩
  refine Gl.cast (B := (T18.setTop (mkF m 74 L17 [(.long r71_19)]))) (by rw [hr71_19]) ?_
  obtain ⟨L20, hL20⟩ : ∃ z : Array Slot, z = #[.val (.long q1), .second, .val (.long q2), .second, .val (.long q3), .second, .val (.long q4), .second, .val (.int p5), .val (.int v12_s0_2), .val (.int v26_s0_5), .val (.long y11_33_7), .second, .val (.long y13_40_9), .second, .val (.long y15_48_11), .second, .val (.long y17_56_13), .second, .val (.long r62_16), .second, .val (.long r71_19), .second, .unset, .unset, .unset, .unset, .unset, .unset, .unset] := ⟨_, rfl⟩
  refine Gl.st (B := (T18.setTop (mkF m 76 L20 []))) (fun t k => XS.lstore X18.here hx rfl (hb hby at_74) rfl (l' := L20) (stAt hL17 hL20 rfl rfl) k) ?_
  refine Gl.st (B := (T18.setTop (mkF m 78 L20 [(.long y15_48_11)]))) (fun t k => XS.lload X18.here hx rfl (hb hby at_76) (ldAt hL20 rfl) k) ?_
  refine Gl.st (B := (T18.setTop (mkF m 80 L20 [(.long y17_56_13), (.long y15_48_11)]))) (fun t k => XS.lload X18.here hx rfl (hb hby at_78) (ldAt hL20 rfl) k) ?_
  obtain ⟨_, _, ⟨T21, L21q, k21, n21⟩, -, X21, ⟨Lc21, hQ21, l21, y21, z21⟩, st21⟩ := Jvm.LawKit.callS X18 hx (y := (⟨"java/lang/Math", "min", "(JJ)J"⟩ : MethodName)) hown (mvT hZ (tw hw 1 rfl)) (mvT hZ (tw hw 2 rfl)) (mvT hZ (tw hw 3 rfl)) (mvT hZ (tw hw 4 rfl)) (by decide) (backOf (W := 0) (rm1 l Z a0 hw [] y15_48_11 y17_56_13 h0 n0 Z0) hZ (tw hw 4 rfl) (tw hw 3 rfl) (by decide) (by decide)) (g := (mkF m 80 L20 [(.long y17_56_13), (.long y15_48_11)])) rfl (szAt hml hL20 rfl) (argsL := [(.long y15_48_11), (.long y17_56_13)]) (rest := []) (lenOf pd_0_0 rfl) rfl (by show 2 * 0 + _ ≤ _; exact Nat.le_of_eq rfl) (hb hby at_80) (fun _ _ => ⟨rfl, eh18, (by decide : 0 + 0 ≤ _), (by decide : 0 + 0 ≤ _)⟩)
  dsimp only [Pt.U, Pt.locs, Pt.cells, Pt.slots] at X21 l21 y21 z21 st21 hQ21
  subst l21 y21 z21
  obtain ⟨rfl, N21q, eh21⟩ := hQ21
  have N21 := Fr.app N18 N21q
  refine Gl.st (B := (T21.setTop (mkF m 83 L20 [(.long ((if y17_56_13 < y15_48_11 then y17_56_13 else y15_48_11)))]))) (fun t k => st21 t k) ?_
  obtain ⟨r80_22, hr80_22⟩ : ∃ z : Int64, z = ((if y17_56_13 < y15_48_11 then y17_56_13 else y15_48_11)) := ⟨_, rfl⟩
  refine Gl.cast (B := (T21.setTop (mkF m 83 L20 [(.long r80_22)]))) (by rw [hr80_22]) ?_
  obtain ⟨L23, hL23⟩ : ∃ z : Array Slot, z = #[.val (.long q1), .second, .val (.long q2), .second, .val (.long q3), .second, .val (.long q4), .second, .val (.int p5), .val (.int v12_s0_2), .val (.int v26_s0_5), .val (.long y11_33_7), .second, .val (.long y13_40_9), .second, .val (.long y15_48_11), .second, .val (.long y17_56_13), .second, .val (.long r62_16), .second, .val (.long r71_19), .second, .val (.long r80_22), .second, .unset, .unset, .unset, .unset, .unset] := ⟨_, rfl⟩
  refine Gl.st (B := (T21.setTop (mkF m 85 L23 []))) (fun t k => XS.lstore X21.here hx rfl (hb hby at_83) rfl (l' := L23) (stAt hL20 hL23 rfl rfl) k) ?_
  refine Gl.st (B := (T21.setTop (mkF m 87 L23 [(.long y15_48_11)]))) (fun t k => XS.lload X21.here hx rfl (hb hby at_85) (ldAt hL23 rfl) k) ?_
  refine Gl.st (B := (T21.setTop (mkF m 89 L23 [(.long y17_56_13), (.long y15_48_11)]))) (fun t k => XS.lload X21.here hx rfl (hb hby at_87) (ldAt hL23 rfl) k) ?_
  obtain ⟨_, _, ⟨T24, L24q, k24, n24⟩, -, X24, ⟨Lc24, hQ24, l24, y24, z24⟩, st24⟩ := Jvm.LawKit.callS X21 hx (y := (⟨"java/lang/Math", "max", "(JJ)J"⟩ : MethodName)) hown (mvT hZ (tw hw 5 rfl)) (mvT hZ (tw hw 6 rfl)) (mvT hZ (tw hw 3 rfl)) (mvT hZ (tw hw 7 rfl)) (by decide) (backOf (W := 0) (rm2 l Z a0 hw [] y15_48_11 y17_56_13 h0 n0 Z0) hZ (tw hw 7 rfl) (tw hw 3 rfl) (by decide) (by decide)) (g := (mkF m 89 L23 [(.long y17_56_13), (.long y15_48_11)])) rfl (szAt hml hL23 rfl) (argsL := [(.long y15_48_11), (.long y17_56_13)]) (rest := []) (lenOf pd_0_0 rfl) rfl (by show 2 * 0 + _ ≤ _; exact Nat.le_of_eq rfl) (hb hby at_89) (fun _ _ => ⟨rfl, eh21, (by decide : 0 + 0 ≤ _), (by decide : 0 + 0 ≤ _)⟩)
  dsimp only [Pt.U, Pt.locs, Pt.cells, Pt.slots] at X24 l24 y24 z24 st24 hQ24
  subst l24 y24 z24
  obtain ⟨rfl, N24q, eh24⟩ := hQ24
  have N24 := Fr.app N21 N24q
  refine Gl.st (B := (T24.setTop (mkF m 92 L23 [(.long ((if y15_48_11 < y17_56_13 then y17_56_13 else y15_48_11)))]))) (fun t k => st24 t k) ?_
  obtain ⟨r89_25, hr89_25⟩ : ∃ z : Int64, z = ((if y15_48_11 < y17_56_13 then y17_56_13 else y15_48_11)) := ⟨_, rfl⟩
  refine Gl.cast (B := (T24.setTop (mkF m 92 L23 [(.long r89_25)]))) (by rw [hr89_25]) ?_
  obtain ⟨L26, hL26⟩ : ∃ z : Array Slot, z = #[.val (.long q1), .second, .val (.long q2), .second, .val (.long q3), .second, .val (.long q4), .second, .val (.int p5), .val (.int v12_s0_2), .val (.int v26_s0_5), .val (.long y11_33_7), .second, .val (.long y13_40_9), .second, .val (.long y15_48_11), .second, .val (.long y17_56_13), .second, .val (.long r62_16), .second, .val (.long r71_19), .second, .val (.long r80_22), .second, .val (.long r89_25), .second, .unset, .unset, .unset] := ⟨_, rfl⟩
  refine Gl.st (B := (T24.setTop (mkF m 94 L26 []))) (fun t k => XS.lstore X24.here hx rfl (hb hby at_92) rfl (l' := L26) (stAt hL23 hL26 rfl rfl) k) ?_
  refine Gl.st (B := (T24.setTop (mkF m 96 L26 [(.int v12_s0_2)]))) (fun t k => XS.iload X24.here hx rfl (hb hby at_94) (ldAt hL26 rfl) k) ?_
  by_cases hc96_27 : v12_s0_2 = (0 : Int32)
  · skip
    refine Gl.st (B := (T24.setTop (mkF m 115 L26 []))) (fun t k => XS.ifYes X24.here hx rfl (pc0 := 96) (pc' := 115) rfl (hb hby at_96) rfl ((if0 _ _).trans (teq hc96_27).1) (by decide) (by decide) k) ?_
    obtain ⟨T28, h28, X28, e28, E28, A28, D28, -, st28⟩ := newO X24 hx hZ hown (tw hw 8 rfl) (tw hw 9 rfl) (tw hw 10 rfl) eh24 (g := (mkF m 115 L26 [])) rfl (hb hby at_115) (by decide) (by decide)
    obtain ⟨b28, gq28⟩ : ∃ z, z = h0.size := ⟨_, rfl⟩
    rw [← gq28] at A28 D28 st28
    have g_b28 : n0 ≤ b28 := Nat.le_trans Z0 (Nat.le_of_eq gq28.symm)
    have Zc29 : n0 ≤ h28.size := Nat.le_trans Z0 E28.1
    have F28_min : Fld Z h28 b28 "com/example/idem1/idem1/ByteRange" "min" "J" (.long (0 : Int64)) := D28 (Or.inr (tw hw 24 rfl)) (ty := .long) (by decide)
    have F28_max : Fld Z h28 b28 "com/example/idem1/idem1/ByteRange" "max" "J" (.long (0 : Int64)) := D28 (Or.inr (tw hw 26 rfl)) (ty := .long) (by decide)
    refine Gl.st (B := (T28.setTop (mkF m 118 L26 [(.ref b28)]))) st28 ?_
    refine Gl.st (B := (T28.setTop (mkF m 119 L26 [(.ref b28), (.ref b28)]))) (fun t k => XS.dup X28.here hx rfl (hb hby at_118) rfl rfl k) ?_
    refine Gl.st (B := (T28.setTop (mkF m 121 L26 [(.long r62_16), (.ref b28), (.ref b28)]))) (fun t k => XS.lload X28.here hx rfl (hb hby at_119) (ldAt hL26 rfl) k) ?_
    refine Gl.st (B := (T28.setTop (mkF m 123 L26 [(.long r71_19), (.long r62_16), (.ref b28), (.ref b28)]))) (fun t k => XS.lload X28.here hx rfl (hb hby at_121) (ldAt hL26 rfl) k) ?_
    obtain ⟨_, _, ⟨T30, L30q, k30, n30⟩, -, X30, ⟨Lc30, hQ30, l30, y30, z30⟩, st30⟩ := X28.specialBack hx (y := (⟨"com/example/idem1/idem1/ByteRange", "<init>", "(JJ)V"⟩ : MethodName)) rfl hown (mvT hZ (tw hw 12 rfl)) (mvT hZ (tw hw 13 rfl)) (mvT hZ (tw hw 14 rfl)) (by decide) (backOf (W := 1) (rm3 l Z a0 hw [] b28 r62_16 r71_19 ((.long (0 : Int64))) ((.long (0 : Int64))) h28 n0 Zc29 A28 F28_min g_b28 F28_max) hZ (tw hw 14 rfl) (tw hw 10 rfl) (by decide) (by decide)) (g := (mkF m 123 L26 [(.long r71_19), (.long r62_16), (.ref b28), (.ref b28)])) rfl (szAt hml hL26 rfl) (Steps.refl _) (a := b28) (argsL := [(.long r62_16), (.long r71_19)]) (rest := [(.ref b28)]) (lenOf pd_0_1 rfl) rfl (by show 2 * 0 + _ ≤ _; exact Nat.le_of_eq rfl) (hb hby at_123) (fun _ _ => ⟨rfl, e28, (by decide : 1 + 0 ≤ _), (by decide : 2 + 0 ≤ _)⟩)
    dsimp only [Pt.U, Pt.locs, Pt.cells, Pt.slots] at X30 l30 y30 z30 st30 hQ30
    subst l30 y30 z30
    obtain ⟨rfl, N30q, Kc30, fq30_0, fq30_1, fq30_2⟩ := hQ30
    have Zc31 : n0 ≤ T30.heap.size := Nat.le_trans Zc29 Kc30.1
    have N30 := Fr.app N24 N30q
    refine Gl.st (B := (T30.setTop (mkF m 126 L26 [(.ref b28)]))) (fun t k => st30.trans k) ?_
    obtain ⟨L32, hL32⟩ : ∃ z : Array Slot, z = #[.val (.long q1), .second, .val (.long q2), .second, .val (.long q3), .second, .val (.long q4), .second, .val (.int p5), .val (.int v12_s0_2), .val (.int v26_s0_5), .val (.long y11_33_7), .second, .val (.long y13_40_9), .second, .val (.long y15_48_11), .second, .val (.long y17_56_13), .second, .val (.long r62_16), .second, .val (.long r71_19), .second, .val (.long r80_22), .second, .val (.long r89_25), .second, .val (.ref b28), .unset, .unset] := ⟨_, rfl⟩
    refine Gl.st (B := (T30.setTop (mkF m 128 L32 []))) (fun t k => XS.astore X30.here hx rfl (hb hby at_126) rfl rfl (l' := L32) (stAt hL26 hL32 rfl rfl) k) ?_
    refine Gl.st (B := (T30.setTop (mkF m 130 L32 [(.int v26_s0_5)]))) (fun t k => XS.iload X30.here hx rfl (hb hby at_128) (ldAt hL32 rfl) k) ?_
    by_cases hc130_33 : v26_s0_5 = (0 : Int32)
    · skip
      refine Gl.st (B := (T30.setTop (mkF m 149 L32 []))) (fun t k => XS.ifYes X30.here hx rfl (pc0 := 130) (pc' := 149) rfl (hb hby at_130) rfl ((if0 _ _).trans (teq hc130_33).1) (by decide) (by decide) k) ?_
      obtain ⟨T34, h34, X34, e34, E34, A34, D34, -, st34⟩ := newO X30 hx hZ hown (tw hw 8 rfl) (tw hw 9 rfl) (tw hw 10 rfl) rfl (g := (mkF m 149 L32 [])) rfl (hb hby at_149) (by decide) (by decide)
      obtain ⟨b34, gq34⟩ : ∃ z, z = T30.heap.size := ⟨_, rfl⟩
      rw [← gq34] at A34 D34 st34
      have g_b34 : n0 ≤ b34 := Nat.le_trans Zc31 (Nat.le_of_eq gq34.symm)
      have Zc35 : n0 ≤ h34.size := Nat.le_trans Zc31 E34.1
      have F34_min : Fld Z h34 b34 "com/example/idem1/idem1/ByteRange" "min" "J" (.long (0 : Int64)) := D34 (Or.inr (tw hw 24 rfl)) (ty := .long) (by decide)
      have F34_max : Fld Z h34 b34 "com/example/idem1/idem1/ByteRange" "max" "J" (.long (0 : Int64)) := D34 (Or.inr (tw hw 26 rfl)) (ty := .long) (by decide)
      refine Gl.st (B := (T34.setTop (mkF m 152 L32 [(.ref b34)]))) st34 ?_
      refine Gl.st (B := (T34.setTop (mkF m 153 L32 [(.ref b34), (.ref b34)]))) (fun t k => XS.dup X34.here hx rfl (hb hby at_152) rfl rfl k) ?_
      refine Gl.st (B := (T34.setTop (mkF m 155 L32 [(.long r80_22), (.ref b34), (.ref b34)]))) (fun t k => XS.lload X34.here hx rfl (hb hby at_153) (ldAt hL32 rfl) k) ?_
      refine Gl.st (B := (T34.setTop (mkF m 157 L32 [(.long r89_25), (.long r80_22), (.ref b34), (.ref b34)]))) (fun t k => XS.lload X34.here hx rfl (hb hby at_155) (ldAt hL32 rfl) k) ?_
      obtain ⟨_, _, ⟨T36, L36q, k36, n36⟩, -, X36, ⟨Lc36, hQ36, l36, y36, z36⟩, st36⟩ := X34.specialBack hx (y := (⟨"com/example/idem1/idem1/ByteRange", "<init>", "(JJ)V"⟩ : MethodName)) rfl hown (mvT hZ (tw hw 12 rfl)) (mvT hZ (tw hw 13 rfl)) (mvT hZ (tw hw 14 rfl)) (by decide) (backOf (W := 1) (rm3 l Z a0 hw [] b34 r80_22 r89_25 ((.long (0 : Int64))) ((.long (0 : Int64))) h34 n0 Zc35 A34 F34_min g_b34 F34_max) hZ (tw hw 14 rfl) (tw hw 10 rfl) (by decide) (by decide)) (g := (mkF m 157 L32 [(.long r89_25), (.long r80_22), (.ref b34), (.ref b34)])) rfl (szAt hml hL32 rfl) (Steps.refl _) (a := b34) (argsL := [(.long r80_22), (.long r89_25)]) (rest := [(.ref b34)]) (lenOf pd_0_1 rfl) rfl (by show 2 * 0 + _ ≤ _; exact Nat.le_of_eq rfl) (hb hby at_157) (fun _ _ => ⟨rfl, e34, (by decide : 2 + 0 ≤ _), (by decide : 4 + 0 ≤ _)⟩)
      dsimp only [Pt.U, Pt.locs, Pt.cells, Pt.slots] at X36 l36 y36 z36 st36 hQ36
      subst l36 y36 z36
      obtain ⟨rfl, N36q, Kc36, fq36_0, fq36_1, fq36_2⟩ := hQ36
      have Zc37 : n0 ≤ T36.heap.size := Nat.le_trans Zc35 Kc36.1
      have N36 := Fr.app N30 N36q
      refine Gl.st (B := (T36.setTop (mkF m 160 L32 [(.ref b34)]))) (fun t k => st36.trans k) ?_
      obtain ⟨L38, hL38⟩ : ∃ z : Array Slot, z = #[.val (.long q1), .second, .val (.long q2), .second, .val (.long q3), .second, .val (.long q4), .second, .val (.int p5), .val (.int v12_s0_2), .val (.int v26_s0_5), .val (.long y11_33_7), .second, .val (.long y13_40_9), .second, .val (.long y15_48_11), .second, .val (.long y17_56_13), .second, .val (.long r62_16), .second, .val (.long r71_19), .second, .val (.long r80_22), .second, .val (.long r89_25), .second, .val (.ref b28), .val (.ref b34), .unset] := ⟨_, rfl⟩
      refine Gl.st (B := (T36.setTop (mkF m 162 L38 []))) (fun t k => XS.astore X36.here hx rfl (hb hby at_160) rfl rfl (l' := L38) (stAt hL32 hL38 rfl rfl) k) ?_
      refine Gl.st (B := (T36.setTop (mkF m 164 L38 [(.int v12_s0_2)]))) (fun t k => XS.iload X36.here hx rfl (hb hby at_162) (ldAt hL38 rfl) k) ?_
      refine Gl.st (B := (T36.setTop (mkF m 167 L38 []))) (fun t k => XS.ifNo X36.here hx rfl (hb hby at_164) rfl ((if0 _ _).trans (teq hc96_27).2) k) ?_
      refine Gl.st (B := (T36.setTop (mkF m 169 L38 [(.int v26_s0_5)]))) (fun t k => XS.iload X36.here hx rfl (hb hby at_167) (ldAt hL38 rfl) k) ?_
      refine Gl.st (B := (T36.setTop (mkF m 172 L38 []))) (fun t k => XS.ifNo X36.here hx rfl (hb hby at_169) rfl ((if0 _ _).trans (teq hc130_33).2) k) ?_
      refine Gl.st (B := (T36.setTop (mkF m 174 L38 [(.long r62_16)]))) (fun t k => XS.lload X36.here hx rfl (hb hby at_172) (ldAt hL38 rfl) k) ?_
      refine Gl.st (B := (T36.setTop (mkF m 176 L38 [(.long r80_22), (.long r62_16)]))) (fun t k => XS.lload X36.here hx rfl (hb hby at_174) (ldAt hL38 rfl) k) ?_
      obtain ⟨_, _, ⟨T39, L39q, k39, n39⟩, -, X39, ⟨Lc39, hQ39, l39, y39, z39⟩, st39⟩ := Jvm.LawKit.callS X36 hx (y := (⟨"java/lang/Math", "max", "(JJ)J"⟩ : MethodName)) hown (mvT hZ (tw hw 5 rfl)) (mvT hZ (tw hw 6 rfl)) (mvT hZ (tw hw 3 rfl)) (mvT hZ (tw hw 7 rfl)) (by decide) (backOf (W := 0) (rm2 l Z a0 hw [] r62_16 r80_22 T36.heap n0 Zc37) hZ (tw hw 7 rfl) (tw hw 3 rfl) (by decide) (by decide)) (g := (mkF m 176 L38 [(.long r80_22), (.long r62_16)])) rfl (szAt hml hL38 rfl) (argsL := [(.long r62_16), (.long r80_22)]) (rest := []) (lenOf pd_0_0 rfl) rfl (by show 2 * 0 + _ ≤ _; exact Nat.le_of_eq rfl) (hb hby at_176) (fun _ _ => ⟨rfl, rfl, (by decide : 2 + 0 ≤ _), (by decide : 4 + 0 ≤ _)⟩)
      dsimp only [Pt.U, Pt.locs, Pt.cells, Pt.slots] at X39 l39 y39 z39 st39 hQ39
      subst l39 y39 z39
      obtain ⟨rfl, N39q, eh39⟩ := hQ39
      have N39 := Fr.app N36 N39q
      refine Gl.st (B := (T39.setTop (mkF m 179 L38 [(.long ((if r62_16 < r80_22 then r80_22 else r62_16)))]))) (fun t k => st39 t k) ?_
      obtain ⟨r176_40, hr176_40⟩ : ∃ z : Int64, z = ((if r62_16 < r80_22 then r80_22 else r62_16)) := ⟨_, rfl⟩
      refine Gl.cast (B := (T39.setTop (mkF m 179 L38 [(.long r176_40)]))) (by rw [hr176_40]) ?_
      refine Gl.st (B := (T39.setTop (mkF m 181 L38 [(.long r71_19), (.long r176_40)]))) (fun t k => XS.lload X39.here hx rfl (hb hby at_179) (ldAt hL38 rfl) k) ?_
      refine Gl.st (B := (T39.setTop (mkF m 183 L38 [(.long r89_25), (.long r71_19), (.long r176_40)]))) (fun t k => XS.lload X39.here hx rfl (hb hby at_181) (ldAt hL38 rfl) k) ?_
      obtain ⟨_, _, ⟨T41, L41q, k41, n41⟩, -, X41, ⟨Lc41, hQ41, l41, y41, z41⟩, st41⟩ := Jvm.LawKit.callS X39 hx (y := (⟨"java/lang/Math", "min", "(JJ)J"⟩ : MethodName)) hown (mvT hZ (tw hw 1 rfl)) (mvT hZ (tw hw 2 rfl)) (mvT hZ (tw hw 3 rfl)) (mvT hZ (tw hw 4 rfl)) (by decide) (backOf (W := 2) (rm1 l Z a0 hw [] r71_19 r89_25 T36.heap n0 Zc37) hZ (tw hw 4 rfl) (tw hw 3 rfl) (by decide) (by decide)) (g := (mkF m 183 L38 [(.long r89_25), (.long r71_19), (.long r176_40)])) rfl (szAt hml hL38 rfl) (argsL := [(.long r71_19), (.long r89_25)]) (rest := [(.long r176_40)]) (lenOf pd_0_0 rfl) rfl (by show 2 * 0 + _ ≤ _; exact Nat.le_of_eq rfl) (hb hby at_183) (fun _ _ => ⟨rfl, eh39, (by decide : 2 + 0 ≤ _), (by decide : 4 + 0 ≤ _)⟩)
      dsimp only [Pt.U, Pt.locs, Pt.cells, Pt.slots] at X41 l41 y41 z41 st41 hQ41
      subst l41 y41 z41
      obtain ⟨rfl, N41q, eh41⟩ := hQ41
      have N41 := Fr.app N39 N41q
      refine Gl.st (B := (T41.setTop (mkF m 186 L38 [(.long ((if r89_25 < r71_19 then r89_25 else r71_19))), (.long r176_40)]))) (fun t k => st41 t k) ?_
      obtain ⟨r183_42, hr183_42⟩ : ∃ z : Int64, z = ((if r89_25 < r71_19 then r89_25 else r71_19)) := ⟨_, rfl⟩
      refine Gl.cast (B := (T41.setTop (mkF m 186 L38 [(.long r183_42), (.long r176_40)]))) (by rw [hr183_42]) ?_
      refine Gl.st (B := (T41.setTop (mkF m 187 L38 [(.int (lcmpW r176_40 r183_42))]))) (fun t k => XS.lcmp X41.here hx rfl (hb hby at_186) rfl k) ?_
      obtain ⟨v195_s0_44, hv195_s0_44⟩ : ∃ z : Int32, z = (if r183_42 < r176_40 then (0 : Int32) else (1 : Int32)) := ⟨_, rfl⟩
      refine Gl.join (A := (T41.setTop (mkF m 195 L38 [(.int v195_s0_44)]))) (fun J187_44 => ?_) ?_
      · by_cases hc187_43 : r183_42 < r176_40
        · skip
          refine Gl.st (B := (T41.setTop (mkF m 194 L38 []))) (fun t k => XS.ifYes X41.here hx rfl (pc0 := 187) (pc' := 194) rfl (hb hby at_187) rfl ((if0 _ _).trans (tlt ((lw_gt r176_40 r183_42).mpr hc187_43)).2.2.1) (by decide) (by decide) k) ?_
          refine Gl.st (B := (T41.setTop (mkF m 195 L38 [(.int (0 : Int32))]))) (fun t k => XS.iconst X41.here hx rfl (hb hby at_194) k) ?_
          have ev195_s0_44 : v195_s0_44 = (0 : Int32) := by rw [hv195_s0_44, if_pos hc187_43]
          rw [ev195_s0_44] at J187_44
          exact J187_44
        · skip
          refine Gl.st (B := (T41.setTop (mkF m 190 L38 []))) (fun t k => XS.ifNo X41.here hx rfl (hb hby at_187) rfl ((if0 _ _).trans (flt (mt (lw_gt r176_40 r183_42).mp hc187_43)).2.2.1) k) ?_
          refine Gl.st (B := (T41.setTop (mkF m 191 L38 [(.int (1 : Int32))]))) (fun t k => XS.iconst X41.here hx rfl (hb hby at_190) k) ?_
          refine Gl.st (B := (T41.setTop (mkF m 195 L38 [(.int (1 : Int32))]))) (fun t k => XS.goto X41.here hx rfl (pc0 := 191) (pc' := 195) rfl (hb hby at_191) (by decide) (by decide) k) ?_
          have ev195_s0_44 : v195_s0_44 = (1 : Int32) := by rw [hv195_s0_44, if_neg hc187_43]
          rw [ev195_s0_44] at J187_44
          exact J187_44
      obtain ⟨L45, hL45⟩ : ∃ z : Array Slot, z = #[.val (.long q1), .second, .val (.long q2), .second, .val (.long q3), .second, .val (.long q4), .second, .val (.int p5), .val (.int v12_s0_2), .val (.int v26_s0_5), .val (.long y11_33_7), .second, .val (.long y13_40_9), .second, .val (.long y15_48_11), .second, .val (.long y17_56_13), .second, .val (.long r62_16), .second, .val (.long r71_19), .second, .val (.long r80_22), .second, .val (.long r89_25), .second, .val (.ref b28), .val (.ref b34), .val (.int v195_s0_44)] := ⟨_, rfl⟩
      refine Gl.st (B := (T41.setTop (mkF m 197 L45 []))) (fun t k => XS.istore X41.here hx rfl (hb hby at_195) rfl (l' := L45) (stAt hL38 hL45 rfl rfl) k) ?_
      refine Gl.st (B := (T41.setTop (mkF m 199 L45 [(.ref b28)]))) (fun t k => XS.aload X41.here hx rfl (hb hby at_197) (ldAt hL45 rfl) rfl k) ?_
      refine Gl.st (B := (T41.setTop (mkF m 201 L45 [(.ref b34), (.ref b28)]))) (fun t k => XS.aload X41.here hx rfl (hb hby at_199) (ldAt hL45 rfl) rfl k) ?_
      have ne_b28_b34_47 : b28 ≠ b34 := Nat.ne_of_lt (Nat.lt_of_lt_of_le A28.lt (Nat.le_trans Kc30.1 (Nat.le_of_eq gq34.symm)))
      have c48 := ((fq30_1.ext E34).keep Kc36 (ninS ne_b28_b34_47 nin0))
      have c49 := ((fq30_2.ext E34).keep Kc36 (ninS ne_b28_b34_47 nin0))
      have c50 := ((fq30_0.ext E34).keep Kc36)
      obtain ⟨cq46, kq46, q46a, q46b, q46c⟩ := isOf hZ eh41 c50
      obtain ⟨_, _, ⟨T46, L46q, k46, n46⟩, -, X46, ⟨Lc46, hQ46, l46, y46, z46⟩, st46⟩ := X41.virtualBack hx (y := (⟨"com/example/idem1/idem1/ByteRange", "overlaps", "(Lcom/example/idem1/idem1/ByteRange;)Z"⟩ : MethodName)) (z := (⟨"com/example/idem1/idem1/ByteRange", "overlaps", "(Lcom/example/idem1/idem1/ByteRange;)Z"⟩ : MethodName)) hown (mvT hZ (tw hw 27 rfl)) (mvT hZ (tw hw 28 rfl)) (notFace_of_selects (args := #[]) (mvT hZ (tw hw 30 rfl))) (mvT hZ (tw hw 30 rfl)) (mvT hZ (tw hw 29 rfl)) (by decide) (backOf (W := 0) (rm6 l Z a0 hw [] b28 b34 r62_16 r80_22 r89_25 r71_19 T36.heap n0 Zc37 c48 c50 fq36_1 fq36_0 fq36_2 c49) hZ (tw hw 31 rfl) (tw hw 10 rfl) (by decide) (by decide)) q46a q46c (g := (mkF m 201 L45 [(.ref b34), (.ref b28)])) rfl (szAt hml hL45 rfl) (Steps.refl _) (argsL := [(.ref b34)]) (rest := []) (lenOf pd_0_2 rfl) rfl (by show 2 * 0 + _ ≤ _; exact Nat.le_of_eq rfl) (hb hby at_201) (fun _ _ => ⟨rfl, eh41, (by decide : 2 + 0 ≤ _), (by decide : 4 + 0 ≤ _)⟩)
      dsimp only [Pt.U, Pt.locs, Pt.cells, Pt.slots] at X46 l46 y46 z46 st46 hQ46
      subst l46 y46 z46
      obtain ⟨rfl, N46q, eh46⟩ := hQ46
      have N46 := Fr.app N41 N46q
      refine Gl.st (B := (T46.setTop (mkF m 204 L45 [(.int (if (((if r62_16 < (0 : Int64) then (1 : Int32) else (0 : Int32)))) = (0 : Int32) then (if (((if r80_22 < (0 : Int64) then (1 : Int32) else (0 : Int32)))) = (0 : Int32) then (if r89_25 < r62_16 then (0 : Int32) else ((if r71_19 < r80_22 then (0 : Int32) else (1 : Int32)))) else (0 : Int32)) else (0 : Int32)))]))) (fun t k => st46.trans k) ?_
      obtain ⟨r201_51, hr201_51⟩ : ∃ z : Int32, z = (if (((if r62_16 < (0 : Int64) then (1 : Int32) else (0 : Int32)))) = (0 : Int32) then (if (((if r80_22 < (0 : Int64) then (1 : Int32) else (0 : Int32)))) = (0 : Int32) then (if r89_25 < r62_16 then (0 : Int32) else ((if r71_19 < r80_22 then (0 : Int32) else (1 : Int32)))) else (0 : Int32)) else (0 : Int32)) := ⟨_, rfl⟩
      refine Gl.cast (B := (T46.setTop (mkF m 204 L45 [(.int r201_51)]))) (by rw [hr201_51]) ?_
      refine Gl.st (B := (T46.setTop (mkF m 206 L45 [(.int v195_s0_44), (.int r201_51)]))) (fun t k => XS.iload X46.here hx rfl (hb hby at_204) (ldAt hL45 rfl) k) ?_
      have hc206_52 : r201_51 = v195_s0_44 := own_0_hc206_52 q2 y13_40_9 q1 y11_33_7 r62_16 q4 y17_56_13 q3 y15_48_11 r80_22 r89_25 r71_19 r201_51 r183_42 r176_40 v195_s0_44 hy13_40_9 hy11_33_7 hr62_16 hy17_56_13 hy15_48_11 hr80_22 hr89_25 hr71_19 hr201_51 hr183_42 hr176_40 hv195_s0_44 
      refine Gl.st (B := (T46.setTop (mkF m 209 L45 []))) (fun t k => XS.icmpNo X46.here hx rfl (hb hby at_206) rfl (teq hc206_52).2 k) ?_
      refine Gl.st (B := (T46.setTop (mkF m 211 L45 [(.ref b34)]))) (fun t k => XS.aload X46.here hx rfl (hb hby at_209) (ldAt hL45 rfl) rfl k) ?_
      refine Gl.st (B := (T46.setTop (mkF m 213 L45 [(.ref b28), (.ref b34)]))) (fun t k => XS.aload X46.here hx rfl (hb hby at_211) (ldAt hL45 rfl) rfl k) ?_
      obtain ⟨cq53, kq53, q53a, q53b, q53c⟩ := isOf hZ eh46 fq36_0
      obtain ⟨_, _, ⟨T53, L53q, k53, n53⟩, -, X53, ⟨Lc53, hQ53, l53, y53, z53⟩, st53⟩ := X46.virtualBack hx (y := (⟨"com/example/idem1/idem1/ByteRange", "overlaps", "(Lcom/example/idem1/idem1/ByteRange;)Z"⟩ : MethodName)) (z := (⟨"com/example/idem1/idem1/ByteRange", "overlaps", "(Lcom/example/idem1/idem1/ByteRange;)Z"⟩ : MethodName)) hown (mvT hZ (tw hw 27 rfl)) (mvT hZ (tw hw 28 rfl)) (notFace_of_selects (args := #[]) (mvT hZ (tw hw 30 rfl))) (mvT hZ (tw hw 30 rfl)) (mvT hZ (tw hw 29 rfl)) (by decide) (backOf (W := 0) (rm6 l Z a0 hw [] b34 b28 r80_22 r62_16 r71_19 r89_25 T36.heap n0 Zc37 fq36_1 fq36_0 c48 c50 c49 fq36_2) hZ (tw hw 31 rfl) (tw hw 10 rfl) (by decide) (by decide)) q53a q53c (g := (mkF m 213 L45 [(.ref b28), (.ref b34)])) rfl (szAt hml hL45 rfl) (Steps.refl _) (argsL := [(.ref b28)]) (rest := []) (lenOf pd_0_2 rfl) rfl (by show 2 * 0 + _ ≤ _; exact Nat.le_of_eq rfl) (hb hby at_213) (fun _ _ => ⟨rfl, eh46, (by decide : 2 + 0 ≤ _), (by decide : 4 + 0 ≤ _)⟩)
      dsimp only [Pt.U, Pt.locs, Pt.cells, Pt.slots] at X53 l53 y53 z53 st53 hQ53
      subst l53 y53 z53
      obtain ⟨rfl, N53q, eh53⟩ := hQ53
      have N53 := Fr.app N46 N53q
      refine Gl.st (B := (T53.setTop (mkF m 216 L45 [(.int (if (((if r80_22 < (0 : Int64) then (1 : Int32) else (0 : Int32)))) = (0 : Int32) then (if (((if r62_16 < (0 : Int64) then (1 : Int32) else (0 : Int32)))) = (0 : Int32) then (if r71_19 < r80_22 then (0 : Int32) else ((if r89_25 < r62_16 then (0 : Int32) else (1 : Int32)))) else (0 : Int32)) else (0 : Int32)))]))) (fun t k => st53.trans k) ?_
      obtain ⟨r213_54, hr213_54⟩ : ∃ z : Int32, z = (if (((if r80_22 < (0 : Int64) then (1 : Int32) else (0 : Int32)))) = (0 : Int32) then (if (((if r62_16 < (0 : Int64) then (1 : Int32) else (0 : Int32)))) = (0 : Int32) then (if r71_19 < r80_22 then (0 : Int32) else ((if r89_25 < r62_16 then (0 : Int32) else (1 : Int32)))) else (0 : Int32)) else (0 : Int32)) := ⟨_, rfl⟩
      refine Gl.cast (B := (T53.setTop (mkF m 216 L45 [(.int r213_54)]))) (by rw [hr213_54]) ?_
      refine Gl.st (B := (T53.setTop (mkF m 218 L45 [(.int v195_s0_44), (.int r213_54)]))) (fun t k => XS.iload X53.here hx rfl (hb hby at_216) (ldAt hL45 rfl) k) ?_
      have hc218_55 : r213_54 = v195_s0_44 := own_0_hc218_55 q4 y17_56_13 q3 y15_48_11 r80_22 q2 y13_40_9 q1 y11_33_7 r62_16 r71_19 r89_25 r213_54 r183_42 r176_40 v195_s0_44 hy17_56_13 hy15_48_11 hr80_22 hy13_40_9 hy11_33_7 hr62_16 hr71_19 hr89_25 hr213_54 hr183_42 hr176_40 hv195_s0_44 
      refine Gl.st (B := (T53.setTop (mkF m 221 L45 []))) (fun t k => XS.icmpNo X53.here hx rfl (hb hby at_218) rfl (teq hc218_55).2 k) ?_
      refine Gl.st (B := (T53.setTop (mkF m 222 L45 [(.int (1 : Int32))]))) (fun t k => XS.iconst X53.here hx rfl (hb hby at_221) k) ?_
      refine Gl.st (B := (T53.setTop (mkF m 226 L45 [(.int (1 : Int32))]))) (fun t k => XS.goto X53.here hx rfl (pc0 := 222) (pc' := 226) rfl (hb hby at_222) (by decide) (by decide) k) ?_
      obtain ⟨fs, hr, hrun, hended, hW, hsame⟩ := X53.leave (v := some (.int (nar .boolean (1 : Int32)))) (fun h => by rw [Bd.returns] at h; cases h)
      refine Gl.fin (retN X53 hx (t := .boolean) Bd.returns (by simp) (hb hby at_226) hr) hrun hended ⟨_, _, rfl, ?_, ⟨_, rfl⟩, hW, hsame.mono (by decide) (by decide)⟩
      show Q0 Z q1 q2 q3 q4 p5 h0 n0 _ T53.heap _
      rw [eh53]
      exact ⟨rfl, N53⟩
    · skip
      refine Gl.st (B := (T30.setTop (mkF m 133 L32 []))) (fun t k => XS.ifNo X30.here hx rfl (hb hby at_130) rfl ((if0 _ _).trans (feq hc130_33).1) k) ?_
      obtain ⟨T56, h56, X56, e56, E56, A56, D56, -, st56⟩ := newO X30 hx hZ hown (tw hw 8 rfl) (tw hw 9 rfl) (tw hw 10 rfl) rfl (g := (mkF m 133 L32 [])) rfl (hb hby at_133) (by decide) (by decide)
      obtain ⟨b56, gq56⟩ : ∃ z, z = T30.heap.size := ⟨_, rfl⟩
      rw [← gq56] at A56 D56 st56
      have g_b56 : n0 ≤ b56 := Nat.le_trans Zc31 (Nat.le_of_eq gq56.symm)
      have Zc57 : n0 ≤ h56.size := Nat.le_trans Zc31 E56.1
      have F56_min : Fld Z h56 b56 "com/example/idem1/idem1/ByteRange" "min" "J" (.long (0 : Int64)) := D56 (Or.inr (tw hw 24 rfl)) (ty := .long) (by decide)
      have F56_max : Fld Z h56 b56 "com/example/idem1/idem1/ByteRange" "max" "J" (.long (0 : Int64)) := D56 (Or.inr (tw hw 26 rfl)) (ty := .long) (by decide)
      refine Gl.st (B := (T56.setTop (mkF m 136 L32 [(.ref b56)]))) st56 ?_
      refine Gl.st (B := (T56.setTop (mkF m 137 L32 [(.ref b56), (.ref b56)]))) (fun t k => XS.dup X56.here hx rfl (hb hby at_136) rfl rfl k) ?_
      refine Gl.st (B := (T56.setTop (mkF m 140 L32 [(.long (-1 : Int64)), (.ref b56), (.ref b56)]))) (fun t k => X56.ldc2Long hx hown (mvT hZ (tw hw 11 rfl)) (g := (mkF m 137 L32 [(.ref b56), (.ref b56)])) rfl (hb hby at_137) _ k) ?_
      refine Gl.st (B := (T56.setTop (mkF m 143 L32 [(.long (-1 : Int64)), (.long (-1 : Int64)), (.ref b56), (.ref b56)]))) (fun t k => X56.ldc2Long hx hown (mvT hZ (tw hw 11 rfl)) (g := (mkF m 140 L32 [(.long (-1 : Int64)), (.ref b56), (.ref b56)])) rfl (hb hby at_140) _ k) ?_
      obtain ⟨_, _, ⟨T58, L58q, k58, n58⟩, -, X58, ⟨Lc58, hQ58, l58, y58, z58⟩, st58⟩ := X56.specialBack hx (y := (⟨"com/example/idem1/idem1/ByteRange", "<init>", "(JJ)V"⟩ : MethodName)) rfl hown (mvT hZ (tw hw 12 rfl)) (mvT hZ (tw hw 13 rfl)) (mvT hZ (tw hw 14 rfl)) (by decide) (backOf (W := 1) (rm3 l Z a0 hw [] b56 (-1 : Int64) (-1 : Int64) ((.long (0 : Int64))) ((.long (0 : Int64))) h56 n0 Zc57 A56 F56_min g_b56 F56_max) hZ (tw hw 14 rfl) (tw hw 10 rfl) (by decide) (by decide)) (g := (mkF m 143 L32 [(.long (-1 : Int64)), (.long (-1 : Int64)), (.ref b56), (.ref b56)])) rfl (szAt hml hL32 rfl) (Steps.refl _) (a := b56) (argsL := [(.long (-1 : Int64)), (.long (-1 : Int64))]) (rest := [(.ref b56)]) (lenOf pd_0_1 rfl) rfl (by show 2 * 0 + _ ≤ _; exact Nat.le_of_eq rfl) (hb hby at_143) (fun _ _ => ⟨rfl, e56, (by decide : 2 + 0 ≤ _), (by decide : 4 + 0 ≤ _)⟩)
      dsimp only [Pt.U, Pt.locs, Pt.cells, Pt.slots] at X58 l58 y58 z58 st58 hQ58
      subst l58 y58 z58
      obtain ⟨rfl, N58q, Kc58, fq58_0, fq58_1, fq58_2⟩ := hQ58
      have Zc59 : n0 ≤ T58.heap.size := Nat.le_trans Zc57 Kc58.1
      have N58 := Fr.app N30 N58q
      refine Gl.st (B := (T58.setTop (mkF m 146 L32 [(.ref b56)]))) (fun t k => st58.trans k) ?_
      refine Gl.st (B := (T58.setTop (mkF m 160 L32 [(.ref b56)]))) (fun t k => XS.goto X58.here hx rfl (pc0 := 146) (pc' := 160) rfl (hb hby at_146) (by decide) (by decide) k) ?_
      obtain ⟨L60, hL60⟩ : ∃ z : Array Slot, z = #[.val (.long q1), .second, .val (.long q2), .second, .val (.long q3), .second, .val (.long q4), .second, .val (.int p5), .val (.int v12_s0_2), .val (.int v26_s0_5), .val (.long y11_33_7), .second, .val (.long y13_40_9), .second, .val (.long y15_48_11), .second, .val (.long y17_56_13), .second, .val (.long r62_16), .second, .val (.long r71_19), .second, .val (.long r80_22), .second, .val (.long r89_25), .second, .val (.ref b28), .val (.ref b56), .unset] := ⟨_, rfl⟩
      refine Gl.st (B := (T58.setTop (mkF m 162 L60 []))) (fun t k => XS.astore X58.here hx rfl (hb hby at_160) rfl rfl (l' := L60) (stAt hL32 hL60 rfl rfl) k) ?_
      refine Gl.st (B := (T58.setTop (mkF m 164 L60 [(.int v12_s0_2)]))) (fun t k => XS.iload X58.here hx rfl (hb hby at_162) (ldAt hL60 rfl) k) ?_
      refine Gl.st (B := (T58.setTop (mkF m 167 L60 []))) (fun t k => XS.ifNo X58.here hx rfl (hb hby at_164) rfl ((if0 _ _).trans (teq hc96_27).2) k) ?_
      refine Gl.st (B := (T58.setTop (mkF m 169 L60 [(.int v26_s0_5)]))) (fun t k => XS.iload X58.here hx rfl (hb hby at_167) (ldAt hL60 rfl) k) ?_
      refine Gl.st (B := (T58.setTop (mkF m 194 L60 []))) (fun t k => XS.ifYes X58.here hx rfl (pc0 := 169) (pc' := 194) rfl (hb hby at_169) rfl ((if0 _ _).trans (feq hc130_33).2) (by decide) (by decide) k) ?_
      refine Gl.st (B := (T58.setTop (mkF m 195 L60 [(.int (0 : Int32))]))) (fun t k => XS.iconst X58.here hx rfl (hb hby at_194) k) ?_
      obtain ⟨L61, hL61⟩ : ∃ z : Array Slot, z = #[.val (.long q1), .second, .val (.long q2), .second, .val (.long q3), .second, .val (.long q4), .second, .val (.int p5), .val (.int v12_s0_2), .val (.int v26_s0_5), .val (.long y11_33_7), .second, .val (.long y13_40_9), .second, .val (.long y15_48_11), .second, .val (.long y17_56_13), .second, .val (.long r62_16), .second, .val (.long r71_19), .second, .val (.long r80_22), .second, .val (.long r89_25), .second, .val (.ref b28), .val (.ref b56), .val (.int (0 : Int32))] := ⟨_, rfl⟩
      refine Gl.st (B := (T58.setTop (mkF m 197 L61 []))) (fun t k => XS.istore X58.here hx rfl (hb hby at_195) rfl (l' := L61) (stAt hL60 hL61 rfl rfl) k) ?_
      refine Gl.st (B := (T58.setTop (mkF m 199 L61 [(.ref b28)]))) (fun t k => XS.aload X58.here hx rfl (hb hby at_197) (ldAt hL61 rfl) rfl k) ?_
      refine Gl.st (B := (T58.setTop (mkF m 201 L61 [(.ref b56), (.ref b28)]))) (fun t k => XS.aload X58.here hx rfl (hb hby at_199) (ldAt hL61 rfl) rfl k) ?_
      have ne_b28_b56_63 : b28 ≠ b56 := Nat.ne_of_lt (Nat.lt_of_lt_of_le A28.lt (Nat.le_trans Kc30.1 (Nat.le_of_eq gq56.symm)))
      have c64 := ((fq30_1.ext E56).keep Kc58 (ninS ne_b28_b56_63 nin0))
      have c65 := ((fq30_2.ext E56).keep Kc58 (ninS ne_b28_b56_63 nin0))
      have c66 := ((fq30_0.ext E56).keep Kc58)
      obtain ⟨cq62, kq62, q62a, q62b, q62c⟩ := isOf hZ rfl c66
      obtain ⟨_, _, ⟨T62, L62q, k62, n62⟩, -, X62, ⟨Lc62, hQ62, l62, y62, z62⟩, st62⟩ := X58.virtualBack hx (y := (⟨"com/example/idem1/idem1/ByteRange", "overlaps", "(Lcom/example/idem1/idem1/ByteRange;)Z"⟩ : MethodName)) (z := (⟨"com/example/idem1/idem1/ByteRange", "overlaps", "(Lcom/example/idem1/idem1/ByteRange;)Z"⟩ : MethodName)) hown (mvT hZ (tw hw 27 rfl)) (mvT hZ (tw hw 28 rfl)) (notFace_of_selects (args := #[]) (mvT hZ (tw hw 30 rfl))) (mvT hZ (tw hw 30 rfl)) (mvT hZ (tw hw 29 rfl)) (by decide) (backOf (W := 0) (rm6 l Z a0 hw [] b28 b56 r62_16 (-1 : Int64) (-1 : Int64) r71_19 T58.heap n0 Zc59 c64 c66 fq58_1 fq58_0 fq58_2 c65) hZ (tw hw 31 rfl) (tw hw 10 rfl) (by decide) (by decide)) q62a q62c (g := (mkF m 201 L61 [(.ref b56), (.ref b28)])) rfl (szAt hml hL61 rfl) (Steps.refl _) (argsL := [(.ref b56)]) (rest := []) (lenOf pd_0_2 rfl) rfl (by show 2 * 0 + _ ≤ _; exact Nat.le_of_eq rfl) (hb hby at_201) (fun _ _ => ⟨rfl, rfl, (by decide : 2 + 0 ≤ _), (by decide : 4 + 0 ≤ _)⟩)
      dsimp only [Pt.U, Pt.locs, Pt.cells, Pt.slots] at X62 l62 y62 z62 st62 hQ62
      subst l62 y62 z62
      obtain ⟨rfl, N62q, eh62⟩ := hQ62
      have N62 := Fr.app N58 N62q
      refine Gl.st (B := (T62.setTop (mkF m 204 L61 [(.int (if (((if r62_16 < (0 : Int64) then (1 : Int32) else (0 : Int32)))) = (0 : Int32) then (if (((if (-1 : Int64) < (0 : Int64) then (1 : Int32) else (0 : Int32)))) = (0 : Int32) then (if (-1 : Int64) < r62_16 then (0 : Int32) else ((if r71_19 < (-1 : Int64) then (0 : Int32) else (1 : Int32)))) else (0 : Int32)) else (0 : Int32)))]))) (fun t k => st62.trans k) ?_
      obtain ⟨r201_67, hr201_67⟩ : ∃ z : Int32, z = (if (((if r62_16 < (0 : Int64) then (1 : Int32) else (0 : Int32)))) = (0 : Int32) then (if (((if (-1 : Int64) < (0 : Int64) then (1 : Int32) else (0 : Int32)))) = (0 : Int32) then (if (-1 : Int64) < r62_16 then (0 : Int32) else ((if r71_19 < (-1 : Int64) then (0 : Int32) else (1 : Int32)))) else (0 : Int32)) else (0 : Int32)) := ⟨_, rfl⟩
      refine Gl.cast (B := (T62.setTop (mkF m 204 L61 [(.int r201_67)]))) (by rw [hr201_67]) ?_
      refine Gl.st (B := (T62.setTop (mkF m 206 L61 [(.int (0 : Int32)), (.int r201_67)]))) (fun t k => XS.iload X62.here hx rfl (hb hby at_204) (ldAt hL61 rfl) k) ?_
      have hc206_68 : r201_67 = (0 : Int32) := own_0_hc206_68 q2 y13_40_9 q1 y11_33_7 r62_16 r71_19 r201_67 hy13_40_9 hy11_33_7 hr62_16 hr71_19 hr201_67 
      refine Gl.st (B := (T62.setTop (mkF m 209 L61 []))) (fun t k => XS.icmpNo X62.here hx rfl (hb hby at_206) rfl (teq hc206_68).2 k) ?_
      refine Gl.st (B := (T62.setTop (mkF m 211 L61 [(.ref b56)]))) (fun t k => XS.aload X62.here hx rfl (hb hby at_209) (ldAt hL61 rfl) rfl k) ?_
      refine Gl.st (B := (T62.setTop (mkF m 213 L61 [(.ref b28), (.ref b56)]))) (fun t k => XS.aload X62.here hx rfl (hb hby at_211) (ldAt hL61 rfl) rfl k) ?_
      obtain ⟨cq69, kq69, q69a, q69b, q69c⟩ := isOf hZ eh62 fq58_0
      obtain ⟨_, _, ⟨T69, L69q, k69, n69⟩, -, X69, ⟨Lc69, hQ69, l69, y69, z69⟩, st69⟩ := X62.virtualBack hx (y := (⟨"com/example/idem1/idem1/ByteRange", "overlaps", "(Lcom/example/idem1/idem1/ByteRange;)Z"⟩ : MethodName)) (z := (⟨"com/example/idem1/idem1/ByteRange", "overlaps", "(Lcom/example/idem1/idem1/ByteRange;)Z"⟩ : MethodName)) hown (mvT hZ (tw hw 27 rfl)) (mvT hZ (tw hw 28 rfl)) (notFace_of_selects (args := #[]) (mvT hZ (tw hw 30 rfl))) (mvT hZ (tw hw 30 rfl)) (mvT hZ (tw hw 29 rfl)) (by decide) (backOf (W := 0) (rm6 l Z a0 hw [] b56 b28 (-1 : Int64) r62_16 r71_19 (-1 : Int64) T58.heap n0 Zc59 fq58_1 fq58_0 c64 c66 c65 fq58_2) hZ (tw hw 31 rfl) (tw hw 10 rfl) (by decide) (by decide)) q69a q69c (g := (mkF m 213 L61 [(.ref b28), (.ref b56)])) rfl (szAt hml hL61 rfl) (Steps.refl _) (argsL := [(.ref b28)]) (rest := []) (lenOf pd_0_2 rfl) rfl (by show 2 * 0 + _ ≤ _; exact Nat.le_of_eq rfl) (hb hby at_213) (fun _ _ => ⟨rfl, eh62, (by decide : 2 + 0 ≤ _), (by decide : 4 + 0 ≤ _)⟩)
      dsimp only [Pt.U, Pt.locs, Pt.cells, Pt.slots] at X69 l69 y69 z69 st69 hQ69
      subst l69 y69 z69
      obtain ⟨rfl, N69q, eh69⟩ := hQ69
      have N69 := Fr.app N62 N69q
      refine Gl.st (B := (T69.setTop (mkF m 216 L61 [(.int (if (((if (-1 : Int64) < (0 : Int64) then (1 : Int32) else (0 : Int32)))) = (0 : Int32) then (if (((if r62_16 < (0 : Int64) then (1 : Int32) else (0 : Int32)))) = (0 : Int32) then (if r71_19 < (-1 : Int64) then (0 : Int32) else ((if (-1 : Int64) < r62_16 then (0 : Int32) else (1 : Int32)))) else (0 : Int32)) else (0 : Int32)))]))) (fun t k => st69.trans k) ?_
      obtain ⟨r213_70, hr213_70⟩ : ∃ z : Int32, z = (if (((if (-1 : Int64) < (0 : Int64) then (1 : Int32) else (0 : Int32)))) = (0 : Int32) then (if (((if r62_16 < (0 : Int64) then (1 : Int32) else (0 : Int32)))) = (0 : Int32) then (if r71_19 < (-1 : Int64) then (0 : Int32) else ((if (-1 : Int64) < r62_16 then (0 : Int32) else (1 : Int32)))) else (0 : Int32)) else (0 : Int32)) := ⟨_, rfl⟩
      refine Gl.cast (B := (T69.setTop (mkF m 216 L61 [(.int r213_70)]))) (by rw [hr213_70]) ?_
      refine Gl.st (B := (T69.setTop (mkF m 218 L61 [(.int (0 : Int32)), (.int r213_70)]))) (fun t k => XS.iload X69.here hx rfl (hb hby at_216) (ldAt hL61 rfl) k) ?_
      have hc218_71 : r213_70 = (0 : Int32) := own_0_hc218_71 q2 y13_40_9 q1 y11_33_7 r62_16 r71_19 r213_70 hy13_40_9 hy11_33_7 hr62_16 hr71_19 hr213_70 
      refine Gl.st (B := (T69.setTop (mkF m 221 L61 []))) (fun t k => XS.icmpNo X69.here hx rfl (hb hby at_218) rfl (teq hc218_71).2 k) ?_
      refine Gl.st (B := (T69.setTop (mkF m 222 L61 [(.int (1 : Int32))]))) (fun t k => XS.iconst X69.here hx rfl (hb hby at_221) k) ?_
      refine Gl.st (B := (T69.setTop (mkF m 226 L61 [(.int (1 : Int32))]))) (fun t k => XS.goto X69.here hx rfl (pc0 := 222) (pc' := 226) rfl (hb hby at_222) (by decide) (by decide) k) ?_
      obtain ⟨fs, hr, hrun, hended, hW, hsame⟩ := X69.leave (v := some (.int (nar .boolean (1 : Int32)))) (fun h => by rw [Bd.returns] at h; cases h)
      refine Gl.fin (retN X69 hx (t := .boolean) Bd.returns (by simp) (hb hby at_226) hr) hrun hended ⟨_, _, rfl, ?_, ⟨_, rfl⟩, hW, hsame.mono (by decide) (by decide)⟩
      show Q0 Z q1 q2 q3 q4 p5 h0 n0 _ T69.heap _
      rw [eh69]
      exact ⟨rfl, N69⟩
  · skip
    refine Gl.st (B := (T24.setTop (mkF m 99 L26 []))) (fun t k => XS.ifNo X24.here hx rfl (hb hby at_96) rfl ((if0 _ _).trans (feq hc96_27).1) k) ?_
    obtain ⟨T72, h72, X72, e72, E72, A72, D72, -, st72⟩ := newO X24 hx hZ hown (tw hw 8 rfl) (tw hw 9 rfl) (tw hw 10 rfl) eh24 (g := (mkF m 99 L26 [])) rfl (hb hby at_99) (by decide) (by decide)
    obtain ⟨b72, gq72⟩ : ∃ z, z = h0.size := ⟨_, rfl⟩
    rw [← gq72] at A72 D72 st72
    have g_b72 : n0 ≤ b72 := Nat.le_trans Z0 (Nat.le_of_eq gq72.symm)
    have Zc73 : n0 ≤ h72.size := Nat.le_trans Z0 E72.1
    have F72_min : Fld Z h72 b72 "com/example/idem1/idem1/ByteRange" "min" "J" (.long (0 : Int64)) := D72 (Or.inr (tw hw 24 rfl)) (ty := .long) (by decide)
    have F72_max : Fld Z h72 b72 "com/example/idem1/idem1/ByteRange" "max" "J" (.long (0 : Int64)) := D72 (Or.inr (tw hw 26 rfl)) (ty := .long) (by decide)
    refine Gl.st (B := (T72.setTop (mkF m 102 L26 [(.ref b72)]))) st72 ?_
    refine Gl.st (B := (T72.setTop (mkF m 103 L26 [(.ref b72), (.ref b72)]))) (fun t k => XS.dup X72.here hx rfl (hb hby at_102) rfl rfl k) ?_
    refine Gl.st (B := (T72.setTop (mkF m 106 L26 [(.long (-1 : Int64)), (.ref b72), (.ref b72)]))) (fun t k => X72.ldc2Long hx hown (mvT hZ (tw hw 11 rfl)) (g := (mkF m 103 L26 [(.ref b72), (.ref b72)])) rfl (hb hby at_103) _ k) ?_
    refine Gl.st (B := (T72.setTop (mkF m 109 L26 [(.long (-1 : Int64)), (.long (-1 : Int64)), (.ref b72), (.ref b72)]))) (fun t k => X72.ldc2Long hx hown (mvT hZ (tw hw 11 rfl)) (g := (mkF m 106 L26 [(.long (-1 : Int64)), (.ref b72), (.ref b72)])) rfl (hb hby at_106) _ k) ?_
    obtain ⟨_, _, ⟨T74, L74q, k74, n74⟩, -, X74, ⟨Lc74, hQ74, l74, y74, z74⟩, st74⟩ := X72.specialBack hx (y := (⟨"com/example/idem1/idem1/ByteRange", "<init>", "(JJ)V"⟩ : MethodName)) rfl hown (mvT hZ (tw hw 12 rfl)) (mvT hZ (tw hw 13 rfl)) (mvT hZ (tw hw 14 rfl)) (by decide) (backOf (W := 1) (rm3 l Z a0 hw [] b72 (-1 : Int64) (-1 : Int64) ((.long (0 : Int64))) ((.long (0 : Int64))) h72 n0 Zc73 A72 F72_min g_b72 F72_max) hZ (tw hw 14 rfl) (tw hw 10 rfl) (by decide) (by decide)) (g := (mkF m 109 L26 [(.long (-1 : Int64)), (.long (-1 : Int64)), (.ref b72), (.ref b72)])) rfl (szAt hml hL26 rfl) (Steps.refl _) (a := b72) (argsL := [(.long (-1 : Int64)), (.long (-1 : Int64))]) (rest := [(.ref b72)]) (lenOf pd_0_1 rfl) rfl (by show 2 * 0 + _ ≤ _; exact Nat.le_of_eq rfl) (hb hby at_109) (fun _ _ => ⟨rfl, e72, (by decide : 1 + 0 ≤ _), (by decide : 2 + 0 ≤ _)⟩)
    dsimp only [Pt.U, Pt.locs, Pt.cells, Pt.slots] at X74 l74 y74 z74 st74 hQ74
    subst l74 y74 z74
    obtain ⟨rfl, N74q, Kc74, fq74_0, fq74_1, fq74_2⟩ := hQ74
    have Zc75 : n0 ≤ T74.heap.size := Nat.le_trans Zc73 Kc74.1
    have N74 := Fr.app N24 N74q
    refine Gl.st (B := (T74.setTop (mkF m 112 L26 [(.ref b72)]))) (fun t k => st74.trans k) ?_
    refine Gl.st (B := (T74.setTop (mkF m 126 L26 [(.ref b72)]))) (fun t k => XS.goto X74.here hx rfl (pc0 := 112) (pc' := 126) rfl (hb hby at_112) (by decide) (by decide) k) ?_
    obtain ⟨L76, hL76⟩ : ∃ z : Array Slot, z = #[.val (.long q1), .second, .val (.long q2), .second, .val (.long q3), .second, .val (.long q4), .second, .val (.int p5), .val (.int v12_s0_2), .val (.int v26_s0_5), .val (.long y11_33_7), .second, .val (.long y13_40_9), .second, .val (.long y15_48_11), .second, .val (.long y17_56_13), .second, .val (.long r62_16), .second, .val (.long r71_19), .second, .val (.long r80_22), .second, .val (.long r89_25), .second, .val (.ref b72), .unset, .unset] := ⟨_, rfl⟩
    refine Gl.st (B := (T74.setTop (mkF m 128 L76 []))) (fun t k => XS.astore X74.here hx rfl (hb hby at_126) rfl rfl (l' := L76) (stAt hL26 hL76 rfl rfl) k) ?_
    refine Gl.st (B := (T74.setTop (mkF m 130 L76 [(.int v26_s0_5)]))) (fun t k => XS.iload X74.here hx rfl (hb hby at_128) (ldAt hL76 rfl) k) ?_
    by_cases hc130_77 : v26_s0_5 = (0 : Int32)
    · skip
      refine Gl.st (B := (T74.setTop (mkF m 149 L76 []))) (fun t k => XS.ifYes X74.here hx rfl (pc0 := 130) (pc' := 149) rfl (hb hby at_130) rfl ((if0 _ _).trans (teq hc130_77).1) (by decide) (by decide) k) ?_
      obtain ⟨T78, h78, X78, e78, E78, A78, D78, -, st78⟩ := newO X74 hx hZ hown (tw hw 8 rfl) (tw hw 9 rfl) (tw hw 10 rfl) rfl (g := (mkF m 149 L76 [])) rfl (hb hby at_149) (by decide) (by decide)
      obtain ⟨b78, gq78⟩ : ∃ z, z = T74.heap.size := ⟨_, rfl⟩
      rw [← gq78] at A78 D78 st78
      have g_b78 : n0 ≤ b78 := Nat.le_trans Zc75 (Nat.le_of_eq gq78.symm)
      have Zc79 : n0 ≤ h78.size := Nat.le_trans Zc75 E78.1
      have F78_min : Fld Z h78 b78 "com/example/idem1/idem1/ByteRange" "min" "J" (.long (0 : Int64)) := D78 (Or.inr (tw hw 24 rfl)) (ty := .long) (by decide)
      have F78_max : Fld Z h78 b78 "com/example/idem1/idem1/ByteRange" "max" "J" (.long (0 : Int64)) := D78 (Or.inr (tw hw 26 rfl)) (ty := .long) (by decide)
      refine Gl.st (B := (T78.setTop (mkF m 152 L76 [(.ref b78)]))) st78 ?_
      refine Gl.st (B := (T78.setTop (mkF m 153 L76 [(.ref b78), (.ref b78)]))) (fun t k => XS.dup X78.here hx rfl (hb hby at_152) rfl rfl k) ?_
      refine Gl.st (B := (T78.setTop (mkF m 155 L76 [(.long r80_22), (.ref b78), (.ref b78)]))) (fun t k => XS.lload X78.here hx rfl (hb hby at_153) (ldAt hL76 rfl) k) ?_
      refine Gl.st (B := (T78.setTop (mkF m 157 L76 [(.long r89_25), (.long r80_22), (.ref b78), (.ref b78)]))) (fun t k => XS.lload X78.here hx rfl (hb hby at_155) (ldAt hL76 rfl) k) ?_
      obtain ⟨_, _, ⟨T80, L80q, k80, n80⟩, -, X80, ⟨Lc80, hQ80, l80, y80, z80⟩, st80⟩ := X78.specialBack hx (y := (⟨"com/example/idem1/idem1/ByteRange", "<init>", "(JJ)V"⟩ : MethodName)) rfl hown (mvT hZ (tw hw 12 rfl)) (mvT hZ (tw hw 13 rfl)) (mvT hZ (tw hw 14 rfl)) (by decide) (backOf (W := 1) (rm3 l Z a0 hw [] b78 r80_22 r89_25 ((.long (0 : Int64))) ((.long (0 : Int64))) h78 n0 Zc79 A78 F78_min g_b78 F78_max) hZ (tw hw 14 rfl) (tw hw 10 rfl) (by decide) (by decide)) (g := (mkF m 157 L76 [(.long r89_25), (.long r80_22), (.ref b78), (.ref b78)])) rfl (szAt hml hL76 rfl) (Steps.refl _) (a := b78) (argsL := [(.long r80_22), (.long r89_25)]) (rest := [(.ref b78)]) (lenOf pd_0_1 rfl) rfl (by show 2 * 0 + _ ≤ _; exact Nat.le_of_eq rfl) (hb hby at_157) (fun _ _ => ⟨rfl, e78, (by decide : 2 + 0 ≤ _), (by decide : 4 + 0 ≤ _)⟩)
      dsimp only [Pt.U, Pt.locs, Pt.cells, Pt.slots] at X80 l80 y80 z80 st80 hQ80
      subst l80 y80 z80
      obtain ⟨rfl, N80q, Kc80, fq80_0, fq80_1, fq80_2⟩ := hQ80
      have Zc81 : n0 ≤ T80.heap.size := Nat.le_trans Zc79 Kc80.1
      have N80 := Fr.app N74 N80q
      refine Gl.st (B := (T80.setTop (mkF m 160 L76 [(.ref b78)]))) (fun t k => st80.trans k) ?_
      obtain ⟨L82, hL82⟩ : ∃ z : Array Slot, z = #[.val (.long q1), .second, .val (.long q2), .second, .val (.long q3), .second, .val (.long q4), .second, .val (.int p5), .val (.int v12_s0_2), .val (.int v26_s0_5), .val (.long y11_33_7), .second, .val (.long y13_40_9), .second, .val (.long y15_48_11), .second, .val (.long y17_56_13), .second, .val (.long r62_16), .second, .val (.long r71_19), .second, .val (.long r80_22), .second, .val (.long r89_25), .second, .val (.ref b72), .val (.ref b78), .unset] := ⟨_, rfl⟩
      refine Gl.st (B := (T80.setTop (mkF m 162 L82 []))) (fun t k => XS.astore X80.here hx rfl (hb hby at_160) rfl rfl (l' := L82) (stAt hL76 hL82 rfl rfl) k) ?_
      refine Gl.st (B := (T80.setTop (mkF m 164 L82 [(.int v12_s0_2)]))) (fun t k => XS.iload X80.here hx rfl (hb hby at_162) (ldAt hL82 rfl) k) ?_
      refine Gl.st (B := (T80.setTop (mkF m 194 L82 []))) (fun t k => XS.ifYes X80.here hx rfl (pc0 := 164) (pc' := 194) rfl (hb hby at_164) rfl ((if0 _ _).trans (feq hc96_27).2) (by decide) (by decide) k) ?_
      refine Gl.st (B := (T80.setTop (mkF m 195 L82 [(.int (0 : Int32))]))) (fun t k => XS.iconst X80.here hx rfl (hb hby at_194) k) ?_
      obtain ⟨L83, hL83⟩ : ∃ z : Array Slot, z = #[.val (.long q1), .second, .val (.long q2), .second, .val (.long q3), .second, .val (.long q4), .second, .val (.int p5), .val (.int v12_s0_2), .val (.int v26_s0_5), .val (.long y11_33_7), .second, .val (.long y13_40_9), .second, .val (.long y15_48_11), .second, .val (.long y17_56_13), .second, .val (.long r62_16), .second, .val (.long r71_19), .second, .val (.long r80_22), .second, .val (.long r89_25), .second, .val (.ref b72), .val (.ref b78), .val (.int (0 : Int32))] := ⟨_, rfl⟩
      refine Gl.st (B := (T80.setTop (mkF m 197 L83 []))) (fun t k => XS.istore X80.here hx rfl (hb hby at_195) rfl (l' := L83) (stAt hL82 hL83 rfl rfl) k) ?_
      refine Gl.st (B := (T80.setTop (mkF m 199 L83 [(.ref b72)]))) (fun t k => XS.aload X80.here hx rfl (hb hby at_197) (ldAt hL83 rfl) rfl k) ?_
      refine Gl.st (B := (T80.setTop (mkF m 201 L83 [(.ref b78), (.ref b72)]))) (fun t k => XS.aload X80.here hx rfl (hb hby at_199) (ldAt hL83 rfl) rfl k) ?_
      have ne_b72_b78_85 : b72 ≠ b78 := Nat.ne_of_lt (Nat.lt_of_lt_of_le A72.lt (Nat.le_trans Kc74.1 (Nat.le_of_eq gq78.symm)))
      have c86 := ((fq74_1.ext E78).keep Kc80 (ninS ne_b72_b78_85 nin0))
      have c87 := ((fq74_2.ext E78).keep Kc80 (ninS ne_b72_b78_85 nin0))
      have c88 := ((fq74_0.ext E78).keep Kc80)
      obtain ⟨cq84, kq84, q84a, q84b, q84c⟩ := isOf hZ rfl c88
      obtain ⟨_, _, ⟨T84, L84q, k84, n84⟩, -, X84, ⟨Lc84, hQ84, l84, y84, z84⟩, st84⟩ := X80.virtualBack hx (y := (⟨"com/example/idem1/idem1/ByteRange", "overlaps", "(Lcom/example/idem1/idem1/ByteRange;)Z"⟩ : MethodName)) (z := (⟨"com/example/idem1/idem1/ByteRange", "overlaps", "(Lcom/example/idem1/idem1/ByteRange;)Z"⟩ : MethodName)) hown (mvT hZ (tw hw 27 rfl)) (mvT hZ (tw hw 28 rfl)) (notFace_of_selects (args := #[]) (mvT hZ (tw hw 30 rfl))) (mvT hZ (tw hw 30 rfl)) (mvT hZ (tw hw 29 rfl)) (by decide) (backOf (W := 0) (rm6 l Z a0 hw [] b72 b78 (-1 : Int64) r80_22 r89_25 (-1 : Int64) T80.heap n0 Zc81 c86 c88 fq80_1 fq80_0 fq80_2 c87) hZ (tw hw 31 rfl) (tw hw 10 rfl) (by decide) (by decide)) q84a q84c (g := (mkF m 201 L83 [(.ref b78), (.ref b72)])) rfl (szAt hml hL83 rfl) (Steps.refl _) (argsL := [(.ref b78)]) (rest := []) (lenOf pd_0_2 rfl) rfl (by show 2 * 0 + _ ≤ _; exact Nat.le_of_eq rfl) (hb hby at_201) (fun _ _ => ⟨rfl, rfl, (by decide : 2 + 0 ≤ _), (by decide : 4 + 0 ≤ _)⟩)
      dsimp only [Pt.U, Pt.locs, Pt.cells, Pt.slots] at X84 l84 y84 z84 st84 hQ84
      subst l84 y84 z84
      obtain ⟨rfl, N84q, eh84⟩ := hQ84
      have N84 := Fr.app N80 N84q
      refine Gl.st (B := (T84.setTop (mkF m 204 L83 [(.int (if (((if (-1 : Int64) < (0 : Int64) then (1 : Int32) else (0 : Int32)))) = (0 : Int32) then (if (((if r80_22 < (0 : Int64) then (1 : Int32) else (0 : Int32)))) = (0 : Int32) then (if r89_25 < (-1 : Int64) then (0 : Int32) else ((if (-1 : Int64) < r80_22 then (0 : Int32) else (1 : Int32)))) else (0 : Int32)) else (0 : Int32)))]))) (fun t k => st84.trans k) ?_
      obtain ⟨r201_89, hr201_89⟩ : ∃ z : Int32, z = (if (((if (-1 : Int64) < (0 : Int64) then (1 : Int32) else (0 : Int32)))) = (0 : Int32) then (if (((if r80_22 < (0 : Int64) then (1 : Int32) else (0 : Int32)))) = (0 : Int32) then (if r89_25 < (-1 : Int64) then (0 : Int32) else ((if (-1 : Int64) < r80_22 then (0 : Int32) else (1 : Int32)))) else (0 : Int32)) else (0 : Int32)) := ⟨_, rfl⟩
      refine Gl.cast (B := (T84.setTop (mkF m 204 L83 [(.int r201_89)]))) (by rw [hr201_89]) ?_
      refine Gl.st (B := (T84.setTop (mkF m 206 L83 [(.int (0 : Int32)), (.int r201_89)]))) (fun t k => XS.iload X84.here hx rfl (hb hby at_204) (ldAt hL83 rfl) k) ?_
      have hc206_90 : r201_89 = (0 : Int32) := own_0_hc206_90 q4 y17_56_13 q3 y15_48_11 r80_22 r89_25 r201_89 hy17_56_13 hy15_48_11 hr80_22 hr89_25 hr201_89 
      refine Gl.st (B := (T84.setTop (mkF m 209 L83 []))) (fun t k => XS.icmpNo X84.here hx rfl (hb hby at_206) rfl (teq hc206_90).2 k) ?_
      refine Gl.st (B := (T84.setTop (mkF m 211 L83 [(.ref b78)]))) (fun t k => XS.aload X84.here hx rfl (hb hby at_209) (ldAt hL83 rfl) rfl k) ?_
      refine Gl.st (B := (T84.setTop (mkF m 213 L83 [(.ref b72), (.ref b78)]))) (fun t k => XS.aload X84.here hx rfl (hb hby at_211) (ldAt hL83 rfl) rfl k) ?_
      obtain ⟨cq91, kq91, q91a, q91b, q91c⟩ := isOf hZ eh84 fq80_0
      obtain ⟨_, _, ⟨T91, L91q, k91, n91⟩, -, X91, ⟨Lc91, hQ91, l91, y91, z91⟩, st91⟩ := X84.virtualBack hx (y := (⟨"com/example/idem1/idem1/ByteRange", "overlaps", "(Lcom/example/idem1/idem1/ByteRange;)Z"⟩ : MethodName)) (z := (⟨"com/example/idem1/idem1/ByteRange", "overlaps", "(Lcom/example/idem1/idem1/ByteRange;)Z"⟩ : MethodName)) hown (mvT hZ (tw hw 27 rfl)) (mvT hZ (tw hw 28 rfl)) (notFace_of_selects (args := #[]) (mvT hZ (tw hw 30 rfl))) (mvT hZ (tw hw 30 rfl)) (mvT hZ (tw hw 29 rfl)) (by decide) (backOf (W := 0) (rm6 l Z a0 hw [] b78 b72 r80_22 (-1 : Int64) (-1 : Int64) r89_25 T80.heap n0 Zc81 fq80_1 fq80_0 c86 c88 c87 fq80_2) hZ (tw hw 31 rfl) (tw hw 10 rfl) (by decide) (by decide)) q91a q91c (g := (mkF m 213 L83 [(.ref b72), (.ref b78)])) rfl (szAt hml hL83 rfl) (Steps.refl _) (argsL := [(.ref b72)]) (rest := []) (lenOf pd_0_2 rfl) rfl (by show 2 * 0 + _ ≤ _; exact Nat.le_of_eq rfl) (hb hby at_213) (fun _ _ => ⟨rfl, eh84, (by decide : 2 + 0 ≤ _), (by decide : 4 + 0 ≤ _)⟩)
      dsimp only [Pt.U, Pt.locs, Pt.cells, Pt.slots] at X91 l91 y91 z91 st91 hQ91
      subst l91 y91 z91
      obtain ⟨rfl, N91q, eh91⟩ := hQ91
      have N91 := Fr.app N84 N91q
      refine Gl.st (B := (T91.setTop (mkF m 216 L83 [(.int (if (((if r80_22 < (0 : Int64) then (1 : Int32) else (0 : Int32)))) = (0 : Int32) then (if (((if (-1 : Int64) < (0 : Int64) then (1 : Int32) else (0 : Int32)))) = (0 : Int32) then (if (-1 : Int64) < r80_22 then (0 : Int32) else ((if r89_25 < (-1 : Int64) then (0 : Int32) else (1 : Int32)))) else (0 : Int32)) else (0 : Int32)))]))) (fun t k => st91.trans k) ?_
      obtain ⟨r213_92, hr213_92⟩ : ∃ z : Int32, z = (if (((if r80_22 < (0 : Int64) then (1 : Int32) else (0 : Int32)))) = (0 : Int32) then (if (((if (-1 : Int64) < (0 : Int64) then (1 : Int32) else (0 : Int32)))) = (0 : Int32) then (if (-1 : Int64) < r80_22 then (0 : Int32) else ((if r89_25 < (-1 : Int64) then (0 : Int32) else (1 : Int32)))) else (0 : Int32)) else (0 : Int32)) := ⟨_, rfl⟩
      refine Gl.cast (B := (T91.setTop (mkF m 216 L83 [(.int r213_92)]))) (by rw [hr213_92]) ?_
      refine Gl.st (B := (T91.setTop (mkF m 218 L83 [(.int (0 : Int32)), (.int r213_92)]))) (fun t k => XS.iload X91.here hx rfl (hb hby at_216) (ldAt hL83 rfl) k) ?_
      have hc218_93 : r213_92 = (0 : Int32) := own_0_hc218_93 q4 y17_56_13 q3 y15_48_11 r80_22 r89_25 r213_92 hy17_56_13 hy15_48_11 hr80_22 hr89_25 hr213_92 
      refine Gl.st (B := (T91.setTop (mkF m 221 L83 []))) (fun t k => XS.icmpNo X91.here hx rfl (hb hby at_218) rfl (teq hc218_93).2 k) ?_
      refine Gl.st (B := (T91.setTop (mkF m 222 L83 [(.int (1 : Int32))]))) (fun t k => XS.iconst X91.here hx rfl (hb hby at_221) k) ?_
      refine Gl.st (B := (T91.setTop (mkF m 226 L83 [(.int (1 : Int32))]))) (fun t k => XS.goto X91.here hx rfl (pc0 := 222) (pc' := 226) rfl (hb hby at_222) (by decide) (by decide) k) ?_
      obtain ⟨fs, hr, hrun, hended, hW, hsame⟩ := X91.leave (v := some (.int (nar .boolean (1 : Int32)))) (fun h => by rw [Bd.returns] at h; cases h)
      refine Gl.fin (retN X91 hx (t := .boolean) Bd.returns (by simp) (hb hby at_226) hr) hrun hended ⟨_, _, rfl, ?_, ⟨_, rfl⟩, hW, hsame.mono (by decide) (by decide)⟩
      show Q0 Z q1 q2 q3 q4 p5 h0 n0 _ T91.heap _
      rw [eh91]
      exact ⟨rfl, N91⟩
    · skip
      refine Gl.st (B := (T74.setTop (mkF m 133 L76 []))) (fun t k => XS.ifNo X74.here hx rfl (hb hby at_130) rfl ((if0 _ _).trans (feq hc130_77).1) k) ?_
      obtain ⟨T94, h94, X94, e94, E94, A94, D94, -, st94⟩ := newO X74 hx hZ hown (tw hw 8 rfl) (tw hw 9 rfl) (tw hw 10 rfl) rfl (g := (mkF m 133 L76 [])) rfl (hb hby at_133) (by decide) (by decide)
      obtain ⟨b94, gq94⟩ : ∃ z, z = T74.heap.size := ⟨_, rfl⟩
      rw [← gq94] at A94 D94 st94
      have g_b94 : n0 ≤ b94 := Nat.le_trans Zc75 (Nat.le_of_eq gq94.symm)
      have Zc95 : n0 ≤ h94.size := Nat.le_trans Zc75 E94.1
      have F94_min : Fld Z h94 b94 "com/example/idem1/idem1/ByteRange" "min" "J" (.long (0 : Int64)) := D94 (Or.inr (tw hw 24 rfl)) (ty := .long) (by decide)
      have F94_max : Fld Z h94 b94 "com/example/idem1/idem1/ByteRange" "max" "J" (.long (0 : Int64)) := D94 (Or.inr (tw hw 26 rfl)) (ty := .long) (by decide)
      refine Gl.st (B := (T94.setTop (mkF m 136 L76 [(.ref b94)]))) st94 ?_
      refine Gl.st (B := (T94.setTop (mkF m 137 L76 [(.ref b94), (.ref b94)]))) (fun t k => XS.dup X94.here hx rfl (hb hby at_136) rfl rfl k) ?_
      refine Gl.st (B := (T94.setTop (mkF m 140 L76 [(.long (-1 : Int64)), (.ref b94), (.ref b94)]))) (fun t k => X94.ldc2Long hx hown (mvT hZ (tw hw 11 rfl)) (g := (mkF m 137 L76 [(.ref b94), (.ref b94)])) rfl (hb hby at_137) _ k) ?_
      refine Gl.st (B := (T94.setTop (mkF m 143 L76 [(.long (-1 : Int64)), (.long (-1 : Int64)), (.ref b94), (.ref b94)]))) (fun t k => X94.ldc2Long hx hown (mvT hZ (tw hw 11 rfl)) (g := (mkF m 140 L76 [(.long (-1 : Int64)), (.ref b94), (.ref b94)])) rfl (hb hby at_140) _ k) ?_
      obtain ⟨_, _, ⟨T96, L96q, k96, n96⟩, -, X96, ⟨Lc96, hQ96, l96, y96, z96⟩, st96⟩ := X94.specialBack hx (y := (⟨"com/example/idem1/idem1/ByteRange", "<init>", "(JJ)V"⟩ : MethodName)) rfl hown (mvT hZ (tw hw 12 rfl)) (mvT hZ (tw hw 13 rfl)) (mvT hZ (tw hw 14 rfl)) (by decide) (backOf (W := 1) (rm3 l Z a0 hw [] b94 (-1 : Int64) (-1 : Int64) ((.long (0 : Int64))) ((.long (0 : Int64))) h94 n0 Zc95 A94 F94_min g_b94 F94_max) hZ (tw hw 14 rfl) (tw hw 10 rfl) (by decide) (by decide)) (g := (mkF m 143 L76 [(.long (-1 : Int64)), (.long (-1 : Int64)), (.ref b94), (.ref b94)])) rfl (szAt hml hL76 rfl) (Steps.refl _) (a := b94) (argsL := [(.long (-1 : Int64)), (.long (-1 : Int64))]) (rest := [(.ref b94)]) (lenOf pd_0_1 rfl) rfl (by show 2 * 0 + _ ≤ _; exact Nat.le_of_eq rfl) (hb hby at_143) (fun _ _ => ⟨rfl, e94, (by decide : 2 + 0 ≤ _), (by decide : 4 + 0 ≤ _)⟩)
      dsimp only [Pt.U, Pt.locs, Pt.cells, Pt.slots] at X96 l96 y96 z96 st96 hQ96
      subst l96 y96 z96
      obtain ⟨rfl, N96q, Kc96, fq96_0, fq96_1, fq96_2⟩ := hQ96
      have Zc97 : n0 ≤ T96.heap.size := Nat.le_trans Zc95 Kc96.1
      have N96 := Fr.app N74 N96q
      refine Gl.st (B := (T96.setTop (mkF m 146 L76 [(.ref b94)]))) (fun t k => st96.trans k) ?_
      refine Gl.st (B := (T96.setTop (mkF m 160 L76 [(.ref b94)]))) (fun t k => XS.goto X96.here hx rfl (pc0 := 146) (pc' := 160) rfl (hb hby at_146) (by decide) (by decide) k) ?_
      obtain ⟨L98, hL98⟩ : ∃ z : Array Slot, z = #[.val (.long q1), .second, .val (.long q2), .second, .val (.long q3), .second, .val (.long q4), .second, .val (.int p5), .val (.int v12_s0_2), .val (.int v26_s0_5), .val (.long y11_33_7), .second, .val (.long y13_40_9), .second, .val (.long y15_48_11), .second, .val (.long y17_56_13), .second, .val (.long r62_16), .second, .val (.long r71_19), .second, .val (.long r80_22), .second, .val (.long r89_25), .second, .val (.ref b72), .val (.ref b94), .unset] := ⟨_, rfl⟩
      refine Gl.st (B := (T96.setTop (mkF m 162 L98 []))) (fun t k => XS.astore X96.here hx rfl (hb hby at_160) rfl rfl (l' := L98) (stAt hL76 hL98 rfl rfl) k) ?_
      refine Gl.st (B := (T96.setTop (mkF m 164 L98 [(.int v12_s0_2)]))) (fun t k => XS.iload X96.here hx rfl (hb hby at_162) (ldAt hL98 rfl) k) ?_
      refine Gl.st (B := (T96.setTop (mkF m 194 L98 []))) (fun t k => XS.ifYes X96.here hx rfl (pc0 := 164) (pc' := 194) rfl (hb hby at_164) rfl ((if0 _ _).trans (feq hc96_27).2) (by decide) (by decide) k) ?_
      refine Gl.st (B := (T96.setTop (mkF m 195 L98 [(.int (0 : Int32))]))) (fun t k => XS.iconst X96.here hx rfl (hb hby at_194) k) ?_
      obtain ⟨L99, hL99⟩ : ∃ z : Array Slot, z = #[.val (.long q1), .second, .val (.long q2), .second, .val (.long q3), .second, .val (.long q4), .second, .val (.int p5), .val (.int v12_s0_2), .val (.int v26_s0_5), .val (.long y11_33_7), .second, .val (.long y13_40_9), .second, .val (.long y15_48_11), .second, .val (.long y17_56_13), .second, .val (.long r62_16), .second, .val (.long r71_19), .second, .val (.long r80_22), .second, .val (.long r89_25), .second, .val (.ref b72), .val (.ref b94), .val (.int (0 : Int32))] := ⟨_, rfl⟩
      refine Gl.st (B := (T96.setTop (mkF m 197 L99 []))) (fun t k => XS.istore X96.here hx rfl (hb hby at_195) rfl (l' := L99) (stAt hL98 hL99 rfl rfl) k) ?_
      refine Gl.st (B := (T96.setTop (mkF m 199 L99 [(.ref b72)]))) (fun t k => XS.aload X96.here hx rfl (hb hby at_197) (ldAt hL99 rfl) rfl k) ?_
      refine Gl.st (B := (T96.setTop (mkF m 201 L99 [(.ref b94), (.ref b72)]))) (fun t k => XS.aload X96.here hx rfl (hb hby at_199) (ldAt hL99 rfl) rfl k) ?_
      have ne_b72_b94_101 : b72 ≠ b94 := Nat.ne_of_lt (Nat.lt_of_lt_of_le A72.lt (Nat.le_trans Kc74.1 (Nat.le_of_eq gq94.symm)))
      have c102 := ((fq74_1.ext E94).keep Kc96 (ninS ne_b72_b94_101 nin0))
      have c103 := ((fq74_2.ext E94).keep Kc96 (ninS ne_b72_b94_101 nin0))
      have c104 := ((fq74_0.ext E94).keep Kc96)
      obtain ⟨cq100, kq100, q100a, q100b, q100c⟩ := isOf hZ rfl c104
      obtain ⟨_, _, ⟨T100, L100q, k100, n100⟩, -, X100, ⟨Lc100, hQ100, l100, y100, z100⟩, st100⟩ := X96.virtualBack hx (y := (⟨"com/example/idem1/idem1/ByteRange", "overlaps", "(Lcom/example/idem1/idem1/ByteRange;)Z"⟩ : MethodName)) (z := (⟨"com/example/idem1/idem1/ByteRange", "overlaps", "(Lcom/example/idem1/idem1/ByteRange;)Z"⟩ : MethodName)) hown (mvT hZ (tw hw 27 rfl)) (mvT hZ (tw hw 28 rfl)) (notFace_of_selects (args := #[]) (mvT hZ (tw hw 30 rfl))) (mvT hZ (tw hw 30 rfl)) (mvT hZ (tw hw 29 rfl)) (by decide) (backOf (W := 0) (rm6 l Z a0 hw [] b72 b94 (-1 : Int64) (-1 : Int64) (-1 : Int64) (-1 : Int64) T96.heap n0 Zc97 c102 c104 fq96_1 fq96_0 fq96_2 c103) hZ (tw hw 31 rfl) (tw hw 10 rfl) (by decide) (by decide)) q100a q100c (g := (mkF m 201 L99 [(.ref b94), (.ref b72)])) rfl (szAt hml hL99 rfl) (Steps.refl _) (argsL := [(.ref b94)]) (rest := []) (lenOf pd_0_2 rfl) rfl (by show 2 * 0 + _ ≤ _; exact Nat.le_of_eq rfl) (hb hby at_201) (fun _ _ => ⟨rfl, rfl, (by decide : 2 + 0 ≤ _), (by decide : 4 + 0 ≤ _)⟩)
      dsimp only [Pt.U, Pt.locs, Pt.cells, Pt.slots] at X100 l100 y100 z100 st100 hQ100
      subst l100 y100 z100
      obtain ⟨rfl, N100q, eh100⟩ := hQ100
      have N100 := Fr.app N96 N100q
      refine Gl.st (B := (T100.setTop (mkF m 204 L99 [(.int (if (((if (-1 : Int64) < (0 : Int64) then (1 : Int32) else (0 : Int32)))) = (0 : Int32) then (if (((if (-1 : Int64) < (0 : Int64) then (1 : Int32) else (0 : Int32)))) = (0 : Int32) then (if (-1 : Int64) < (-1 : Int64) then (0 : Int32) else ((if (-1 : Int64) < (-1 : Int64) then (0 : Int32) else (1 : Int32)))) else (0 : Int32)) else (0 : Int32)))]))) (fun t k => st100.trans k) ?_
      obtain ⟨r201_105, hr201_105⟩ : ∃ z : Int32, z = (if (((if (-1 : Int64) < (0 : Int64) then (1 : Int32) else (0 : Int32)))) = (0 : Int32) then (if (((if (-1 : Int64) < (0 : Int64) then (1 : Int32) else (0 : Int32)))) = (0 : Int32) then (if (-1 : Int64) < (-1 : Int64) then (0 : Int32) else ((if (-1 : Int64) < (-1 : Int64) then (0 : Int32) else (1 : Int32)))) else (0 : Int32)) else (0 : Int32)) := ⟨_, rfl⟩
      refine Gl.cast (B := (T100.setTop (mkF m 204 L99 [(.int r201_105)]))) (by rw [hr201_105]) ?_
      refine Gl.st (B := (T100.setTop (mkF m 206 L99 [(.int (0 : Int32)), (.int r201_105)]))) (fun t k => XS.iload X100.here hx rfl (hb hby at_204) (ldAt hL99 rfl) k) ?_
      have hc206_106 : r201_105 = (0 : Int32) := own_0_hc206_106 r201_105 hr201_105 
      refine Gl.st (B := (T100.setTop (mkF m 209 L99 []))) (fun t k => XS.icmpNo X100.here hx rfl (hb hby at_206) rfl (teq hc206_106).2 k) ?_
      refine Gl.st (B := (T100.setTop (mkF m 211 L99 [(.ref b94)]))) (fun t k => XS.aload X100.here hx rfl (hb hby at_209) (ldAt hL99 rfl) rfl k) ?_
      refine Gl.st (B := (T100.setTop (mkF m 213 L99 [(.ref b72), (.ref b94)]))) (fun t k => XS.aload X100.here hx rfl (hb hby at_211) (ldAt hL99 rfl) rfl k) ?_
      obtain ⟨cq107, kq107, q107a, q107b, q107c⟩ := isOf hZ eh100 fq96_0
      obtain ⟨_, _, ⟨T107, L107q, k107, n107⟩, -, X107, ⟨Lc107, hQ107, l107, y107, z107⟩, st107⟩ := X100.virtualBack hx (y := (⟨"com/example/idem1/idem1/ByteRange", "overlaps", "(Lcom/example/idem1/idem1/ByteRange;)Z"⟩ : MethodName)) (z := (⟨"com/example/idem1/idem1/ByteRange", "overlaps", "(Lcom/example/idem1/idem1/ByteRange;)Z"⟩ : MethodName)) hown (mvT hZ (tw hw 27 rfl)) (mvT hZ (tw hw 28 rfl)) (notFace_of_selects (args := #[]) (mvT hZ (tw hw 30 rfl))) (mvT hZ (tw hw 30 rfl)) (mvT hZ (tw hw 29 rfl)) (by decide) (backOf (W := 0) (rm6 l Z a0 hw [] b94 b72 (-1 : Int64) (-1 : Int64) (-1 : Int64) (-1 : Int64) T96.heap n0 Zc97 fq96_1 fq96_0 c102 c104 c103 fq96_2) hZ (tw hw 31 rfl) (tw hw 10 rfl) (by decide) (by decide)) q107a q107c (g := (mkF m 213 L99 [(.ref b72), (.ref b94)])) rfl (szAt hml hL99 rfl) (Steps.refl _) (argsL := [(.ref b72)]) (rest := []) (lenOf pd_0_2 rfl) rfl (by show 2 * 0 + _ ≤ _; exact Nat.le_of_eq rfl) (hb hby at_213) (fun _ _ => ⟨rfl, eh100, (by decide : 2 + 0 ≤ _), (by decide : 4 + 0 ≤ _)⟩)
      dsimp only [Pt.U, Pt.locs, Pt.cells, Pt.slots] at X107 l107 y107 z107 st107 hQ107
      subst l107 y107 z107
      obtain ⟨rfl, N107q, eh107⟩ := hQ107
      have N107 := Fr.app N100 N107q
      refine Gl.st (B := (T107.setTop (mkF m 216 L99 [(.int (if (((if (-1 : Int64) < (0 : Int64) then (1 : Int32) else (0 : Int32)))) = (0 : Int32) then (if (((if (-1 : Int64) < (0 : Int64) then (1 : Int32) else (0 : Int32)))) = (0 : Int32) then (if (-1 : Int64) < (-1 : Int64) then (0 : Int32) else ((if (-1 : Int64) < (-1 : Int64) then (0 : Int32) else (1 : Int32)))) else (0 : Int32)) else (0 : Int32)))]))) (fun t k => st107.trans k) ?_
      obtain ⟨r213_108, hr213_108⟩ : ∃ z : Int32, z = (if (((if (-1 : Int64) < (0 : Int64) then (1 : Int32) else (0 : Int32)))) = (0 : Int32) then (if (((if (-1 : Int64) < (0 : Int64) then (1 : Int32) else (0 : Int32)))) = (0 : Int32) then (if (-1 : Int64) < (-1 : Int64) then (0 : Int32) else ((if (-1 : Int64) < (-1 : Int64) then (0 : Int32) else (1 : Int32)))) else (0 : Int32)) else (0 : Int32)) := ⟨_, rfl⟩
      refine Gl.cast (B := (T107.setTop (mkF m 216 L99 [(.int r213_108)]))) (by rw [hr213_108]) ?_
      refine Gl.st (B := (T107.setTop (mkF m 218 L99 [(.int (0 : Int32)), (.int r213_108)]))) (fun t k => XS.iload X107.here hx rfl (hb hby at_216) (ldAt hL99 rfl) k) ?_
      have hc218_109 : r213_108 = (0 : Int32) := own_0_hc218_109 r213_108 hr213_108 
      refine Gl.st (B := (T107.setTop (mkF m 221 L99 []))) (fun t k => XS.icmpNo X107.here hx rfl (hb hby at_218) rfl (teq hc218_109).2 k) ?_
      refine Gl.st (B := (T107.setTop (mkF m 222 L99 [(.int (1 : Int32))]))) (fun t k => XS.iconst X107.here hx rfl (hb hby at_221) k) ?_
      refine Gl.st (B := (T107.setTop (mkF m 226 L99 [(.int (1 : Int32))]))) (fun t k => XS.goto X107.here hx rfl (pc0 := 222) (pc' := 226) rfl (hb hby at_222) (by decide) (by decide) k) ?_
      obtain ⟨fs, hr, hrun, hended, hW, hsame⟩ := X107.leave (v := some (.int (nar .boolean (1 : Int32)))) (fun h => by rw [Bd.returns] at h; cases h)
      refine Gl.fin (retN X107 hx (t := .boolean) Bd.returns (by simp) (hb hby at_226) hr) hrun hended ⟨_, _, rfl, ?_, ⟨_, rfl⟩, hW, hsame.mono (by decide) (by decide)⟩
      show Q0 Z q1 q2 q3 q4 p5 h0 n0 _ T107.heap _
      rw [eh107]
      exact ⟨rfl, N107⟩
set_option maxRecDepth 65536 in
set_option maxHeartbeats 40000000 in
theorem comes_1 {Post : Tables → Env → Array Value → State → Outcome → State → Prop} (hpost : ∀ tb e args s v u, (limb_1_1.after args s (.returned v) u = true ∧ limb_1_2.after args s (.returned v) u = true ∧ True) → FrameEnd s (.returned v) u (Jvm.fieldLocs frame_1_writes args s ++ Jvm.arrayLocs frame_1_arrays args s ++ Jvm.staticLocs frame_1_statics s) 16 128 → Post tb e args s (.returned v) u) :
    ArmFor flags0 classFile x code maxLocals ret World_1 tables_1 room_1 Calls_1 rest_1 Pre_1 Post := by
  intro l hfl _ _ p e ha hc hk s m args below hf hA hF happ hP
  obtain ⟨hcalls, hrest, hpre⟩ := hP
  obtain ⟨-, -, -, hnamed, -, -, -, hat⟩ := (Spec.applies_iff hf).mp happ
  obtain ⟨hg, hn⟩ := and_e (Cond.before_iff.mp (show (Jvm.Cond.and given_1 narrow_1).before args s = true from hpre))
  obtain ⟨g1, g2⟩ := and_e hg
  obtain ⟨g3, g4⟩ := and_e g2
  obtain ⟨g5, g6⟩ := and_e g4
  obtain ⟨g7, g8⟩ := and_e g6
  obtain ⟨g9, g10⟩ := and_e g8
  obtain ⟨w0, w1, w2, w3, w4, rfl⟩ : ∃ w0 w1 w2 w3 w4 : Value, args = #[w0, w1, w2, w3, w4] := by
    have hs : args.size = 5 := by simpa [Cond.value, given_1] using g1
    obtain ⟨L⟩ := args
    match L, hs with
    | [w0, w1, w2, w3, w4], _ => exact ⟨w0, w1, w2, w3, w4, rfl⟩
  have hw := fun d (hd : d ∈ tables_1) => atoms_spec (ws := Jvm.Cond.code x code maxLocals ret :: tables_1) hat d (List.mem_cons_of_mem _ hd)
  have hfit : Fit s := fun {y c} hc i hi => by
    obtain ⟨ha, rfl⟩ := Array.getElem?_eq_some_iff.mp hc
    have q := List.all_eq_true.mp ((Array.all_eq_true_iff_forall_mem.mp hF) _ (Array.getElem_mem ha)) i (List.mem_range.mpr hi)
    simpa [Array.getElem?_eq_getElem hi] using q
  obtain ⟨i0, ei0⟩ := isL_v g3
  obtain rfl : w0 = (.long i0) := Option.some.inj ei0
  obtain ⟨i1, ei1⟩ := isL_v g5
  obtain rfl : w1 = (.long i1) := Option.some.inj ei1
  obtain ⟨i2, ei2⟩ := isL_v g7
  obtain rfl : w2 = (.long i2) := Option.some.inj ei2
  obtain ⟨i3, ei3⟩ := isL_v g9
  obtain rfl : w3 = (.long i3) := Option.some.inj ei3
  obtain ⟨i4, ei4⟩ := is_v g10
  obtain rfl : w4 = (.int i4) := Option.some.inj ei4
  obtain ⟨n, o, h1, h2, h3, _, L, rfl, ⟨rfl, N⟩, hq⟩ := rm0 l s _ hw tables_1 i0 i1 i2 i3 i4 s.heap s.heap.size (Nat.le_refl _) p e ha hc hk s m _ below hf ((Spec.applies_iff_loose hf).mp happ).1 ⟨rfl, State.Warmed39.refl s, rfl⟩ trivial
  refine ⟨n, _, h1, h2, h3, hpost _ _ _ _ _ _ ⟨Cond.after_iff.mpr rfl, Cond.after_iff.mpr (eq_i res_at (Term.int_eval (1)) rfl), trivial⟩ ⟨hq.1, hq.2.1, (hq.2.2.sift fun y hy => Or.inr (N y hy)).mono (by decide) (by decide)⟩⟩
theorem main_1_1 : Claimed_1_1 := comes_1 fun _ _ _ _ _ _ h hF => ⟨h.1, hF⟩
theorem main_1_2 : Claimed_1_2 := comes_1 fun _ _ _ _ _ _ h hF => ⟨h.2.1, hF⟩
end Jvm.Pilot.@@N@@
namespace Jvm.Pilot.@@N@@
open Jvm Jvm.ClassFile Sem Op Lib Jvm.Free Jvm.Stand Jvm.Pilot.@@N@@.Jvm.D
/-! MADE BY PROGRAM (witnessworld.py) out of the Statement's table words and the real class files: 11 classes; the members and pool entries that the words name. The judged class is class 1, her method 1. -/
namespace start1
open Jvm.ClassFile
def u (s : String) : CpInfo := .utf8 (stringToUtf16 s)
/-- a pool by its gaps: so many unusable entries, then the entry; so many at the end -/
def gap : Nat → List CpInfo → List CpInfo
  | 0, r => r
  | n + 1, r => .unusable :: gap n r
def poolList (es : List (Nat × CpInfo)) (last : Nat) : List CpInfo := es.foldr (fun e r => gap e.1 (e.2 :: r)) (gap last [])
def pool (es : List (Nat × CpInfo)) (last : Nat) : Array CpInfo := ⟨poolList es last⟩
def fileOf (pool : Array CpInfo) (this : Nat) (attrs : Array Attribute := #[]) (ms : Array MethodInfo := #[]) (fl : Nat := 33) (sup : Nat := 0) (ifs : Array Nat := #[]) (fds : Array FieldInfo := #[]) : ClassFile where
  minorVersion := 0
  majorVersion := 65
  constantPool := pool
  accessFlags := fl
  thisClass := this
  superClass := sup
  interfaces := ifs
  fields := fds
  methods := ms
  attributes := attrs
def plain (name : String) (sup : Option ClassId) : Class where
  name := name
  kind := .ordinary
  loader := none
  accessFlags := 33
  super := sup
  interfaces := #[]
  cf := none
  fields := #[]
  methods := #[]
  instanceTypes := #[]
  staticTypes := #[]
  resolved := #[]
  callSites := []
  init := .initialized
  statics := none
  mirror := none

def pool0 : Array CpInfo := pool [(5, u "<init>"), (0, u "()V"), (1, .class_ 10), (1, u "java/lang/Object")] 113

def k0c0 : Code := { maxStack := 0, maxLocals := 1, code := object_method_1_code, exceptionTable := #[], attributes := #[] }
def k0m0 : Method := { name := "<init>", desc := "()V", sig := { parameters := [], returnType := none }, accessFlags := 1, code := some k0c0 }
/-- java/lang/Object -/
def k0 : Class := { plain "java/lang/Object" none with
  accessFlags := 33
  interfaces := #[]
  cf := some (fileOf pool0 8 #[] #[{ accessFlags := 1, nameIndex := 5, descriptorIndex := 6, attributes := #[] }] 33 0 #[] #[])
  fields := #[]
  methods := #[k0m0]
  instanceTypes := #[]
  staticTypes := #[]
  resolved := Array.replicate 124 none
  statics := none }

def pool1 : Array CpInfo := pool [(2, .class_ 4), (1, u "java/lang/Object"), (0, u "<init>"), (0, u "()V"), (2, .long 9223372036854775807), (1, .methodref 12 13), (0, .class_ 14), (0, .nameAndType 15 16), (0, u "java/lang/Math"), (0, u "min"), (0, u "(JJ)J"), (0, .methodref 12 18), (0, .nameAndType 19 16), (0, u "max"), (0, .class_ 21), (0, u "com/example/idem1/idem1/ByteRange"), (0, .long 18446744073709551615), (1, .methodref 20 25), (0, .nameAndType 5 26), (0, u "(JJ)V"), (0, .methodref 20 28), (0, .nameAndType 29 30), (0, u "overlaps"), (0, u "(Lcom/example/idem1/idem1/ByteRange;)Z"), (0, .class_ 32), (0, u "com/example/idem1/idem1/ByteRangeOverlapsPinLaw"), (2, u "law"), (0, u "(JJJJI)Z")] 3

def k1m0 : Method := { name := "<init>", desc := "()V", sig := { parameters := [], returnType := none }, accessFlags := 1, code := none }
def k1c1 : Code := { maxStack := 6, maxLocals := 30, code := code, exceptionTable := #[], attributes := #[] }
def k1m1 : Method := { name := "law", desc := "(JJJJI)Z", sig := { parameters := [.long, .long, .long, .long, .int], returnType := some .boolean }, accessFlags := 9, code := some k1c1 }
/-- com/example/idem1/idem1/ByteRangeOverlapsPinLaw -/
def k1 : Class := { plain "com/example/idem1/idem1/ByteRangeOverlapsPinLaw" (some 0) with
  accessFlags := 49
  interfaces := #[]
  cf := some (fileOf pool1 31 #[] #[{ accessFlags := 1, nameIndex := 5, descriptorIndex := 6, attributes := #[] }, { accessFlags := 9, nameIndex := 35, descriptorIndex := 36, attributes := #[] }] 49 2 #[] #[])
  fields := #[]
  methods := #[k1m0, k1m1]
  instanceTypes := #[]
  staticTypes := #[]
  resolved := Array.replicate 40 none
  statics := none }

def pool2 : Array CpInfo := pool [(1, .class_ 2), (0, u "java/lang/Math"), (1, .class_ 6), (1, u "java/lang/Object"), (0, u "<init>"), (0, u "()V"), (89, .class_ 100), (1, u "java/lang/Math$RandomNumberGeneratorHolder"), (20, u "(JJ)J"), (50, u "negativeZeroFloatBits"), (0, u "J"), (2, u "negativeZeroDoubleBits"), (21, u "max"), (2, u "min"), (43, u "$assertionsDisabled"), (0, u "Z"), (91, u "twoToTheDoubleScaleDown"), (0, u "D"), (4, u "twoToTheDoubleScaleUp"), (9, u "E"), (3, u "PI"), (2, u "TAU"), (2, u "DEGREES_TO_RADIANS"), (0, u "RADIANS_TO_DEGREES")] 94

def k2m0 : Method := { name := "<init>", desc := "()V", sig := { parameters := [], returnType := none }, accessFlags := 2, code := none }
def k2c1 : Code := { maxStack := 4, maxLocals := 4, code := jdk_29_method_66_code, exceptionTable := #[], attributes := #[] }
def k2m1 : Method := { name := "max", desc := "(JJ)J", sig := { parameters := [.long, .long], returnType := some .long }, accessFlags := 9, code := some k2c1 }
def k2c2 : Code := { maxStack := 4, maxLocals := 4, code := jdk_29_method_70_code, exceptionTable := #[], attributes := #[] }
def k2m2 : Method := { name := "min", desc := "(JJ)J", sig := { parameters := [.long, .long], returnType := some .long }, accessFlags := 9, code := some k2c2 }
/-- java/lang/Math -/
def k2 : Class := { plain "java/lang/Math" (some 0) with
  accessFlags := 49
  interfaces := #[]
  cf := some (fileOf pool2 1 #[.nestMembers #[98]] #[{ accessFlags := 2, nameIndex := 7, descriptorIndex := 8, attributes := #[] }, { accessFlags := 9, nameIndex := 198, descriptorIndex := 121, attributes := #[] }, { accessFlags := 9, nameIndex := 201, descriptorIndex := 121, attributes := #[] }] 49 4 #[] #[{ accessFlags := 25, nameIndex := 354, descriptorIndex := 339, attributes := #[] }, { accessFlags := 25, nameIndex := 358, descriptorIndex := 339, attributes := #[] }, { accessFlags := 25, nameIndex := 361, descriptorIndex := 339, attributes := #[] }, { accessFlags := 26, nameIndex := 364, descriptorIndex := 339, attributes := #[] }, { accessFlags := 26, nameIndex := 365, descriptorIndex := 339, attributes := #[] }, { accessFlags := 26, nameIndex := 172, descriptorIndex := 173, attributes := #[] }, { accessFlags := 26, nameIndex := 176, descriptorIndex := 173, attributes := #[] }, { accessFlags := 8, nameIndex := 344, descriptorIndex := 339, attributes := #[] }, { accessFlags := 8, nameIndex := 338, descriptorIndex := 339, attributes := #[] }, { accessFlags := 4120, nameIndex := 245, descriptorIndex := 246, attributes := #[] }])
  fields := #[{ name := "E", type := .double, accessFlags := 25, slot := 0, constantValue := 0 }, { name := "PI", type := .double, accessFlags := 25, slot := 1, constantValue := 0 }, { name := "TAU", type := .double, accessFlags := 25, slot := 2, constantValue := 0 }, { name := "DEGREES_TO_RADIANS", type := .double, accessFlags := 26, slot := 3, constantValue := 0 }, { name := "RADIANS_TO_DEGREES", type := .double, accessFlags := 26, slot := 4, constantValue := 0 }, { name := "negativeZeroFloatBits", type := .long, accessFlags := 26, slot := 5, constantValue := 0 }, { name := "negativeZeroDoubleBits", type := .long, accessFlags := 26, slot := 6, constantValue := 0 }, { name := "twoToTheDoubleScaleUp", type := .double, accessFlags := 8, slot := 7, constantValue := 0 }, { name := "twoToTheDoubleScaleDown", type := .double, accessFlags := 8, slot := 8, constantValue := 0 }, { name := "$assertionsDisabled", type := .boolean, accessFlags := 4120, slot := 9, constantValue := 0 }]
  methods := #[k2m0, k2m1, k2m2]
  instanceTypes := #[]
  staticTypes := #[.double, .double, .double, .double, .double, .long, .long, .double, .double, .boolean]
  resolved := Array.replicate 460 none
  statics := none }

def pool3 : Array CpInfo := pool [(1, .methodref 2 3), (0, .class_ 4), (0, .nameAndType 5 6), (0, u "java/lang/Object"), (0, u "<init>"), (0, u "()V"), (0, .class_ 8), (0, u "java/lang/Record")] 13

def k3c0 : Code := { maxStack := 1, maxLocals := 1, code := jdk_30_method_1_code, exceptionTable := #[], attributes := #[] }
def k3m0 : Method := { name := "<init>", desc := "()V", sig := { parameters := [], returnType := none }, accessFlags := 4, code := some k3c0 }
/-- java/lang/Record -/
def k3 : Class := { plain "java/lang/Record" (some 0) with
  accessFlags := 1057
  interfaces := #[]
  cf := some (fileOf pool3 7 #[] #[{ accessFlags := 4, nameIndex := 5, descriptorIndex := 6, attributes := #[] }] 1057 2 #[] #[])
  fields := #[]
  methods := #[k3m0]
  instanceTypes := #[]
  staticTypes := #[]
  resolved := Array.replicate 22 none
  statics := none }

def pool4 : Array CpInfo := pool [(1, .methodref 2 3), (0, .class_ 4), (0, .nameAndType 5 6), (0, u "java/lang/Record"), (0, u "<init>"), (0, u "()V"), (0, .fieldref 8 9), (0, .class_ 10), (0, .nameAndType 11 12), (0, u "com/example/idem1/idem1/ByteRange"), (0, u "min"), (0, u "J"), (0, .fieldref 8 14), (0, .nameAndType 15 12), (0, u "max"), (0, .methodref 8 17), (0, .nameAndType 18 19), (0, u "isNone"), (0, u "()Z"), (2, u "(JJ)V"), (27, u "NONE"), (0, u "Lcom/example/idem1/idem1/ByteRange;"), (4, u "overlaps"), (0, u "(Lcom/example/idem1/idem1/ByteRange;)Z")] 28

def k4c0 : Code := { maxStack := 3, maxLocals := 5, code := prog_2_method_1_code, exceptionTable := #[], attributes := #[] }
def k4m0 : Method := { name := "<init>", desc := "(JJ)V", sig := { parameters := [.long, .long], returnType := none }, accessFlags := 0, code := some k4c0 }
def k4c1 : Code := { maxStack := 4, maxLocals := 1, code := prog_2_method_2_code, exceptionTable := #[], attributes := #[] }
def k4m1 : Method := { name := "isNone", desc := "()Z", sig := { parameters := [], returnType := some .boolean }, accessFlags := 0, code := some k4c1 }
def k4c2 : Code := { maxStack := 4, maxLocals := 2, code := prog_2_method_3_code, exceptionTable := #[], attributes := #[] }
def k4m2 : Method := { name := "overlaps", desc := "(Lcom/example/idem1/idem1/ByteRange;)Z", sig := { parameters := [(.object "com/example/idem1/idem1/ByteRange")], returnType := some .boolean }, accessFlags := 0, code := some k4c2 }
/-- com/example/idem1/idem1/ByteRange -/
def k4 : Class := { plain "com/example/idem1/idem1/ByteRange" (some 3) with
  accessFlags := 48
  interfaces := #[]
  cf := some (fileOf pool4 8 #[] #[{ accessFlags := 0, nameIndex := 5, descriptorIndex := 22, attributes := #[] }, { accessFlags := 0, nameIndex := 18, descriptorIndex := 19, attributes := #[] }, { accessFlags := 0, nameIndex := 56, descriptorIndex := 57, attributes := #[] }] 48 2 #[] #[{ accessFlags := 18, nameIndex := 11, descriptorIndex := 12, attributes := #[] }, { accessFlags := 18, nameIndex := 15, descriptorIndex := 12, attributes := #[] }, { accessFlags := 24, nameIndex := 50, descriptorIndex := 51, attributes := #[] }])
  fields := #[{ name := "min", type := .long, accessFlags := 18, slot := 0, constantValue := 0 }, { name := "max", type := .long, accessFlags := 18, slot := 1, constantValue := 0 }, { name := "NONE", type := (.object "com/example/idem1/idem1/ByteRange"), accessFlags := 24, slot := 0, constantValue := 0 }]
  methods := #[k4m0, k4m1, k4m2]
  instanceTypes := #[.long, .long]
  staticTypes := #[(.object "com/example/idem1/idem1/ByteRange")]
  resolved := Array.replicate 86 none
  statics := none }

def pool5 : Array CpInfo := pool [(1, u "java/lang/Cloneable"), (0, .class_ 1), (0, u "java/lang/Object"), (0, .class_ 3)] 3

/-- java/lang/Cloneable -/
def k5 : Class := { plain "java/lang/Cloneable" (some 0) with
  accessFlags := 1537
  interfaces := #[]
  cf := some (fileOf pool5 2 #[] #[] 1537 4 #[] #[])
  fields := #[]
  methods := #[]
  instanceTypes := #[]
  staticTypes := #[]
  resolved := Array.replicate 8 none
  statics := none }

def pool6 : Array CpInfo := pool [(1, u "java/io/Serializable"), (0, .class_ 1), (0, u "java/lang/Object"), (0, .class_ 3)] 3

/-- java/io/Serializable -/
def k6 : Class := { plain "java/io/Serializable" (some 0) with
  accessFlags := 1537
  interfaces := #[]
  cf := some (fileOf pool6 2 #[] #[] 1537 4 #[] #[])
  fields := #[]
  methods := #[]
  instanceTypes := #[]
  staticTypes := #[]
  resolved := Array.replicate 8 none
  statics := none }

/-- the primitive byte -/
def k7 : Class := { plain "byte" none with kind := .primitive 'B', accessFlags := 0x411 }
/-- [B -/
def k8 : Class := { plain "[B" (some 0) with kind := .array 7 .byte, interfaces := #[5, 6], accessFlags := 1041 }

/-- the primitive int -/
def k9 : Class := { plain "int" none with kind := .primitive 'I', accessFlags := 0x411 }
/-- [I -/
def k10 : Class := { plain "[I" (some 0) with kind := .array 9 .int, interfaces := #[5, 6], accessFlags := 1041 }

def heap : Heap := #[]
def classes : Array Class := #[k0, k1, k2, k3, k4, k5, k6, k7, k8, k9, k10]
def interned : List (Array UInt16 × Addr) := []
def slotsUsed : Nat := 0
def theMethod : MethodId := ⟨1, 1⟩
def args0 : Array Value := #[.long 5, .long 5, .long 5, .long 5, .int 5]
def aboutOver (below : List Frame) : State where
  vm := { classes := classes, interned := interned.toArray }
  heap := heap
  slotsUsed := slotsUsed
  threads := #[{ frames := .invoking theMethod args0 :: below }]
def below0 : List Frame := [.native { method := ⟨0, 0⟩, args := #[] }]
def about1 : State := aboutOver below0
def p0 : Program := .bare "" "" ""
def e0 : Env := launch0.env 0 0 0
theorem w_frames : about1.frames = Frame.invoking theMethod args0 :: below0 := rfl
set_option maxRecDepth 65536 in
theorem w_args : argsFit about1.vm theMethod args0 = true := by decide +kernel
set_option maxRecDepth 65536 in
theorem w_heap : heapFits about1 = true := by decide +kernel
set_option maxRecDepth 65536 in
theorem w_runnable : about1.curStatus? = some .runnable := by decide +kernel
set_option maxRecDepth 65536 in
theorem w_alone : about1.alone = true := by decide +kernel
set_option maxRecDepth 65536 in
theorem w_named : about1.methodNamed? x = some theMethod := by decide +kernel
set_option maxRecDepth 65536 in
theorem w_hears : about1.hears theMethod below0 = true := by decide +kernel
set_option maxRecDepth 65536 in
theorem w_ripe : about1.ripe theMethod args0 below0 = true := by decide +kernel
theorem w_running : about1.status = .running := rfl
set_option maxRecDepth 65536 in
theorem w_room : about1.hasRoom e0.platform room_1 = true :=
  launch0.hasRoom_least _ room_1 (by decide +kernel) (by decide +kernel) (by decide +kernel) (by decide +kernel) (by decide +kernel) (by decide +kernel)
theorem allAtoms_all (ts : List Jvm.Cond) (a : Array Jvm.Value) (st : Jvm.State) : (allAtoms ts).before a st = ts.all (fun c => c.before a st) := by
  induction ts with
  | nil => rfl
  | cons c t ih =>
    show (Jvm.Cond.and c (allAtoms t)).before a st = _
    rw [Jvm.Cond.before_and, ih, List.all_cons]
def words1 : List Jvm.Cond := Jvm.Cond.code x code maxLocals ret :: tables_1
/-- a 'code' word, met by the world's own term for the bytes: nothing is compared byte by byte -/
theorem code_word {y : MethodName} {bytes : ByteArray} {mx : Nat} {rt : Option FieldType} {a : Array Value} {s : State} {m : MethodId} {meth : Method} {c : Code} (h1 : s.methodNamed? y = some m) (h2 : s.vm.method? m = some meth) (h3 : meth.code = some c) (h4 : c.code = bytes)
    (h5 : (c.maxLocals == mx && c.exceptionTable.isEmpty && decide (c.maxStack ≤ mostOperands) && decide (meth.sig.returnType = rt) && !meth.locks && decide (parseMethodDescriptor y.desc = some meth.sig)) = true) : (Jvm.Cond.code y bytes mx rt).before a s = true := by
  simp only [Bool.and_eq_true, beq_iff_eq, Bool.not_eq_true', decide_eq_true_eq] at h5
  obtain ⟨⟨⟨⟨⟨g1, g2⟩, g3⟩, g4⟩, g5⟩, g6⟩ := h5
  simp [Cond.before, Cond.holds, Cond.value, h1, h2, h3, h4, g1, g2, g3, g4, g5, g6]
def isCode : Jvm.Cond → Bool
  | .code _ _ _ _ => true
  | _ => false
theorem all_split {L : List Jvm.Cond} {P : Jvm.Cond → Bool} (h1 : L.all (fun c => isCode c || P c) = true) (h2 : ∀ c ∈ L.filter isCode, P c = true) : L.all P = true := by
  refine List.all_eq_true.mpr fun c hc => ?_
  have h := List.all_eq_true.mp h1 c hc
  rcases Bool.eq_false_or_eq_true (isCode c) with hi | hi
  · exact h2 c (List.mem_filter.mpr ⟨hc, hi⟩)
  · simpa [hi] using h
set_option maxRecDepth 65536 in
theorem w_c0 : (Jvm.Cond.code x code maxLocals ret).before args0 about1 = true := code_word (m := ⟨1, 1⟩) (meth := k1m1) (c := k1c1) (by decide +kernel) rfl rfl rfl (by decide +kernel)
set_option maxRecDepth 65536 in
theorem w_c1 : (Jvm.Cond.code ({ cls := "java/lang/Math", name := "min", desc := "(JJ)J" } : Jvm.MethodName) jdk_29_method_70_code (4 : Nat) (Option.some Jvm.ClassFile.FieldType.long)).before args0 about1 = true := code_word (m := ⟨2, 2⟩) (meth := k2m2) (c := k2c2) (by decide +kernel) rfl rfl rfl (by decide +kernel)
set_option maxRecDepth 65536 in
theorem w_c2 : (Jvm.Cond.code ({ cls := "java/lang/Math", name := "max", desc := "(JJ)J" } : Jvm.MethodName) jdk_29_method_66_code (4 : Nat) (Option.some Jvm.ClassFile.FieldType.long)).before args0 about1 = true := code_word (m := ⟨2, 1⟩) (meth := k2m1) (c := k2c1) (by decide +kernel) rfl rfl rfl (by decide +kernel)
set_option maxRecDepth 65536 in
theorem w_c3 : (Jvm.Cond.code ({ cls := "com/example/idem1/idem1/ByteRange", name := "<init>", desc := "(JJ)V" } : Jvm.MethodName) prog_2_method_1_code (5 : Nat) (Option.none : Option Jvm.ClassFile.FieldType)).before args0 about1 = true := code_word (m := ⟨4, 0⟩) (meth := k4m0) (c := k4c0) (by decide +kernel) rfl rfl rfl (by decide +kernel)
set_option maxRecDepth 65536 in
theorem w_c4 : (Jvm.Cond.code ({ cls := "java/lang/Record", name := "<init>", desc := "()V" } : Jvm.MethodName) jdk_30_method_1_code (1 : Nat) (Option.none : Option Jvm.ClassFile.FieldType)).before args0 about1 = true := code_word (m := ⟨3, 0⟩) (meth := k3m0) (c := k3c0) (by decide +kernel) rfl rfl rfl (by decide +kernel)
set_option maxRecDepth 65536 in
theorem w_c5 : (Jvm.Cond.code ({ cls := "java/lang/Object", name := "<init>", desc := "()V" } : Jvm.MethodName) object_method_1_code (1 : Nat) (Option.none : Option Jvm.ClassFile.FieldType)).before args0 about1 = true := code_word (m := ⟨0, 0⟩) (meth := k0m0) (c := k0c0) (by decide +kernel) rfl rfl rfl (by decide +kernel)
set_option maxRecDepth 65536 in
theorem w_c6 : (Jvm.Cond.code ({ cls := "com/example/idem1/idem1/ByteRange", name := "overlaps", desc := "(Lcom/example/idem1/idem1/ByteRange;)Z" } : Jvm.MethodName) prog_2_method_3_code (2 : Nat) (Option.some Jvm.ClassFile.FieldType.boolean)).before args0 about1 = true := code_word (m := ⟨4, 2⟩) (meth := k4m2) (c := k4c2) (by decide +kernel) rfl rfl rfl (by decide +kernel)
set_option maxRecDepth 65536 in
theorem w_c7 : (Jvm.Cond.code ({ cls := "com/example/idem1/idem1/ByteRange", name := "isNone", desc := "()Z" } : Jvm.MethodName) prog_2_method_2_code (1 : Nat) (Option.some Jvm.ClassFile.FieldType.boolean)).before args0 about1 = true := code_word (m := ⟨4, 1⟩) (meth := k4m1) (c := k4c1) (by decide +kernel) rfl rfl rfl (by decide +kernel)
def codes1 : List Jvm.Cond := [Jvm.Cond.code x code maxLocals ret, Jvm.Cond.code ({ cls := "java/lang/Math", name := "min", desc := "(JJ)J" } : Jvm.MethodName) jdk_29_method_70_code (4 : Nat) (Option.some Jvm.ClassFile.FieldType.long), Jvm.Cond.code ({ cls := "java/lang/Math", name := "max", desc := "(JJ)J" } : Jvm.MethodName) jdk_29_method_66_code (4 : Nat) (Option.some Jvm.ClassFile.FieldType.long), Jvm.Cond.code ({ cls := "com/example/idem1/idem1/ByteRange", name := "<init>", desc := "(JJ)V" } : Jvm.MethodName) prog_2_method_1_code (5 : Nat) (Option.none : Option Jvm.ClassFile.FieldType), Jvm.Cond.code ({ cls := "java/lang/Record", name := "<init>", desc := "()V" } : Jvm.MethodName) jdk_30_method_1_code (1 : Nat) (Option.none : Option Jvm.ClassFile.FieldType), Jvm.Cond.code ({ cls := "java/lang/Object", name := "<init>", desc := "()V" } : Jvm.MethodName) object_method_1_code (1 : Nat) (Option.none : Option Jvm.ClassFile.FieldType), Jvm.Cond.code ({ cls := "com/example/idem1/idem1/ByteRange", name := "overlaps", desc := "(Lcom/example/idem1/idem1/ByteRange;)Z" } : Jvm.MethodName) prog_2_method_3_code (2 : Nat) (Option.some Jvm.ClassFile.FieldType.boolean), Jvm.Cond.code ({ cls := "com/example/idem1/idem1/ByteRange", name := "isNone", desc := "()Z" } : Jvm.MethodName) prog_2_method_2_code (1 : Nat) (Option.some Jvm.ClassFile.FieldType.boolean)]
set_option maxRecDepth 65536 in
theorem codes_eq : words1.filter isCode = codes1 := rfl
theorem w_codes : ∀ c ∈ words1.filter isCode, c.before args0 about1 = true := by
  rw [codes_eq]
  intro c hc
  simp only [codes1, List.mem_cons, List.not_mem_nil, or_false] at hc
  rcases hc with rfl | rfl | rfl | rfl | rfl | rfl | rfl | rfl
  · exact w_c0
  · exact w_c1
  · exact w_c2
  · exact w_c3
  · exact w_c4
  · exact w_c5
  · exact w_c6
  · exact w_c7
set_option maxRecDepth 65536 in
theorem w_t1 : (words1.take 24).all (fun c => isCode c || c.before args0 about1) = true := by decide +kernel
set_option maxRecDepth 65536 in
theorem w_t2 : (words1.drop 24).all (fun c => isCode c || c.before args0 about1) = true := by decide +kernel
theorem w_tables : (allAtoms (Jvm.Cond.code x code maxLocals ret :: tables_1)).before args0 about1 = true := by
  rw [allAtoms_all]
  show words1.all (fun c => c.before args0 about1) = true
  refine all_split ?_ w_codes
  rw [← List.take_append_drop 24 words1, List.all_append, w_t1, w_t2]
  rfl
set_option maxRecDepth 65536 in
theorem w_case : (Jvm.Cond.and given_1 narrow_1).before args0 about1 = true := by decide +kernel
theorem w_applies : (headSpec (Jvm.Cond.code x code maxLocals ret :: tables_1) room_1).applies x e0.platform about1 = true :=
  (Spec.applies_iff w_frames).mpr ⟨w_running, w_runnable, w_alone, w_named, w_hears, w_ripe, w_room, w_tables⟩
theorem atStart : AtStart classFile x code maxLocals ret World_1 tables_1 room_1 Calls_1 rest_1 Pre_1 launch0 p0 e0 about1 theMethod args0 below0 :=
  ⟨lists_1, trivial, launch0.admits_env _ _ _, launch0.least_env, fairChoices_fair.cas, fairChoices_fair.clock, w_frames, w_args, w_heap, w_applies, trivial, trivial, w_case⟩
end start1
theorem witness_1 : WitnessClaimed_1 := ⟨start1.p0, start1.e0, start1.about1, start1.theMethod, start1.args0, start1.below0, start1.atStart⟩
end Jvm.Pilot.@@N@@
