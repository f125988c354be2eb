import JvmDerived
import JvmDerived.Pilot.@@N@@Statement
import JvmDerived.Pilot.@@N@@Code
set_option linter.unusedVariables false
set_option linter.unusedSimpArgs false
namespace Jvm.RoadKit
open Sem ClassFile Op Lib Jvm.Stand Jvm.Free Jvm.LawKit
section New
variable {p : Program} {l : Launch} {e : Env} {R : Room} {s : State} {m : MethodId} {args : Array Value} {below : List Frame} {meth : Method} {c : Code} {T : State} {locs : List Loc} {cells slots : Nat}
theorem retI (X : Stand p l e R s m args below meth c T locs cells slots) (hx : p.tables.exec = Jvm.exec) {pc : Nat} {Ls : Array Slot} {z : Int32} {rest : List Value} (hret : meth.sig.returnType = some .int) (hd : decode c.code pc = .ok (.ireturn, 1)) {fs : List Frame}
    (hl : ∀ (f : JFrame) (acts : List Action), f.method = m → f.locked = none → f.entered = [] → (doReturn e (T.setTop f) acts (some (.int z))).1 = T.setFrames fs) : Steps p.tables e below (T.setTop (mkF m pc Ls (.int z :: rest))) (T.setFrames fs) := by
  have hm' : T.vm.method? m = some meth := X.method'
  have hn : narrow .int (.int z) = .int z := rfl
  show Steps p.tables e below (T.setTop { method := m, pc := pc, locals := Ls, stack := _ :: rest, locked := none }) _
  jvm_step X.here [X.here.top, hx, hd, hm', hret, hn]
  first | (intro acts; rw [hl _ acts rfl rfl rfl]) | rw [hl _ _ rfl rfl rfl]
  exact Steps.refl _
end New
end Jvm.RoadKit
namespace Jvm.Pilot.@@N@@
open Jvm Jvm.ClassFile Sem Op Lib Jvm.Free Jvm.Stand Jvm.LawKit Jvm.RoadKit Bundle Jvm.Pilot.@@N@@.Jvm.D
def Gl (p : Program) (e : Env) (below : List Frame) (Q : Outcome → State → Prop) (A : State) : Prop := ∃ t o, Steps p.tables e below A t ∧ t.status = .running ∧ Ended t below o ∧ Q o t
theorem Gl.st {p : Program} {e : Env} {below : List Frame} {Q : Outcome → State → Prop} {A B : State} (k : ∀ t, Steps p.tables e below B t → Steps p.tables e below A t) (h : Gl p e below Q B) : Gl p e below Q A := by
  obtain ⟨t, o, h1, r⟩ := h
  exact ⟨t, o, k t h1, r⟩
theorem Gl.cast {p : Program} {e : Env} {below : List Frame} {Q : Outcome → State → Prop} {A B : State} (k : A = B) (h : Gl p e below Q B) : Gl p e below Q A := k ▸ h
theorem Gl.join {p : Program} {e : Env} {below : List Frame} {Q : Outcome → State → Prop} {A B : State} (k : Gl p e below Q A → Gl p e below Q B) (h : Gl p e below Q A) : Gl p e below Q B := k h
theorem Gl.fin {p : Program} {e : Env} {below : List Frame} {Q : Outcome → State → Prop} {A t : State} {o : Outcome} (h1 : Steps p.tables e below A t) (h2 : t.status = .running) (h3 : Ended t below o) (h4 : Q o t) : Gl p e below Q A := ⟨t, o, h1, h2, h3, h4⟩
theorem tw {a0 : Array Value} {Z : State} (hw : ∀ d ∈ tables_1, d.before a0 Z = true) (i : Nat) {d : Jvm.Cond} (h : tables_1[i]? = some d) : d.before a0 Z = true := hw _ (List.mem_of_getElem? h)
theorem ldAt {L M : Array Slot} (h : L = M) {k : Nat} {v : Slot} (q : M[k]? = some v) : L[k]? = some v := h ▸ q
theorem stAt {L M L' M' : Array Slot} {k : Nat} {v w : Value} (h : L = M) (h' : L' = M') (e : w = v) (q : storeLocals M k v = some M') : storeLocals L k w = some L' := by subst h h' e; exact q
theorem stAt' {L M L' M' : Array Slot} {k : Nat} {v w : Value} (h : L = M) (h' : L' = M') (e : w = v) (q : storeLocals M k v = some M') : storeLocals L k w = some L' := by subst h h' e; exact q
theorem szAt {L M : Array Slot} {k n : Nat} (h : k = n) (h' : L = M) (q : M.size = n) : L.size = k := by subst h h'; exact q
theorem efAt {m : MethodId} {L M : Array Slot} {f : JFrame} (h : L = M) (q : f = mkF m 0 M []) : f = mkF m 0 L [] := h ▸ q
theorem own_nb {c : Prop} [Decidable c] {a b : Int32} (ha : nar .boolean a = a) (hb : nar .boolean b = b) : nar .boolean (if c then a else b) = if c then a else b := by split <;> assumption
theorem own_eqL {args : Array Value} {s : State} {t : Term} {z : Int64} (h : (Jvm.Cond.eq t (.long z)).value args s none s [] = some true) : t.eval args s none [] s = some (.long z) := by
  obtain ⟨x, y, ha, hb, k1, k2⟩ := cmp_v (Or.inl h)
  obtain rfl : y = .long z := Option.some.inj (hb.symm.trans (long_at z))
  obtain ⟨w, rfl⟩ : ∃ w, x = .long w := k2
  rw [ha, gotT (eq_L ha hb) h]
theorem own_eqI {args : Array Value} {s : State} {t : Term} {z : Int32} (h : (Jvm.Cond.eq t (.int z)).value args s none s [] = some true) : t.eval args s none [] s = some (.int z) := by
  obtain ⟨x, y, ha, hb, k1, k2⟩ := cmp_v (Or.inl h)
  obtain rfl : y = .int z := Option.some.inj (hb.symm.trans (Term.int_eval z))
  obtain ⟨w, rfl⟩ : ∃ w, x = .int w := k2
  rw [ha, gotT (Cond.eq_ints ha hb) h]
theorem own_sta_keep {Z : State} {h h' : Heap} {C n d : String} {v : Value} {ws : List Addr} (F : Sta Z h C n d v) (K : Keep h h' ws) (q : ∀ x ∈ ws, ∀ cell : Cell, h[x]? = some cell → cell.vm.isStatics = false) : Sta Z h' C n d v := by
  obtain ⟨cf, i, k, f, a, cell, h1, h2, h3, h4, h5, h6, r⟩ := F
  exact ⟨cf, i, k, f, a, cell, h1, h2, h3, h4, K.2.1 a cell h5 (fun y => by have := q a y cell h5; rw [h6] at this; cases this), h6, r⟩
theorem own_exa_plain {Z : State} {h : Heap} {a : Addr} {C : String} (F : Exa Z h a C) : ∀ cell : Cell, h[a]? = some cell → cell.vm.isStatics = false := fun cell hc => by
  obtain ⟨c', k, h1, -, -, h4, -⟩ := F
  rw [h1] at hc; cases hc; exact h4
theorem own_arv_plain {Z : State} {h : Heap} {a : Addr} {k : ClassId} {ty : FieldType} {z : Int32} {vs : List Value} {dv : Value} (F : Arv Z h a k ty z vs dv) : ∀ cell : Cell, h[a]? = some cell → cell.vm.isStatics = false := fun cell hc => by
  obtain ⟨c', A, -⟩ := F
  have := A.1; rw [this] at hc; cases hc; exact A.plain
theorem d1_0 : decode jdk_29_method_66_code 0 = .ok (.lload_n 0, 1) := by decide +kernel
theorem d1_1 : decode jdk_29_method_66_code 1 = .ok (.lload_n 2, 1) := by decide +kernel
theorem d1_2 : decode jdk_29_method_66_code 2 = .ok (.lcmp, 1) := by decide +kernel
theorem d1_3 : decode jdk_29_method_66_code 3 = .ok (.ifCond .lt 7, 3) := by decide +kernel
theorem d1_6 : decode jdk_29_method_66_code 6 = .ok (.lload_n 0, 1) := by decide +kernel
theorem d1_7 : decode jdk_29_method_66_code 7 = .ok (.goto 4, 3) := by decide +kernel
theorem d1_10 : decode jdk_29_method_66_code 10 = .ok (.lload_n 2, 1) := by decide +kernel
theorem d1_11 : decode jdk_29_method_66_code 11 = .ok (.lreturn, 1) := by decide +kernel
theorem ef_1 (m : MethodId) (q1 : Int64) (q2 : Int64) : entryFrame m #[(.long q1), (.long q2)] 4 = mkF m 0 #[.val (.long q1), .second, .val (.long q2), .second] [] := by first | (simp [entryFrame, mkF, argsToLocals, Value.category]; done) | rfl
def Q1 (Z : State) (q1 : Int64) (q2 : Int64) (h0 : Heap) (n0 : Nat) (v : Option Value) (h : Heap) (L : List Loc) : Prop := v = some (.long ((if q1 < q2 then q2 else q1))) ∧ Fr n0 L ∧ h = h0
set_option maxRecDepth 65536 in
set_option maxHeartbeats 40000000 in
theorem rm1 (l : Launch) (Z : State) (a0 : Array Value) (hw : ∀ d ∈ tables_1, d.before a0 Z = true) (ws : List Jvm.Cond) (q1 : Int64) (q2 : Int64) (h0 : Heap) (n0 : Nat) (Z0 : n0 ≤ h0.size) :
    MetFree l (⟨"java/lang/Math", "max", "(JJ)J"⟩ : MethodName) (head1 (Jvm.Cond.code (⟨"java/lang/Math", "max", "(JJ)J"⟩ : MethodName) jdk_29_method_66_code 4 (some .long) :: ws) ({ frames := 0, cells := 0, slots := 0, locals := 0 } : Room)) (fun a U => a = #[(.long q1), (.long q2)] ∧ Z.Warmed39 U.vm ∧ U.heap = h0) (fun _ _ _ _ _ => True) (fun _ U o U' => ∃ v L, o = .returned v ∧ Q1 Z q1 q2 h0 n0 v U'.heap L ∧ FrameEnd U o U' L ({ frames := 0, cells := 0, slots := 0, locals := 0 } : Room).cells ({ frames := 0, cells := 0, slots := 0, locals := 0 } : Room).slots) := by
  refine MetFree.of_bodySF (Jvm.Free.JP.mathPlain rfl (by decide +kernel)) hisR ?_
  intro p e s m args below meth c s₁ Bd hml0 hP hK
  obtain ⟨rfl, hZ, hh⟩ := hP
  have hx := Bd.exec
  have hby := Bd.bytes
  have hml : c.maxLocals = 4 := hml0
  have hown : s.vm.findClass "java/lang/Math" = some m.cls := findClass_of_methodNamed Bd.named
  have hnm := (name_of_methodNamed Bd.named Bd.method).1
  have X0 : Stand p l e ({ frames := 0, cells := 0, slots := 0, locals := 0 } : Room) s m #[(.long q1), (.long q2)] below meth c s₁ [] 0 0 := Stand.of_body Bd
  have e0 : s₁.heap = h0 := by rw [← hh, Bd.state]; rfl
  have N0 := Fr.nil n0
  have K0 : Keep h0 h0 [] := Keep.refl h0 _
  refine (show Gl p e below (fun o U' => ∃ v L, o = .returned v ∧ Q1 Z q1 q2 h0 n0 v U'.heap L ∧ FrameEnd s o U' L ({ frames := 0, cells := 0, slots := 0, locals := 0 } : Room).cells ({ frames := 0, cells := 0, slots := 0, locals := 0 } : Room).slots) (s₁.setTop (entryFrame m #[(.long q1), (.long q2)] 4)) from ?_)
  obtain ⟨L0, hL0⟩ : ∃ z : Array Slot, z = #[.val (.long q1), .second, .val (.long q2), .second] := ⟨_, rfl⟩
  refine Gl.st (B := (s₁.setTop (mkF m 0 L0 []))) (fun t k => castTop (efAt hL0 (ef_1 m q1 q2)) k) ?_
  refine Gl.st (B := (s₁.setTop (mkF m 1 L0 [(.long q1)]))) (fun t k => XS.lloadN X0.here hx rfl (hb hby d1_0) (ldAt hL0 rfl) k) ?_
  refine Gl.st (B := (s₁.setTop (mkF m 2 L0 [(.long q2), (.long q1)]))) (fun t k => XS.lloadN X0.here hx rfl (hb hby d1_1) (ldAt hL0 rfl) k) ?_
  refine Gl.st (B := (s₁.setTop (mkF m 3 L0 [(.int (lcmpW q1 q2))]))) (fun t k => XS.lcmp X0.here hx rfl (hb hby d1_2) rfl k) ?_
  obtain ⟨v11_s0_2, hv11_s0_2⟩ : ∃ z : Int64, z = (if q1 < q2 then q2 else q1) := ⟨_, rfl⟩
  refine Gl.join (A := (s₁.setTop (mkF m 11 L0 [(.long v11_s0_2)]))) (fun J3_2 => ?_) ?_
  · by_cases hc3_1 : q1 < q2
    · skip
      refine Gl.st (B := (s₁.setTop (mkF m 10 L0 []))) (fun t k => XS.ifYes X0.here hx rfl (pc0 := 3) (pc' := 10) rfl (hb hby d1_3) rfl ((if0 _ _).trans (tlt ((lw_lt q1 q2).mpr hc3_1)).1) (by decide) (by decide) k) ?_
      refine Gl.st (B := (s₁.setTop (mkF m 11 L0 [(.long q2)]))) (fun t k => XS.lloadN X0.here hx rfl (hb hby d1_10) (ldAt hL0 rfl) k) ?_
      have ev11_s0_2 : v11_s0_2 = q2 := by rw [hv11_s0_2, if_pos hc3_1]
      rw [ev11_s0_2] at J3_2
      exact J3_2
    · skip
      refine Gl.st (B := (s₁.setTop (mkF m 6 L0 []))) (fun t k => XS.ifNo X0.here hx rfl (hb hby d1_3) rfl ((if0 _ _).trans (flt (mt (lw_lt q1 q2).mp hc3_1)).1) k) ?_
      refine Gl.st (B := (s₁.setTop (mkF m 7 L0 [(.long q1)]))) (fun t k => XS.lloadN X0.here hx rfl (hb hby d1_6) (ldAt hL0 rfl) k) ?_
      refine Gl.st (B := (s₁.setTop (mkF m 11 L0 [(.long q1)]))) (fun t k => XS.goto X0.here hx rfl (pc0 := 7) (pc' := 11) rfl (hb hby d1_7) (by decide) (by decide) k) ?_
      have ev11_s0_2 : v11_s0_2 = q1 := by rw [hv11_s0_2, if_neg hc3_1]
      rw [ev11_s0_2] at J3_2
      exact J3_2
  obtain ⟨fs, hr, hrun, hended, hW, hsame⟩ := X0.leave (v := some (.long v11_s0_2)) (fun h => by rw [Bd.returns] at h; cases h)
  refine Gl.fin (X0.lreturnOut hx Bd.returns (hb hby d1_11) hr) hrun hended ⟨_, _, rfl, ?_, ⟨_, rfl⟩, hW, hsame.mono (by decide) (by decide)⟩
  show Q1 Z q1 q2 h0 n0 _ s₁.heap _
  rw [e0]
  exact ⟨(by subst hv11_s0_2; rfl), N0, rfl⟩
theorem d3_0 : decode jdk_30_method_1_code 0 = .ok (.aload_n 0, 1) := by decide +kernel
theorem d3_1 : decode jdk_30_method_1_code 1 = .ok (.invokespecial 1, 3) := by decide +kernel
theorem d3_4 : decode jdk_30_method_1_code 4 = .ok (.return_, 1) := by decide +kernel
theorem pn_3 : plainName "java/lang/Record" = true := by first | (simp [plainName, overriddenIn]; done) | decide +kernel
theorem ef_3 (m : MethodId) (a1 : Addr) : entryFrame m #[(.ref a1)] 1 = mkF m 0 #[.val (.ref a1)] [] := by first | (simp [entryFrame, mkF, argsToLocals, Value.category]; done) | rfl
def Q3 (Z : State) (a1 : Addr) (h0 : Heap) (n0 : Nat) (v : Option Value) (h : Heap) (L : List Loc) : Prop := v = none ∧ Fr n0 L ∧ h = h0
set_option maxRecDepth 65536 in
set_option maxHeartbeats 40000000 in
theorem rm3 (l : Launch) (Z : State) (a0 : Array Value) (hw : ∀ d ∈ tables_1, d.before a0 Z = true) (ws : List Jvm.Cond) (a1 : Addr) (h0 : Heap) (n0 : Nat) (Z0 : n0 ≤ h0.size) :
    MetFree l (⟨"java/lang/Record", "<init>", "()V"⟩ : MethodName) (head1 (Jvm.Cond.code (⟨"java/lang/Record", "<init>", "()V"⟩ : MethodName) jdk_30_method_1_code 1 none :: ws) ({ frames := 1, cells := 0, slots := 0, locals := 12 } : Room)) (fun a U => a = #[(.ref a1)] ∧ Z.Warmed39 U.vm ∧ U.heap = h0) (fun _ _ _ _ _ => True) (fun _ U o U' => ∃ v L, o = .returned v ∧ Q3 Z a1 h0 n0 v U'.heap L ∧ FrameEnd U o U' L ({ frames := 1, cells := 0, slots := 0, locals := 12 } : Room).cells ({ frames := 1, cells := 0, slots := 0, locals := 12 } : Room).slots) := by
  refine MetFree.of_bodySF (plainFor_of_name pn_3) hisR ?_
  intro p e s m args below meth c s₁ Bd hml0 hP hK
  obtain ⟨rfl, hZ, hh⟩ := hP
  have hx := Bd.exec
  have hby := Bd.bytes
  have hml : c.maxLocals = 1 := hml0
  have hown : s.vm.findClass "java/lang/Record" = some m.cls := findClass_of_methodNamed Bd.named
  have hnm := (name_of_methodNamed Bd.named Bd.method).1
  have X0 : Stand p l e ({ frames := 1, cells := 0, slots := 0, locals := 12 } : Room) s m #[(.ref a1)] below meth c s₁ [] 0 0 := Stand.of_body Bd
  have e0 : s₁.heap = h0 := by rw [← hh, Bd.state]; rfl
  have N0 := Fr.nil n0
  have K0 : Keep h0 h0 [] := Keep.refl h0 _
  refine (show Gl p e below (fun o U' => ∃ v L, o = .returned v ∧ Q3 Z a1 h0 n0 v U'.heap L ∧ FrameEnd s o U' L ({ frames := 1, cells := 0, slots := 0, locals := 12 } : Room).cells ({ frames := 1, cells := 0, slots := 0, locals := 12 } : Room).slots) (s₁.setTop (entryFrame m #[(.ref a1)] 1)) from ?_)
  obtain ⟨L0, hL0⟩ : ∃ z : Array Slot, z = #[.val (.ref a1)] := ⟨_, rfl⟩
  refine Gl.st (B := (s₁.setTop (mkF m 0 L0 []))) (fun t k => castTop (efAt hL0 (ef_3 m a1)) k) ?_
  refine Gl.st (B := (s₁.setTop (mkF m 1 L0 [(.ref a1)]))) (fun t k => XS.aloadN X0.here hx rfl (hb hby d3_0) (ldAt hL0 rfl) rfl k) ?_
  obtain ⟨T1, X1, e1, st1⟩ := initO X0 hx hZ hown (tw hw 16 rfl) (tw hw 17 rfl) (tw hw 18 rfl) e0 (g := (mkF m 1 L0 [(.ref a1)])) rfl (szAt hml hL0 rfl) rfl (hb hby d3_1) (by decide) (W := 0) (by show 2 * 0 + _ ≤ _; exact Nat.le_of_eq rfl) (by decide)
  refine Gl.st (B := (T1.setTop (mkF m 4 L0 []))) st1 ?_
  obtain ⟨fs, hr, hrun, hended, hW, hsame⟩ := X1.leave (v := none) (fun _ => rfl)
  refine Gl.fin (X1.returnOut hx Bd.returns (hb hby d3_4) hr) hrun hended ⟨_, _, rfl, ?_, ⟨_, rfl⟩, hW, hsame.mono (by decide) (by decide)⟩
  show Q3 Z a1 h0 n0 _ T1.heap _
  rw [e1]
  exact ⟨rfl, N0, rfl⟩
theorem sn0 {Z : State} {a0 : Array Value} (hw : ∀ d ∈ tables_1, d.before a0 Z = true) : Jvm.RoadKit.slotOf Z "com/example/idem1/idem1/ByteRange" "max" "J" ≠ Jvm.RoadKit.slotOf Z "com/example/idem1/idem1/ByteRange" "min" "J" := slot_ne (Or.inr (tw hw 22 rfl)) (Or.inr (tw hw 20 rfl)) (by decide) (t := .long) (t' := .long) (by decide) (by decide)
theorem sn1 {Z : State} {a0 : Array Value} (hw : ∀ d ∈ tables_1, d.before a0 Z = true) : Jvm.RoadKit.slotOf Z "com/example/idem1/idem1/ByteRange" "min" "J" ≠ Jvm.RoadKit.slotOf Z "com/example/idem1/idem1/ByteRange" "max" "J" := slot_ne (Or.inr (tw hw 20 rfl)) (Or.inr (tw hw 22 rfl)) (by decide) (t := .long) (t' := .long) (by decide) (by decide)
theorem d2_0 : decode prog_2_method_1_code 0 = .ok (.aload_n 0, 1) := by decide +kernel
theorem d2_1 : decode prog_2_method_1_code 1 = .ok (.invokespecial 1, 3) := by decide +kernel
theorem d2_4 : decode prog_2_method_1_code 4 = .ok (.aload_n 0, 1) := by decide +kernel
theorem d2_5 : decode prog_2_method_1_code 5 = .ok (.lload_n 1, 1) := by decide +kernel
theorem d2_6 : decode prog_2_method_1_code 6 = .ok (.putfield 7, 3) := by decide +kernel
theorem d2_9 : decode prog_2_method_1_code 9 = .ok (.aload_n 0, 1) := by decide +kernel
theorem d2_10 : decode prog_2_method_1_code 10 = .ok (.lload_n 3, 1) := by decide +kernel
theorem d2_11 : decode prog_2_method_1_code 11 = .ok (.putfield 13, 3) := by decide +kernel
theorem d2_14 : decode prog_2_method_1_code 14 = .ok (.return_, 1) := by decide +kernel
theorem pn_2 : plainName "com/example/idem1/idem1/ByteRange" = true := by first | (simp [plainName, overriddenIn]; done) | decide +kernel
theorem pd_2_0 : parseMethodDescriptor "()V" = some ⟨[], none⟩ := by decide +kernel
theorem ef_2 (m : MethodId) (a1 : Addr) (q2 : Int64) (q3 : Int64) : entryFrame m #[(.ref a1), (.long q2), (.long q3)] 5 = mkF m 0 #[.val (.ref a1), .val (.long q2), .second, .val (.long q3), .second] [] := by first | (simp [entryFrame, mkF, argsToLocals, Value.category]; done) | rfl
def Q2 (Z : State) (a1 : Addr) (q2 : Int64) (q3 : Int64) (u_min_a1 : Value) (u_max_a1 : Value) (h0 : Heap) (n0 : Nat) (v : Option Value) (h : Heap) (L : List Loc) : Prop := v = none ∧ Fr n0 L ∧ Keep h0 h [a1] ∧ Exa Z h a1 "com/example/idem1/idem1/ByteRange" ∧ Fld Z h a1 "com/example/idem1/idem1/ByteRange" "min" "J" (.long q2) ∧ Fld Z h a1 "com/example/idem1/idem1/ByteRange" "max" "J" (.long q3)
set_option maxRecDepth 65536 in
set_option maxHeartbeats 40000000 in
theorem rm2 (l : Launch) (Z : State) (a0 : Array Value) (hw : ∀ d ∈ tables_1, d.before a0 Z = true) (ws : List Jvm.Cond) (a1 : Addr) (q2 : Int64) (q3 : Int64) (u_min_a1 : Value) (u_max_a1 : Value) (h0 : Heap) (n0 : Nat) (Z0 : n0 ≤ h0.size) (E_a1 : Exa Z h0 a1 "com/example/idem1/idem1/ByteRange") (F_min_a1 : Fld Z h0 a1 "com/example/idem1/idem1/ByteRange" "min" "J" u_min_a1) (g_a1 : n0 ≤ a1) (F_max_a1 : Fld Z h0 a1 "com/example/idem1/idem1/ByteRange" "max" "J" u_max_a1) :
    MetFree l (⟨"com/example/idem1/idem1/ByteRange", "<init>", "(JJ)V"⟩ : MethodName) (head1 (Jvm.Cond.code (⟨"com/example/idem1/idem1/ByteRange", "<init>", "(JJ)V"⟩ : MethodName) prog_2_method_1_code 5 none :: ws) ({ frames := 2, cells := 0, slots := 0, locals := 24 } : Room)) (fun a U => a = #[(.ref a1), (.long q2), (.long q3)] ∧ Z.Warmed39 U.vm ∧ U.heap = h0) (fun _ _ _ _ _ => True) (fun _ U o U' => ∃ v L, o = .returned v ∧ Q2 Z a1 q2 q3 u_min_a1 u_max_a1 h0 n0 v U'.heap L ∧ FrameEnd U o U' L ({ frames := 2, cells := 0, slots := 0, locals := 24 } : Room).cells ({ frames := 2, cells := 0, slots := 0, locals := 24 } : Room).slots) := by
  refine MetFree.of_bodySF (plainFor_of_name pn_2) hisR ?_
  intro p e s m args below meth c s₁ Bd hml0 hP hK
  obtain ⟨rfl, hZ, hh⟩ := hP
  have hx := Bd.exec
  have hby := Bd.bytes
  have hml : c.maxLocals = 5 := hml0
  have hown : s.vm.findClass "com/example/idem1/idem1/ByteRange" = some m.cls := findClass_of_methodNamed Bd.named
  have hnm := (name_of_methodNamed Bd.named Bd.method).1
  have X0 : Stand p l e ({ frames := 2, cells := 0, slots := 0, locals := 24 } : Room) s m #[(.ref a1), (.long q2), (.long q3)] below meth c s₁ [] 0 0 := Stand.of_body Bd
  have e0 : s₁.heap = h0 := by rw [← hh, Bd.state]; rfl
  have N0 := Fr.nil n0
  have K0 : Keep h0 h0 [a1] := Keep.refl h0 _
  refine (show Gl p e below (fun o U' => ∃ v L, o = .returned v ∧ Q2 Z a1 q2 q3 u_min_a1 u_max_a1 h0 n0 v U'.heap L ∧ FrameEnd s o U' L ({ frames := 2, cells := 0, slots := 0, locals := 24 } : Room).cells ({ frames := 2, cells := 0, slots := 0, locals := 24 } : Room).slots) (s₁.setTop (entryFrame m #[(.ref a1), (.long q2), (.long q3)] 5)) from ?_)
  obtain ⟨L0, hL0⟩ : ∃ z : Array Slot, z = #[.val (.ref a1), .val (.long q2), .second, .val (.long q3), .second] := ⟨_, rfl⟩
  refine Gl.st (B := (s₁.setTop (mkF m 0 L0 []))) (fun t k => castTop (efAt hL0 (ef_2 m a1 q2 q3)) k) ?_
  refine Gl.st (B := (s₁.setTop (mkF m 1 L0 [(.ref a1)]))) (fun t k => XS.aloadN X0.here hx rfl (hb hby d2_0) (ldAt hL0 rfl) rfl k) ?_
  obtain ⟨_, _, ⟨T1, L1q, k1, n1⟩, -, X1, ⟨Lc1, hQ1, l1, y1, z1⟩, st1⟩ := X0.specialBack hx (y := (⟨"java/lang/Record", "<init>", "()V"⟩ : MethodName)) rfl hown (mvT hZ (tw hw 11 rfl)) (mvT hZ (tw hw 12 rfl)) (mvT hZ (tw hw 15 rfl)) (by decide) (backOf (W := 0) (rm3 l Z a0 hw [] a1 h0 n0 Z0) hZ (tw hw 15 rfl) (tw hw 14 rfl) (by decide) (by decide)) (g := (mkF m 1 L0 [(.ref a1)])) rfl (szAt hml hL0 rfl) (Steps.refl _) (a := a1) (argsL := []) (rest := []) (lenOf pd_2_0 rfl) rfl (by show 2 * 0 + _ ≤ _; exact Nat.le_of_eq rfl) (hb hby d2_1) (fun _ _ => ⟨rfl, e0, (by decide : 0 + 0 ≤ _), (by decide : 0 + 0 ≤ _)⟩)
  dsimp only [Pt.U, Pt.locs, Pt.cells, Pt.slots] at X1 l1 y1 z1 st1 hQ1
  subst l1 y1 z1
  obtain ⟨rfl, N1q, eh1⟩ := hQ1
  have N1 := Fr.app N0 N1q
  refine Gl.st (B := (T1.setTop (mkF m 4 L0 []))) (fun t k => st1.trans k) ?_
  refine Gl.st (B := (T1.setTop (mkF m 5 L0 [(.ref a1)]))) (fun t k => XS.aloadN X1.here hx rfl (hb hby d2_4) (ldAt hL0 rfl) rfl k) ?_
  refine Gl.st (B := (T1.setTop (mkF m 6 L0 [(.long q2), (.ref a1)]))) (fun t k => XS.lloadN X1.here hx rfl (hb hby d2_5) (ldAt hL0 rfl) k) ?_
  obtain ⟨T2, h2, X2, e2, W2, st2⟩ := putF X1 hx hZ hown (host := "") (Or.inl (tw hw 19 rfl)) Via.refl eh1 F_min_a1 E_a1 (Or.inr ⟨(tw hw 20 rfl), rfl, hnm⟩) (tw hw 6 rfl) (ty := .long) (by decide) rfl rfl (g := (mkF m 6 L0 [(.long q2), (.ref a1)])) rfl rfl (hb hby d2_6)
  have Fw2 := F_min_a1.same W2
  have Zc3 : n0 ≤ h2.size := Nat.le_trans Z0 (Nat.le_of_eq W2.size.symm)
  have K4 : Keep h0 h2 [a1] := K0.wr W2 (Or.inl (List.mem_of_getElem? (i := 0) rfl))
  have N2 := Fr.snoc X2 N1 g_a1
  refine Gl.st (B := (T2.setTop (mkF m 9 L0 []))) st2 ?_
  refine Gl.st (B := (T2.setTop (mkF m 10 L0 [(.ref a1)]))) (fun t k => XS.aloadN X2.here hx rfl (hb hby d2_9) (ldAt hL0 rfl) rfl k) ?_
  refine Gl.st (B := (T2.setTop (mkF m 11 L0 [(.long q3), (.ref a1)]))) (fun t k => XS.lloadN X2.here hx rfl (hb hby d2_10) (ldAt hL0 rfl) k) ?_
  have c5 := (E_a1.wr W2)
  have c6 := (F_max_a1.other W2 (Or.inr (sn0 hw)))
  obtain ⟨T7, h7, X7, e7, W7, st7⟩ := putF X2 hx hZ hown (host := "") (Or.inl (tw hw 21 rfl)) Via.refl e2 c6 c5 (Or.inr ⟨(tw hw 22 rfl), rfl, hnm⟩) (tw hw 6 rfl) (ty := .long) (by decide) rfl rfl (g := (mkF m 11 L0 [(.long q3), (.ref a1)])) rfl rfl (hb hby d2_11)
  have Fw7 := c6.same W7
  have Zc8 : n0 ≤ h7.size := Nat.le_trans Zc3 (Nat.le_of_eq W7.size.symm)
  have K9 : Keep h0 h7 [a1] := K4.wr W7 (Or.inl (List.mem_of_getElem? (i := 0) rfl))
  have N7 := Fr.snoc X7 N2 g_a1
  refine Gl.st (B := (T7.setTop (mkF m 14 L0 []))) st7 ?_
  obtain ⟨fs, hr, hrun, hended, hW, hsame⟩ := X7.leave (v := none) (fun _ => rfl)
  refine Gl.fin (X7.returnOut hx Bd.returns (hb hby d2_14) hr) hrun hended ⟨_, _, rfl, ?_, ⟨_, rfl⟩, hW, hsame.mono (by decide) (by decide)⟩
  show Q2 Z a1 q2 q3 u_min_a1 u_max_a1 h0 n0 _ T7.heap _
  rw [e7]
  have c10 := (c5.wr W7)
  have c11 := (Fw2.other W7 (Or.inr (sn1 hw)))
  exact ⟨rfl, N7, K9, c10, c11, Fw7⟩
theorem d5_0 : decode prog_2_method_2_code 0 = .ok (.aload_n 0, 1) := by decide +kernel
theorem d5_1 : decode prog_2_method_2_code 1 = .ok (.getfield 7, 3) := by decide +kernel
theorem d5_4 : decode prog_2_method_2_code 4 = .ok (.lconst 0, 1) := by decide +kernel
theorem d5_5 : decode prog_2_method_2_code 5 = .ok (.lcmp, 1) := by decide +kernel
theorem d5_6 : decode prog_2_method_2_code 6 = .ok (.ifCond .ge 7, 3) := by decide +kernel
theorem d5_9 : decode prog_2_method_2_code 9 = .ok (.iconst 1, 1) := by decide +kernel
theorem d5_10 : decode prog_2_method_2_code 10 = .ok (.goto 4, 3) := by decide +kernel
theorem d5_13 : decode prog_2_method_2_code 13 = .ok (.iconst 0, 1) := by decide +kernel
theorem d5_14 : decode prog_2_method_2_code 14 = .ok (.ireturn, 1) := by decide +kernel
theorem pn_5 : plainName "com/example/idem1/idem1/ByteRange" = true := by first | (simp [plainName, overriddenIn]; done) | decide +kernel
theorem ef_5 (m : MethodId) (a1 : Addr) : entryFrame m #[(.ref a1)] 1 = mkF m 0 #[.val (.ref a1)] [] := by first | (simp [entryFrame, mkF, argsToLocals, Value.category]; done) | rfl
def Q5 (Z : State) (a1 : Addr) (w_min_a1 : Int64) (h0 : Heap) (n0 : Nat) (v : Option Value) (h : Heap) (L : List Loc) : Prop := v = some (.int ((if w_min_a1 < (0 : Int64) then (1 : Int32) else (0 : Int32)))) ∧ Fr n0 L ∧ h = h0
set_option maxRecDepth 65536 in
set_option maxHeartbeats 40000000 in
theorem rm5 (l : Launch) (Z : State) (a0 : Array Value) (hw : ∀ d ∈ tables_1, d.before a0 Z = true) (ws : List Jvm.Cond) (a1 : Addr) (w_min_a1 : Int64) (h0 : Heap) (n0 : Nat) (Z0 : n0 ≤ h0.size) (F_min_a1 : Fld Z h0 a1 "com/example/idem1/idem1/ByteRange" "min" "J" (.long w_min_a1)) :
    MetFree l (⟨"com/example/idem1/idem1/ByteRange", "isNone", "()Z"⟩ : MethodName) (head1 (Jvm.Cond.code (⟨"com/example/idem1/idem1/ByteRange", "isNone", "()Z"⟩ : MethodName) prog_2_method_2_code 1 (some .boolean) :: ws) ({ frames := 0, cells := 0, slots := 0, locals := 0 } : Room)) (fun a U => a = #[(.ref a1)] ∧ Z.Warmed39 U.vm ∧ U.heap = h0) (fun _ _ _ _ _ => True) (fun _ U o U' => ∃ v L, o = .returned v ∧ Q5 Z a1 w_min_a1 h0 n0 v U'.heap L ∧ FrameEnd U o U' L ({ frames := 0, cells := 0, slots := 0, locals := 0 } : Room).cells ({ frames := 0, cells := 0, slots := 0, locals := 0 } : Room).slots) := by
  refine MetFree.of_bodySF (plainFor_of_name pn_5) hisR ?_
  intro p e s m args below meth c s₁ Bd hml0 hP hK
  obtain ⟨rfl, hZ, hh⟩ := hP
  have hx := Bd.exec
  have hby := Bd.bytes
  have hml : c.maxLocals = 1 := hml0
  have hown : s.vm.findClass "com/example/idem1/idem1/ByteRange" = some m.cls := findClass_of_methodNamed Bd.named
  have hnm := (name_of_methodNamed Bd.named Bd.method).1
  have X0 : Stand p l e ({ frames := 0, cells := 0, slots := 0, locals := 0 } : Room) s m #[(.ref a1)] below meth c s₁ [] 0 0 := Stand.of_body Bd
  have e0 : s₁.heap = h0 := by rw [← hh, Bd.state]; rfl
  have N0 := Fr.nil n0
  have K0 : Keep h0 h0 [] := Keep.refl h0 _
  refine (show Gl p e below (fun o U' => ∃ v L, o = .returned v ∧ Q5 Z a1 w_min_a1 h0 n0 v U'.heap L ∧ FrameEnd s o U' L ({ frames := 0, cells := 0, slots := 0, locals := 0 } : Room).cells ({ frames := 0, cells := 0, slots := 0, locals := 0 } : Room).slots) (s₁.setTop (entryFrame m #[(.ref a1)] 1)) from ?_)
  obtain ⟨L0, hL0⟩ : ∃ z : Array Slot, z = #[.val (.ref a1)] := ⟨_, rfl⟩
  refine Gl.st (B := (s₁.setTop (mkF m 0 L0 []))) (fun t k => castTop (efAt hL0 (ef_5 m a1)) k) ?_
  refine Gl.st (B := (s₁.setTop (mkF m 1 L0 [(.ref a1)]))) (fun t k => XS.aloadN X0.here hx rfl (hb hby d5_0) (ldAt hL0 rfl) rfl k) ?_
  obtain ⟨T1, X1, e1, st1⟩ := getF X0 hx hZ hown (host := "") (Or.inl (tw hw 19 rfl)) Via.refl e0 F_min_a1 (g := (mkF m 1 L0 [(.ref a1)])) rfl rfl (hb hby d5_1)
  refine Gl.st (B := (T1.setTop (mkF m 4 L0 [(.long w_min_a1)]))) st1 ?_
  refine Gl.st (B := (T1.setTop (mkF m 5 L0 [(.long (0 : Int64)), (.long w_min_a1)]))) (fun t k => XS.lconst X1.here hx rfl (hb hby d5_4) k) ?_
  refine Gl.st (B := (T1.setTop (mkF m 6 L0 [(.int (lcmpW w_min_a1 (0 : Int64)))]))) (fun t k => XS.lcmp X1.here hx rfl (hb hby d5_5) rfl k) ?_
  obtain ⟨v14_s0_3, hv14_s0_3⟩ : ∃ z : Int32, z = (if w_min_a1 < (0 : Int64) then (1 : Int32) else (0 : Int32)) := ⟨_, rfl⟩
  refine Gl.join (A := (T1.setTop (mkF m 14 L0 [(.int v14_s0_3)]))) (fun J6_3 => ?_) ?_
  · by_cases hc6_2 : w_min_a1 < (0 : Int64)
    · skip
      refine Gl.st (B := (T1.setTop (mkF m 9 L0 []))) (fun t k => XS.ifNo X1.here hx rfl (hb hby d5_6) rfl ((if0 _ _).trans (tlt ((lw_lt w_min_a1 (0 : Int64)).mpr hc6_2)).2.1) k) ?_
      refine Gl.st (B := (T1.setTop (mkF m 10 L0 [(.int (1 : Int32))]))) (fun t k => XS.iconst X1.here hx rfl (hb hby d5_9) k) ?_
      refine Gl.st (B := (T1.setTop (mkF m 14 L0 [(.int (1 : Int32))]))) (fun t k => XS.goto X1.here hx rfl (pc0 := 10) (pc' := 14) rfl (hb hby d5_10) (by decide) (by decide) k) ?_
      have ev14_s0_3 : v14_s0_3 = (1 : Int32) := by rw [hv14_s0_3, if_pos hc6_2]
      rw [ev14_s0_3] at J6_3
      exact J6_3
    · skip
      refine Gl.st (B := (T1.setTop (mkF m 13 L0 []))) (fun t k => XS.ifYes X1.here hx rfl (pc0 := 6) (pc' := 13) rfl (hb hby d5_6) rfl ((if0 _ _).trans (flt (mt (lw_lt w_min_a1 (0 : Int64)).mp hc6_2)).2.1) (by decide) (by decide) k) ?_
      refine Gl.st (B := (T1.setTop (mkF m 14 L0 [(.int (0 : Int32))]))) (fun t k => XS.iconst X1.here hx rfl (hb hby d5_13) k) ?_
      have ev14_s0_3 : v14_s0_3 = (0 : Int32) := by rw [hv14_s0_3, if_neg hc6_2]
      rw [ev14_s0_3] at J6_3
      exact J6_3
  obtain ⟨fs, hr, hrun, hended, hW, hsame⟩ := X1.leave (v := some (.int (nar .boolean v14_s0_3))) (fun h => by rw [Bd.returns] at h; cases h)
  refine Gl.fin (retN X1 hx (t := .boolean) Bd.returns (by simp) (hb hby d5_14) hr) hrun hended ⟨_, _, rfl, ?_, ⟨_, rfl⟩, hW, hsame.mono (by decide) (by decide)⟩
  show Q5 Z a1 w_min_a1 h0 n0 _ T1.heap _
  rw [e1]
  exact ⟨(by subst hv14_s0_3; exact congrArg (fun z => some (Value.int z)) (own_nb rfl rfl)), N0, rfl⟩
theorem pn_0 : plainName "com/example/idem1/idem1/ByteRangeIsNonePinLaw" = true := by first | (simp [plainName, overriddenIn]; done) | decide +kernel
theorem pd_0_0 : parseMethodDescriptor "(JJ)J" = some ⟨[.long, .long], some .long⟩ := by decide +kernel
theorem pd_0_1 : parseMethodDescriptor "(JJ)V" = some ⟨[.long, .long], none⟩ := by decide +kernel
theorem pd_0_2 : parseMethodDescriptor "()Z" = some ⟨[], some .boolean⟩ := by decide +kernel
theorem ef_0 (m : MethodId) (q1 : Int64) (q2 : Int64) : entryFrame m #[(.long q1), (.long q2)] maxLocals = mkF m 0 #[.val (.long q1), .second, .val (.long q2), .second, .unset, .unset, .unset, .unset, .unset, .unset, .unset, .unset] [] := by first | (simp [entryFrame, mkF, argsToLocals, Value.category, maxLocals]; done) | rfl
theorem own_0_hc76_31 (q1 : Int64) (y4_5_1 : Int64) (r73_30 : Int32) (hy4_5_1 : y4_5_1 = (q1 &&& (9223372036854775807 : Int64))) (hr73_30 : r73_30 = ((if y4_5_1 < (0 : Int64) then (1 : Int32) else (0 : Int32))))  : r73_30 = (0 : Int32) := by
  rw [hr73_30, if_neg]
  rw [Int64.lt_iff_toInt_lt, hy4_5_1, c_maskL q1 (9223372036854775807 : Int64) 63 (by decide) (by decide)]
  simp only [Int64.reduceToInt]
  omega
def Q0 (Z : State) (q1 : Int64) (q2 : Int64) (z_NONE : Addr) (h0 : Heap) (n0 : Nat) (v : Option Value) (h : Heap) (L : List Loc) : Prop := v = some (.int (1 : Int32)) ∧ Fr n0 L
set_option maxRecDepth 65536 in
set_option maxHeartbeats 40000000 in
theorem rm0 (l : Launch) (Z : State) (a0 : Array Value) (hw : ∀ d ∈ tables_1, d.before a0 Z = true) (ws : List Jvm.Cond) (q1 : Int64) (q2 : Int64) (z_NONE : Addr) (h0 : Heap) (n0 : Nat) (Z0 : n0 ≤ h0.size) (S_NONE : Sta Z h0 "com/example/idem1/idem1/ByteRange" "NONE" "Lcom/example/idem1/idem1/ByteRange;" (.ref z_NONE)) (F_min_z_NONE : Fld Z h0 z_NONE "com/example/idem1/idem1/ByteRange" "min" "J" (.long (-1 : Int64))) (E_z_NONE : Exa Z h0 z_NONE "com/example/idem1/idem1/ByteRange") :
    MetFree l x (head1 (Jvm.Cond.code x code maxLocals ret :: ws) room_1) (fun a U => a = #[(.long q1), (.long q2)] ∧ Z.Warmed39 U.vm ∧ U.heap = h0) (fun _ _ _ _ _ => True) (fun _ U o U' => ∃ v L, o = .returned v ∧ Q0 Z q1 q2 z_NONE h0 n0 v U'.heap L ∧ FrameEnd U o U' L room_1.cells room_1.slots) := by
  refine MetFree.of_bodySF (plainFor_of_name pn_0) hisR ?_
  intro p e s m args below meth c s₁ Bd hml0 hP hK
  obtain ⟨rfl, hZ, hh⟩ := hP
  have hx := Bd.exec
  have hby := Bd.bytes
  have hml : c.maxLocals = 12 := hml0
  have hown : s.vm.findClass "com/example/idem1/idem1/ByteRangeIsNonePinLaw" = some m.cls := findClass_of_methodNamed Bd.named
  have hnm := (name_of_methodNamed Bd.named Bd.method).1
  have X0 : Stand p l e room_1 s m #[(.long q1), (.long q2)] below meth c s₁ [] 0 0 := Stand.of_body Bd
  have e0 : s₁.heap = h0 := by rw [← hh, Bd.state]; rfl
  have N0 := Fr.nil n0
  refine (show Gl p e below (fun o U' => ∃ v L, o = .returned v ∧ Q0 Z q1 q2 z_NONE h0 n0 v U'.heap L ∧ FrameEnd s o U' L room_1.cells room_1.slots) (s₁.setTop (entryFrame m #[(.long q1), (.long q2)] maxLocals)) from ?_)
  obtain ⟨L0, hL0⟩ : ∃ z : Array Slot, z = #[.val (.long q1), .second, .val (.long q2), .second, .unset, .unset, .unset, .unset, .unset, .unset, .unset, .unset] := ⟨_, rfl⟩
  refine Gl.st (B := (s₁.setTop (mkF m 0 L0 []))) (fun t k => castTop (efAt hL0 (ef_0 m q1 q2)) k) ?_
  refine Gl.st (B := (s₁.setTop (mkF m 1 L0 [(.long q1)]))) (fun t k => XS.lloadN X0.here hx rfl (hb hby at_0) (ldAt hL0 rfl) k) ?_
  refine Gl.st (B := (s₁.setTop (mkF m 4 L0 [(.long (9223372036854775807 : Int64)), (.long q1)]))) (fun t k => X0.ldc2Long hx hown (mvT hZ (tw hw 0 rfl)) (g := (mkF m 1 L0 [(.long q1)])) rfl (hb hby at_1) _ k) ?_
  refine Gl.st (B := (s₁.setTop (mkF m 5 L0 [(.long (q1 &&& (9223372036854775807 : Int64)))]))) (fun t k => XS.land X0.here hx rfl (hb hby at_4) rfl k) ?_
  obtain ⟨y4_5_1, hy4_5_1⟩ : ∃ z : Int64, z = (q1 &&& (9223372036854775807 : Int64)) := ⟨_, rfl⟩
  refine Gl.cast (B := (s₁.setTop (mkF m 5 L0 [(.long y4_5_1)]))) (by rw [hy4_5_1]) ?_
  obtain ⟨L2, hL2⟩ : ∃ z : Array Slot, z = #[.val (.long q1), .second, .val (.long q2), .second, .val (.long y4_5_1), .second, .unset, .unset, .unset, .unset, .unset, .unset] := ⟨_, rfl⟩
  refine Gl.st (B := (s₁.setTop (mkF m 7 L2 []))) (fun t k => XS.lstore X0.here hx rfl (hb hby at_5) rfl (l' := L2) (stAt hL0 hL2 rfl rfl) k) ?_
  refine Gl.st (B := (s₁.setTop (mkF m 9 L2 [(.long y4_5_1)]))) (fun t k => XS.lload X0.here hx rfl (hb hby at_7) (ldAt hL2 rfl) k) ?_
  refine Gl.st (B := (s₁.setTop (mkF m 10 L2 [(.long q2), (.long y4_5_1)]))) (fun t k => XS.lloadN X0.here hx rfl (hb hby at_9) (ldAt hL2 rfl) k) ?_
  refine Gl.st (B := (s₁.setTop (mkF m 13 L2 [(.long (9223372036854775807 : Int64)), (.long q2), (.long y4_5_1)]))) (fun t k => X0.ldc2Long hx hown (mvT hZ (tw hw 0 rfl)) (g := (mkF m 10 L2 [(.long q2), (.long y4_5_1)])) rfl (hb hby at_10) _ k) ?_
  refine Gl.st (B := (s₁.setTop (mkF m 14 L2 [(.long (q2 &&& (9223372036854775807 : Int64))), (.long y4_5_1)]))) (fun t k => XS.land X0.here hx rfl (hb hby at_13) rfl k) ?_
  obtain ⟨x14_3, hx14_3⟩ : ∃ z : Int64, z = (q2 &&& (9223372036854775807 : Int64)) := ⟨_, rfl⟩
  refine Gl.cast (B := (s₁.setTop (mkF m 14 L2 [(.long x14_3), (.long y4_5_1)]))) (by rw [hx14_3]) ?_
  obtain ⟨_, _, ⟨T4, L4q, k4, n4⟩, -, X4, ⟨Lc4, hQ4, l4, y4, z4⟩, st4⟩ := Jvm.LawKit.callS X0 hx (y := (⟨"java/lang/Math", "max", "(JJ)J"⟩ : MethodName)) hown (mvT hZ (tw hw 1 rfl)) (mvT hZ (tw hw 2 rfl)) (mvT hZ (tw hw 3 rfl)) (mvT hZ (tw hw 4 rfl)) (by decide) (backOf (W := 0) (rm1 l Z a0 hw [] y4_5_1 x14_3 h0 n0 Z0) hZ (tw hw 4 rfl) (tw hw 3 rfl) (by decide) (by decide)) (g := (mkF m 14 L2 [(.long x14_3), (.long y4_5_1)])) rfl (szAt hml hL2 rfl) (argsL := [(.long y4_5_1), (.long x14_3)]) (rest := []) (lenOf pd_0_0 rfl) rfl (by show 2 * 0 + _ ≤ _; exact Nat.le_of_eq rfl) (hb hby at_14) (fun _ _ => ⟨rfl, e0, (by decide : 0 + 0 ≤ _), (by decide : 0 + 0 ≤ _)⟩)
  dsimp only [Pt.U, Pt.locs, Pt.cells, Pt.slots] at X4 l4 y4 z4 st4 hQ4
  subst l4 y4 z4
  obtain ⟨rfl, N4q, eh4⟩ := hQ4
  have N4 := Fr.app N0 N4q
  refine Gl.st (B := (T4.setTop (mkF m 17 L2 [(.long ((if y4_5_1 < x14_3 then x14_3 else y4_5_1)))]))) (fun t k => st4 t k) ?_
  obtain ⟨r14_5, hr14_5⟩ : ∃ z : Int64, z = ((if y4_5_1 < x14_3 then x14_3 else y4_5_1)) := ⟨_, rfl⟩
  refine Gl.cast (B := (T4.setTop (mkF m 17 L2 [(.long r14_5)]))) (by rw [hr14_5]) ?_
  obtain ⟨L6, hL6⟩ : ∃ z : Array Slot, z = #[.val (.long q1), .second, .val (.long q2), .second, .val (.long y4_5_1), .second, .val (.long r14_5), .second, .unset, .unset, .unset, .unset] := ⟨_, rfl⟩
  refine Gl.st (B := (T4.setTop (mkF m 19 L6 []))) (fun t k => XS.lstore X4.here hx rfl (hb hby at_17) rfl (l' := L6) (stAt hL2 hL6 rfl rfl) k) ?_
  obtain ⟨T7, h7, X7, e7, E7, A7, D7, -, st7⟩ := newO X4 hx hZ hown (tw hw 5 rfl) (tw hw 6 rfl) (tw hw 7 rfl) eh4 (g := (mkF m 19 L6 [])) rfl (hb hby at_19) (by decide) (by decide)
  obtain ⟨b7, gq7⟩ : ∃ z, z = h0.size := ⟨_, rfl⟩
  rw [← gq7] at A7 D7 st7
  have g_b7 : n0 ≤ b7 := Nat.le_trans Z0 (Nat.le_of_eq gq7.symm)
  have Zc8 : n0 ≤ h7.size := Nat.le_trans Z0 E7.1
  have F7_min : Fld Z h7 b7 "com/example/idem1/idem1/ByteRange" "min" "J" (.long (0 : Int64)) := D7 (Or.inr (tw hw 20 rfl)) (ty := .long) (by decide)
  have F7_max : Fld Z h7 b7 "com/example/idem1/idem1/ByteRange" "max" "J" (.long (0 : Int64)) := D7 (Or.inr (tw hw 22 rfl)) (ty := .long) (by decide)
  refine Gl.st (B := (T7.setTop (mkF m 22 L6 [(.ref b7)]))) st7 ?_
  refine Gl.st (B := (T7.setTop (mkF m 23 L6 [(.ref b7), (.ref b7)]))) (fun t k => XS.dup X7.here hx rfl (hb hby at_22) rfl rfl k) ?_
  refine Gl.st (B := (T7.setTop (mkF m 25 L6 [(.long y4_5_1), (.ref b7), (.ref b7)]))) (fun t k => XS.lload X7.here hx rfl (hb hby at_23) (ldAt hL6 rfl) k) ?_
  refine Gl.st (B := (T7.setTop (mkF m 27 L6 [(.long r14_5), (.long y4_5_1), (.ref b7), (.ref b7)]))) (fun t k => XS.lload X7.here hx rfl (hb hby at_25) (ldAt hL6 rfl) k) ?_
  obtain ⟨_, _, ⟨T9, L9q, k9, n9⟩, -, X9, ⟨Lc9, hQ9, l9, y9, z9⟩, st9⟩ := X7.specialBack hx (y := (⟨"com/example/idem1/idem1/ByteRange", "<init>", "(JJ)V"⟩ : MethodName)) rfl hown (mvT hZ (tw hw 8 rfl)) (mvT hZ (tw hw 9 rfl)) (mvT hZ (tw hw 10 rfl)) (by decide) (backOf (W := 1) (rm2 l Z a0 hw [] b7 y4_5_1 r14_5 ((.long (0 : Int64))) ((.long (0 : Int64))) h7 n0 Zc8 A7 F7_min g_b7 F7_max) hZ (tw hw 10 rfl) (tw hw 7 rfl) (by decide) (by decide)) (g := (mkF m 27 L6 [(.long r14_5), (.long y4_5_1), (.ref b7), (.ref b7)])) rfl (szAt hml hL6 rfl) (Steps.refl _) (a := b7) (argsL := [(.long y4_5_1), (.long r14_5)]) (rest := [(.ref b7)]) (lenOf pd_0_1 rfl) rfl (by show 2 * 0 + _ ≤ _; exact Nat.le_of_eq rfl) (hb hby at_27) (fun _ _ => ⟨rfl, e7, (by decide : 1 + 0 ≤ _), (by decide : 2 + 0 ≤ _)⟩)
  dsimp only [Pt.U, Pt.locs, Pt.cells, Pt.slots] at X9 l9 y9 z9 st9 hQ9
  subst l9 y9 z9
  obtain ⟨rfl, N9q, Kc9, fq9_0, fq9_1, fq9_2⟩ := hQ9
  have Zc10 : n0 ≤ T9.heap.size := Nat.le_trans Zc8 Kc9.1
  have N9 := Fr.app N4 N9q
  refine Gl.st (B := (T9.setTop (mkF m 30 L6 [(.ref b7)]))) (fun t k => st9.trans k) ?_
  obtain ⟨L11, hL11⟩ : ∃ z : Array Slot, z = #[.val (.long q1), .second, .val (.long q2), .second, .val (.long y4_5_1), .second, .val (.long r14_5), .second, .val (.ref b7), .unset, .unset, .unset] := ⟨_, rfl⟩
  refine Gl.st (B := (T9.setTop (mkF m 32 L11 []))) (fun t k => XS.astore X9.here hx rfl (hb hby at_30) rfl rfl (l' := L11) (stAt hL6 hL11 rfl rfl) k) ?_
  obtain ⟨T12, h12, X12, e12, E12, A12, D12, -, st12⟩ := newO X9 hx hZ hown (tw hw 5 rfl) (tw hw 6 rfl) (tw hw 7 rfl) rfl (g := (mkF m 32 L11 [])) rfl (hb hby at_32) (by decide) (by decide)
  obtain ⟨b12, gq12⟩ : ∃ z, z = T9.heap.size := ⟨_, rfl⟩
  rw [← gq12] at A12 D12 st12
  have g_b12 : n0 ≤ b12 := Nat.le_trans Zc10 (Nat.le_of_eq gq12.symm)
  have Zc13 : n0 ≤ h12.size := Nat.le_trans Zc10 E12.1
  have F12_min : Fld Z h12 b12 "com/example/idem1/idem1/ByteRange" "min" "J" (.long (0 : Int64)) := D12 (Or.inr (tw hw 20 rfl)) (ty := .long) (by decide)
  have F12_max : Fld Z h12 b12 "com/example/idem1/idem1/ByteRange" "max" "J" (.long (0 : Int64)) := D12 (Or.inr (tw hw 22 rfl)) (ty := .long) (by decide)
  refine Gl.st (B := (T12.setTop (mkF m 35 L11 [(.ref b12)]))) st12 ?_
  refine Gl.st (B := (T12.setTop (mkF m 36 L11 [(.ref b12), (.ref b12)]))) (fun t k => XS.dup X12.here hx rfl (hb hby at_35) rfl rfl k) ?_
  refine Gl.st (B := (T12.setTop (mkF m 39 L11 [(.long (-1 : Int64)), (.ref b12), (.ref b12)]))) (fun t k => X12.ldc2Long hx hown (mvT hZ (tw hw 23 rfl)) (g := (mkF m 36 L11 [(.ref b12), (.ref b12)])) rfl (hb hby at_36) _ k) ?_
  refine Gl.st (B := (T12.setTop (mkF m 42 L11 [(.long (-1 : Int64)), (.long (-1 : Int64)), (.ref b12), (.ref b12)]))) (fun t k => X12.ldc2Long hx hown (mvT hZ (tw hw 23 rfl)) (g := (mkF m 39 L11 [(.long (-1 : Int64)), (.ref b12), (.ref b12)])) rfl (hb hby at_39) _ k) ?_
  obtain ⟨_, _, ⟨T14, L14q, k14, n14⟩, -, X14, ⟨Lc14, hQ14, l14, y14, z14⟩, st14⟩ := X12.specialBack hx (y := (⟨"com/example/idem1/idem1/ByteRange", "<init>", "(JJ)V"⟩ : MethodName)) rfl hown (mvT hZ (tw hw 8 rfl)) (mvT hZ (tw hw 9 rfl)) (mvT hZ (tw hw 10 rfl)) (by decide) (backOf (W := 1) (rm2 l Z a0 hw [] b12 (-1 : Int64) (-1 : Int64) ((.long (0 : Int64))) ((.long (0 : Int64))) h12 n0 Zc13 A12 F12_min g_b12 F12_max) hZ (tw hw 10 rfl) (tw hw 7 rfl) (by decide) (by decide)) (g := (mkF m 42 L11 [(.long (-1 : Int64)), (.long (-1 : Int64)), (.ref b12), (.ref b12)])) rfl (szAt hml hL11 rfl) (Steps.refl _) (a := b12) (argsL := [(.long (-1 : Int64)), (.long (-1 : Int64))]) (rest := [(.ref b12)]) (lenOf pd_0_1 rfl) rfl (by show 2 * 0 + _ ≤ _; exact Nat.le_of_eq rfl) (hb hby at_42) (fun _ _ => ⟨rfl, e12, (by decide : 2 + 0 ≤ _), (by decide : 4 + 0 ≤ _)⟩)
  dsimp only [Pt.U, Pt.locs, Pt.cells, Pt.slots] at X14 l14 y14 z14 st14 hQ14
  subst l14 y14 z14
  obtain ⟨rfl, N14q, Kc14, fq14_0, fq14_1, fq14_2⟩ := hQ14
  have Zc15 : n0 ≤ T14.heap.size := Nat.le_trans Zc13 Kc14.1
  have N14 := Fr.app N9 N14q
  refine Gl.st (B := (T14.setTop (mkF m 45 L11 [(.ref b12)]))) (fun t k => st14.trans k) ?_
  obtain ⟨L16, hL16⟩ : ∃ z : Array Slot, z = #[.val (.long q1), .second, .val (.long q2), .second, .val (.long y4_5_1), .second, .val (.long r14_5), .second, .val (.ref b7), .val (.ref b12), .unset, .unset] := ⟨_, rfl⟩
  refine Gl.st (B := (T14.setTop (mkF m 47 L16 []))) (fun t k => XS.astore X14.here hx rfl (hb hby at_45) rfl rfl (l' := L16) (stAt hL11 hL16 rfl rfl) k) ?_
  refine Gl.st (B := (T14.setTop (mkF m 49 L16 [(.ref b12)]))) (fun t k => XS.aload X14.here hx rfl (hb hby at_47) (ldAt hL16 rfl) rfl k) ?_
  obtain ⟨cq17, kq17, q17a, q17b, q17c⟩ := isOf hZ rfl fq14_0
  obtain ⟨_, _, ⟨T17, L17q, k17, n17⟩, -, X17, ⟨Lc17, hQ17, l17, y17, z17⟩, st17⟩ := X14.virtualBack hx (y := (⟨"com/example/idem1/idem1/ByteRange", "isNone", "()Z"⟩ : MethodName)) (z := (⟨"com/example/idem1/idem1/ByteRange", "isNone", "()Z"⟩ : MethodName)) hown (mvT hZ (tw hw 24 rfl)) (mvT hZ (tw hw 25 rfl)) (notFace_of_selects (args := #[]) (mvT hZ (tw hw 27 rfl))) (mvT hZ (tw hw 27 rfl)) (mvT hZ (tw hw 26 rfl)) (by decide) (backOf (W := 0) (rm5 l Z a0 hw [] b12 (-1 : Int64) T14.heap n0 Zc15 fq14_1) hZ (tw hw 28 rfl) (tw hw 7 rfl) (by decide) (by decide)) q17a q17c (g := (mkF m 49 L16 [(.ref b12)])) rfl (szAt hml hL16 rfl) (Steps.refl _) (argsL := []) (rest := []) (lenOf pd_0_2 rfl) rfl (by show 2 * 0 + _ ≤ _; exact Nat.le_of_eq rfl) (hb hby at_49) (fun _ _ => ⟨rfl, rfl, (by decide : 2 + 0 ≤ _), (by decide : 4 + 0 ≤ _)⟩)
  dsimp only [Pt.U, Pt.locs, Pt.cells, Pt.slots] at X17 l17 y17 z17 st17 hQ17
  subst l17 y17 z17
  obtain ⟨rfl, N17q, eh17⟩ := hQ17
  have N17 := Fr.app N14 N17q
  refine Gl.st (B := (T17.setTop (mkF m 52 L16 [(.int ((if (-1 : Int64) < (0 : Int64) then (1 : Int32) else (0 : Int32))))]))) (fun t k => st17.trans k) ?_
  refine Gl.cast (B := (T17.setTop (mkF m 52 L16 [(.int (1 : Int32))]))) (by rw [if_pos (by decide : (-1 : Int64) < (0 : Int64))]) ?_
  refine Gl.st (B := (T17.setTop (mkF m 55 L16 []))) (fun t k => XS.ifNo X17.here hx rfl (hb hby at_52) rfl (by decide) k) ?_
  have c18 := (own_sta_keep ((own_sta_keep (S_NONE.ext E7) Kc9 (allS (own_exa_plain A7) all0)).ext E12) Kc14 (allS (own_exa_plain A12) all0))
  obtain ⟨T19, X19, e19, st19⟩ := getS2 X17 hx hZ hown (host := "") (Or.inl (tw hw 29 rfl)) Via.refl eh17 c18 (g := (mkF m 55 L16 [])) rfl (hb hby at_55)
  refine Gl.st (B := (T19.setTop (mkF m 58 L16 [(.ref z_NONE)]))) st19 ?_
  have ne_z_NONE_b7_21 : z_NONE ≠ b7 := Nat.ne_of_lt (Nat.lt_of_lt_of_le F_min_z_NONE.lt (Nat.le_of_eq gq7.symm))
  have ne_z_NONE_b12_22 : z_NONE ≠ b12 := Nat.ne_of_lt (Nat.lt_of_lt_of_le F_min_z_NONE.lt (Nat.le_trans E7.1 (Nat.le_trans Kc9.1 (Nat.le_of_eq gq12.symm))))
  have c23 := ((((F_min_z_NONE.ext E7).keep Kc9 (ninS ne_z_NONE_b7_21 nin0)).ext E12).keep Kc14 (ninS ne_z_NONE_b12_22 nin0))
  have c24 := ((((E_z_NONE.ext E7).keep Kc9).ext E12).keep Kc14)
  obtain ⟨cq20, kq20, q20a, q20b, q20c⟩ := isOf hZ e19 c24
  obtain ⟨_, _, ⟨T20, L20q, k20, n20⟩, -, X20, ⟨Lc20, hQ20, l20, y20, z20⟩, st20⟩ := X19.virtualBack hx (y := (⟨"com/example/idem1/idem1/ByteRange", "isNone", "()Z"⟩ : MethodName)) (z := (⟨"com/example/idem1/idem1/ByteRange", "isNone", "()Z"⟩ : MethodName)) hown (mvT hZ (tw hw 24 rfl)) (mvT hZ (tw hw 25 rfl)) (notFace_of_selects (args := #[]) (mvT hZ (tw hw 27 rfl))) (mvT hZ (tw hw 27 rfl)) (mvT hZ (tw hw 26 rfl)) (by decide) (backOf (W := 0) (rm5 l Z a0 hw [] z_NONE (-1 : Int64) T14.heap n0 Zc15 c23) hZ (tw hw 28 rfl) (tw hw 7 rfl) (by decide) (by decide)) q20a q20c (g := (mkF m 58 L16 [(.ref z_NONE)])) rfl (szAt hml hL16 rfl) (Steps.refl _) (argsL := []) (rest := []) (lenOf pd_0_2 rfl) rfl (by show 2 * 0 + _ ≤ _; exact Nat.le_of_eq rfl) (hb hby at_58) (fun _ _ => ⟨rfl, e19, (by decide : 2 + 0 ≤ _), (by decide : 4 + 0 ≤ _)⟩)
  dsimp only [Pt.U, Pt.locs, Pt.cells, Pt.slots] at X20 l20 y20 z20 st20 hQ20
  subst l20 y20 z20
  obtain ⟨rfl, N20q, eh20⟩ := hQ20
  have N20 := Fr.app N17 N20q
  refine Gl.st (B := (T20.setTop (mkF m 61 L16 [(.int ((if (-1 : Int64) < (0 : Int64) then (1 : Int32) else (0 : Int32))))]))) (fun t k => st20.trans k) ?_
  refine Gl.cast (B := (T20.setTop (mkF m 61 L16 [(.int (1 : Int32))]))) (by rw [if_pos (by decide : (-1 : Int64) < (0 : Int64))]) ?_
  refine Gl.st (B := (T20.setTop (mkF m 64 L16 []))) (fun t k => XS.ifNo X20.here hx rfl (hb hby at_61) rfl (by decide) k) ?_
  refine Gl.st (B := (T20.setTop (mkF m 65 L16 [(.int (1 : Int32))]))) (fun t k => XS.iconst X20.here hx rfl (hb hby at_64) k) ?_
  refine Gl.st (B := (T20.setTop (mkF m 69 L16 [(.int (1 : Int32))]))) (fun t k => XS.goto X20.here hx rfl (pc0 := 65) (pc' := 69) rfl (hb hby at_65) (by decide) (by decide) k) ?_
  obtain ⟨L25, hL25⟩ : ∃ z : Array Slot, z = #[.val (.long q1), .second, .val (.long q2), .second, .val (.long y4_5_1), .second, .val (.long r14_5), .second, .val (.ref b7), .val (.ref b12), .val (.int (1 : Int32)), .unset] := ⟨_, rfl⟩
  refine Gl.st (B := (T20.setTop (mkF m 71 L25 []))) (fun t k => XS.istore X20.here hx rfl (hb hby at_69) rfl (l' := L25) (stAt hL16 hL25 rfl rfl) k) ?_
  refine Gl.st (B := (T20.setTop (mkF m 73 L25 [(.ref b7)]))) (fun t k => XS.aload X20.here hx rfl (hb hby at_71) (ldAt hL25 rfl) rfl k) ?_
  have ne_b7_b12_27 : b7 ≠ b12 := Nat.ne_of_lt (Nat.lt_of_lt_of_le A7.lt (Nat.le_trans Kc9.1 (Nat.le_of_eq gq12.symm)))
  have c28 := ((fq9_1.ext E12).keep Kc14 (ninS ne_b7_b12_27 nin0))
  have c29 := ((fq9_0.ext E12).keep Kc14)
  obtain ⟨cq26, kq26, q26a, q26b, q26c⟩ := isOf hZ eh20 c29
  obtain ⟨_, _, ⟨T26, L26q, k26, n26⟩, -, X26, ⟨Lc26, hQ26, l26, y26, z26⟩, st26⟩ := X20.virtualBack hx (y := (⟨"com/example/idem1/idem1/ByteRange", "isNone", "()Z"⟩ : MethodName)) (z := (⟨"com/example/idem1/idem1/ByteRange", "isNone", "()Z"⟩ : MethodName)) hown (mvT hZ (tw hw 24 rfl)) (mvT hZ (tw hw 25 rfl)) (notFace_of_selects (args := #[]) (mvT hZ (tw hw 27 rfl))) (mvT hZ (tw hw 27 rfl)) (mvT hZ (tw hw 26 rfl)) (by decide) (backOf (W := 0) (rm5 l Z a0 hw [] b7 y4_5_1 T14.heap n0 Zc15 c28) hZ (tw hw 28 rfl) (tw hw 7 rfl) (by decide) (by decide)) q26a q26c (g := (mkF m 73 L25 [(.ref b7)])) rfl (szAt hml hL25 rfl) (Steps.refl _) (argsL := []) (rest := []) (lenOf pd_0_2 rfl) rfl (by show 2 * 0 + _ ≤ _; exact Nat.le_of_eq rfl) (hb hby at_73) (fun _ _ => ⟨rfl, eh20, (by decide : 2 + 0 ≤ _), (by decide : 4 + 0 ≤ _)⟩)
  dsimp only [Pt.U, Pt.locs, Pt.cells, Pt.slots] at X26 l26 y26 z26 st26 hQ26
  subst l26 y26 z26
  obtain ⟨rfl, N26q, eh26⟩ := hQ26
  have N26 := Fr.app N20 N26q
  refine Gl.st (B := (T26.setTop (mkF m 76 L25 [(.int ((if y4_5_1 < (0 : Int64) then (1 : Int32) else (0 : Int32))))]))) (fun t k => st26.trans k) ?_
  obtain ⟨r73_30, hr73_30⟩ : ∃ z : Int32, z = ((if y4_5_1 < (0 : Int64) then (1 : Int32) else (0 : Int32))) := ⟨_, rfl⟩
  refine Gl.cast (B := (T26.setTop (mkF m 76 L25 [(.int r73_30)]))) (by rw [hr73_30]) ?_
  have hc76_31 : r73_30 = (0 : Int32) := own_0_hc76_31 q1 y4_5_1 r73_30 hy4_5_1 hr73_30 
  refine Gl.st (B := (T26.setTop (mkF m 79 L25 []))) (fun t k => XS.ifNo X26.here hx rfl (hb hby at_76) rfl ((if0 _ _).trans (teq hc76_31).2) k) ?_
  refine Gl.st (B := (T26.setTop (mkF m 80 L25 [(.int (1 : Int32))]))) (fun t k => XS.iconst X26.here hx rfl (hb hby at_79) k) ?_
  refine Gl.st (B := (T26.setTop (mkF m 84 L25 [(.int (1 : Int32))]))) (fun t k => XS.goto X26.here hx rfl (pc0 := 80) (pc' := 84) rfl (hb hby at_80) (by decide) (by decide) k) ?_
  obtain ⟨L32, hL32⟩ : ∃ z : Array Slot, z = #[.val (.long q1), .second, .val (.long q2), .second, .val (.long y4_5_1), .second, .val (.long r14_5), .second, .val (.ref b7), .val (.ref b12), .val (.int (1 : Int32)), .val (.int (1 : Int32))] := ⟨_, rfl⟩
  refine Gl.st (B := (T26.setTop (mkF m 86 L32 []))) (fun t k => XS.istore X26.here hx rfl (hb hby at_84) rfl (l' := L32) (stAt hL25 hL32 rfl rfl) k) ?_
  refine Gl.st (B := (T26.setTop (mkF m 88 L32 [(.int (1 : Int32))]))) (fun t k => XS.iload X26.here hx rfl (hb hby at_86) (ldAt hL32 rfl) k) ?_
  refine Gl.st (B := (T26.setTop (mkF m 91 L32 []))) (fun t k => XS.ifNo X26.here hx rfl (hb hby at_88) rfl (by decide) k) ?_
  refine Gl.st (B := (T26.setTop (mkF m 93 L32 [(.int (1 : Int32))]))) (fun t k => XS.iload X26.here hx rfl (hb hby at_91) (ldAt hL32 rfl) k) ?_
  refine Gl.st (B := (T26.setTop (mkF m 96 L32 []))) (fun t k => XS.ifNo X26.here hx rfl (hb hby at_93) rfl (by decide) k) ?_
  refine Gl.st (B := (T26.setTop (mkF m 97 L32 [(.int (1 : Int32))]))) (fun t k => XS.iconst X26.here hx rfl (hb hby at_96) k) ?_
  refine Gl.st (B := (T26.setTop (mkF m 101 L32 [(.int (1 : Int32))]))) (fun t k => XS.goto X26.here hx rfl (pc0 := 97) (pc' := 101) rfl (hb hby at_97) (by decide) (by decide) k) ?_
  obtain ⟨fs, hr, hrun, hended, hW, hsame⟩ := X26.leave (v := some (.int (nar .boolean (1 : Int32)))) (fun h => by rw [Bd.returns] at h; cases h)
  refine Gl.fin (retN X26 hx (t := .boolean) Bd.returns (by simp) (hb hby at_101) hr) hrun hended ⟨_, _, rfl, ?_, ⟨_, rfl⟩, hW, hsame.mono (by decide) (by decide)⟩
  show Q0 Z q1 q2 z_NONE h0 n0 _ T26.heap _
  rw [eh26]
  exact ⟨rfl, N26⟩
set_option maxRecDepth 65536 in
set_option maxHeartbeats 40000000 in
theorem comes_1 {Post : Tables → Env → Array Value → State → Outcome → State → Prop} (hpost : ∀ tb e args s v u, (limb_1_1.after args s (.returned v) u = true ∧ limb_1_2.after args s (.returned v) u = true ∧ True) → FrameEnd s (.returned v) u (Jvm.fieldLocs frame_1_writes args s ++ Jvm.arrayLocs frame_1_arrays args s ++ Jvm.staticLocs frame_1_statics s) 16 128 → Post tb e args s (.returned v) u) :
    ArmFor flags0 classFile x code maxLocals ret World_1 tables_1 room_1 Calls_1 rest_1 Pre_1 Post := by
  intro l hfl _ _ p e ha hc hk s m args below hf hA hF happ hP
  obtain ⟨hcalls, hrest, hpre⟩ := hP
  obtain ⟨-, -, -, hnamed, -, -, -, hat⟩ := (Spec.applies_iff hf).mp happ
  obtain ⟨hg, hn⟩ := and_e (Cond.before_iff.mp (show (Jvm.Cond.and given_1 narrow_1).before args s = true from hpre))
  obtain ⟨g1, g2⟩ := and_e hg
  obtain ⟨g3, g4⟩ := and_e g2
  obtain ⟨w0, w1, rfl⟩ : ∃ w0 w1 : Value, args = #[w0, w1] := by
    have hs : args.size = 2 := by simpa [Cond.value, given_1] using g1
    obtain ⟨L⟩ := args
    match L, hs with
    | [w0, w1], _ => exact ⟨w0, w1, rfl⟩
  have hw := fun d (hd : d ∈ tables_1) => atoms_spec (ws := Jvm.Cond.code x code maxLocals ret :: tables_1) hat d (List.mem_cons_of_mem _ hd)
  have hfit : Fit s := fun {y c} hc i hi => by
    obtain ⟨ha, rfl⟩ := Array.getElem?_eq_some_iff.mp hc
    have q := List.all_eq_true.mp ((Array.all_eq_true_iff_forall_mem.mp hF) _ (Array.getElem_mem ha)) i (List.mem_range.mpr hi)
    simpa [Array.getElem?_eq_getElem hi] using q
  obtain ⟨i0, ei0⟩ := isL_v g3
  obtain rfl : w0 = (.long i0) := Option.some.inj ei0
  obtain ⟨i1, ei1⟩ := isL_v g4
  obtain rfl : w1 = (.long i1) := Option.some.inj ei1
  obtain ⟨g5, g6⟩ := and_e hn
  obtain ⟨z_NONE, ez_NONE⟩ := exa_v g5
  have Sz_NONE : Sta s s.heap "com/example/idem1/idem1/ByteRange" "NONE" "Lcom/example/idem1/idem1/ByteRange;" (.ref z_NONE) := Sta.start ez_NONE (Or.inr ⟨(tw hw 7 rfl), (tw hw 30 rfl)⟩)
  have Ez_NONE : Exa s s.heap z_NONE "com/example/idem1/idem1/ByteRange" := Exa.start ez_NONE g5
  have F_min_z_NONE : Fld s s.heap z_NONE "com/example/idem1/idem1/ByteRange" "min" "J" (.long (-1 : Int64)) := Fld.start ((fld_at ez_NONE).symm.trans (own_eqL g6))
  obtain ⟨n, o, h1, h2, h3, _, L, rfl, ⟨rfl, N⟩, hq⟩ := rm0 l s _ hw tables_1 i0 i1 z_NONE s.heap s.heap.size (Nat.le_refl _) Sz_NONE F_min_z_NONE Ez_NONE p e ha hc hk s m _ below hf ((Spec.applies_iff_loose hf).mp happ).1 ⟨rfl, State.Warmed39.refl s, rfl⟩ trivial
  refine ⟨n, _, h1, h2, h3, hpost _ _ _ _ _ _ ⟨Cond.after_iff.mpr rfl, Cond.after_iff.mpr (eq_i res_at (Term.int_eval (1)) rfl), trivial⟩ ⟨hq.1, hq.2.1, (hq.2.2.sift fun y hy => Or.inr (N y hy)).mono (by decide) (by decide)⟩⟩
theorem main_1_1 : Claimed_1_1 := comes_1 fun _ _ _ _ _ _ h hF => ⟨h.1, hF⟩
theorem main_1_2 : Claimed_1_2 := comes_1 fun _ _ _ _ _ _ h hF => ⟨h.2.1, hF⟩
end Jvm.Pilot.@@N@@
namespace Jvm.Pilot.@@N@@
open Jvm Jvm.ClassFile Sem Op Lib Jvm.Free Jvm.Stand Jvm.Pilot.@@N@@.Jvm.D
/-! MADE BY PROGRAM (witnessworld.py) out of the Statement's table words and the real class files: 11 classes; the members and pool entries that the words name. The judged class is class 1, her method 1. -/
namespace start1
open Jvm.ClassFile
def u (s : String) : CpInfo := .utf8 (stringToUtf16 s)
/-- a pool by its gaps: so many unusable entries, then the entry; so many at the end -/
def gap : Nat → List CpInfo → List CpInfo
  | 0, r => r
  | n + 1, r => .unusable :: gap n r
def poolList (es : List (Nat × CpInfo)) (last : Nat) : List CpInfo := es.foldr (fun e r => gap e.1 (e.2 :: r)) (gap last [])
def pool (es : List (Nat × CpInfo)) (last : Nat) : Array CpInfo := ⟨poolList es last⟩
def fileOf (pool : Array CpInfo) (this : Nat) (attrs : Array Attribute := #[]) (ms : Array MethodInfo := #[]) (fl : Nat := 33) (sup : Nat := 0) (ifs : Array Nat := #[]) (fds : Array FieldInfo := #[]) : ClassFile where
  minorVersion := 0
  majorVersion := 65
  constantPool := pool
  accessFlags := fl
  thisClass := this
  superClass := sup
  interfaces := ifs
  fields := fds
  methods := ms
  attributes := attrs
def plain (name : String) (sup : Option ClassId) : Class where
  name := name
  kind := .ordinary
  loader := none
  accessFlags := 33
  super := sup
  interfaces := #[]
  cf := none
  fields := #[]
  methods := #[]
  instanceTypes := #[]
  staticTypes := #[]
  resolved := #[]
  callSites := []
  init := .initialized
  statics := none
  mirror := none

def pool0 : Array CpInfo := pool [(5, u "<init>"), (0, u "()V"), (1, .class_ 10), (1, u "java/lang/Object")] 113

def k0c0 : Code := { maxStack := 0, maxLocals := 1, code := object_method_1_code, exceptionTable := #[], attributes := #[] }
def k0m0 : Method := { name := "<init>", desc := "()V", sig := { parameters := [], returnType := none }, accessFlags := 1, code := some k0c0 }
/-- java/lang/Object -/
def k0 : Class := { plain "java/lang/Object" none with
  accessFlags := 33
  interfaces := #[]
  cf := some (fileOf pool0 8 #[] #[{ accessFlags := 1, nameIndex := 5, descriptorIndex := 6, attributes := #[] }] 33 0 #[] #[])
  fields := #[]
  methods := #[k0m0]
  instanceTypes := #[]
  staticTypes := #[]
  resolved := Array.replicate 124 none
  statics := none }

def pool1 : Array CpInfo := pool [(2, .class_ 4), (1, u "java/lang/Object"), (0, u "<init>"), (0, u "()V"), (2, .long 9223372036854775807), (1, .methodref 12 13), (0, .class_ 14), (0, .nameAndType 15 16), (0, u "java/lang/Math"), (0, u "max"), (0, u "(JJ)J"), (0, .class_ 18), (0, u "com/example/idem1/idem1/ByteRange"), (0, .methodref 17 20), (0, .nameAndType 5 21), (0, u "(JJ)V"), (0, .long 18446744073709551615), (1, .methodref 17 25), (0, .nameAndType 26 27), (0, u "isNone"), (0, u "()Z"), (0, .fieldref 17 29), (0, .nameAndType 30 31), (0, u "NONE"), (0, u "Lcom/example/idem1/idem1/ByteRange;"), (0, .class_ 33), (0, u "com/example/idem1/idem1/ByteRangeIsNonePinLaw"), (2, u "law"), (0, u "(JJ)Z")] 3

def k1m0 : Method := { name := "<init>", desc := "()V", sig := { parameters := [], returnType := none }, accessFlags := 1, code := none }
def k1c1 : Code := { maxStack := 6, maxLocals := 12, code := code, exceptionTable := #[], attributes := #[] }
def k1m1 : Method := { name := "law", desc := "(JJ)Z", sig := { parameters := [.long, .long], returnType := some .boolean }, accessFlags := 9, code := some k1c1 }
/-- com/example/idem1/idem1/ByteRangeIsNonePinLaw -/
def k1 : Class := { plain "com/example/idem1/idem1/ByteRangeIsNonePinLaw" (some 0) with
  accessFlags := 49
  interfaces := #[]
  cf := some (fileOf pool1 32 #[] #[{ accessFlags := 1, nameIndex := 5, descriptorIndex := 6, attributes := #[] }, { accessFlags := 9, nameIndex := 36, descriptorIndex := 37, attributes := #[] }] 49 2 #[] #[])
  fields := #[]
  methods := #[k1m0, k1m1]
  instanceTypes := #[]
  staticTypes := #[]
  resolved := Array.replicate 41 none
  statics := none }

def pool2 : Array CpInfo := pool [(1, .class_ 2), (0, u "java/lang/Math"), (1, .class_ 6), (1, u "java/lang/Object"), (0, u "<init>"), (0, u "()V"), (89, .class_ 100), (1, u "java/lang/Math$RandomNumberGeneratorHolder"), (20, u "(JJ)J"), (50, u "negativeZeroFloatBits"), (0, u "J"), (2, u "negativeZeroDoubleBits"), (21, u "max"), (46, u "$assertionsDisabled"), (0, u "Z"), (91, u "twoToTheDoubleScaleDown"), (0, u "D"), (4, u "twoToTheDoubleScaleUp"), (9, u "E"), (3, u "PI"), (2, u "TAU"), (2, u "DEGREES_TO_RADIANS"), (0, u "RADIANS_TO_DEGREES")] 94

def k2m0 : Method := { name := "<init>", desc := "()V", sig := { parameters := [], returnType := none }, accessFlags := 2, code := none }
def k2c1 : Code := { maxStack := 4, maxLocals := 4, code := jdk_29_method_66_code, exceptionTable := #[], attributes := #[] }
def k2m1 : Method := { name := "max", desc := "(JJ)J", sig := { parameters := [.long, .long], returnType := some .long }, accessFlags := 9, code := some k2c1 }
/-- java/lang/Math -/
def k2 : Class := { plain "java/lang/Math" (some 0) with
  accessFlags := 49
  interfaces := #[]
  cf := some (fileOf pool2 1 #[.nestMembers #[98]] #[{ accessFlags := 2, nameIndex := 7, descriptorIndex := 8, attributes := #[] }, { accessFlags := 9, nameIndex := 198, descriptorIndex := 121, attributes := #[] }] 49 4 #[] #[{ accessFlags := 25, nameIndex := 354, descriptorIndex := 339, attributes := #[] }, { accessFlags := 25, nameIndex := 358, descriptorIndex := 339, attributes := #[] }, { accessFlags := 25, nameIndex := 361, descriptorIndex := 339, attributes := #[] }, { accessFlags := 26, nameIndex := 364, descriptorIndex := 339, attributes := #[] }, { accessFlags := 26, nameIndex := 365, descriptorIndex := 339, attributes := #[] }, { accessFlags := 26, nameIndex := 172, descriptorIndex := 173, attributes := #[] }, { accessFlags := 26, nameIndex := 176, descriptorIndex := 173, attributes := #[] }, { accessFlags := 8, nameIndex := 344, descriptorIndex := 339, attributes := #[] }, { accessFlags := 8, nameIndex := 338, descriptorIndex := 339, attributes := #[] }, { accessFlags := 4120, nameIndex := 245, descriptorIndex := 246, attributes := #[] }])
  fields := #[{ name := "E", type := .double, accessFlags := 25, slot := 0, constantValue := 0 }, { name := "PI", type := .double, accessFlags := 25, slot := 1, constantValue := 0 }, { name := "TAU", type := .double, accessFlags := 25, slot := 2, constantValue := 0 }, { name := "DEGREES_TO_RADIANS", type := .double, accessFlags := 26, slot := 3, constantValue := 0 }, { name := "RADIANS_TO_DEGREES", type := .double, accessFlags := 26, slot := 4, constantValue := 0 }, { name := "negativeZeroFloatBits", type := .long, accessFlags := 26, slot := 5, constantValue := 0 }, { name := "negativeZeroDoubleBits", type := .long, accessFlags := 26, slot := 6, constantValue := 0 }, { name := "twoToTheDoubleScaleUp", type := .double, accessFlags := 8, slot := 7, constantValue := 0 }, { name := "twoToTheDoubleScaleDown", type := .double, accessFlags := 8, slot := 8, constantValue := 0 }, { name := "$assertionsDisabled", type := .boolean, accessFlags := 4120, slot := 9, constantValue := 0 }]
  methods := #[k2m0, k2m1]
  instanceTypes := #[]
  staticTypes := #[.double, .double, .double, .double, .double, .long, .long, .double, .double, .boolean]
  resolved := Array.replicate 460 none
  statics := none }

def pool3 : Array CpInfo := pool [(1, .methodref 2 3), (0, .class_ 4), (0, .nameAndType 5 6), (0, u "java/lang/Object"), (0, u "<init>"), (0, u "()V"), (0, .class_ 8), (0, u "java/lang/Record")] 13

def k3c0 : Code := { maxStack := 1, maxLocals := 1, code := jdk_30_method_1_code, exceptionTable := #[], attributes := #[] }
def k3m0 : Method := { name := "<init>", desc := "()V", sig := { parameters := [], returnType := none }, accessFlags := 4, code := some k3c0 }
/-- java/lang/Record -/
def k3 : Class := { plain "java/lang/Record" (some 0) with
  accessFlags := 1057
  interfaces := #[]
  cf := some (fileOf pool3 7 #[] #[{ accessFlags := 4, nameIndex := 5, descriptorIndex := 6, attributes := #[] }] 1057 2 #[] #[])
  fields := #[]
  methods := #[k3m0]
  instanceTypes := #[]
  staticTypes := #[]
  resolved := Array.replicate 22 none
  statics := none }

def pool4 : Array CpInfo := pool [(1, .methodref 2 3), (0, .class_ 4), (0, .nameAndType 5 6), (0, u "java/lang/Record"), (0, u "<init>"), (0, u "()V"), (0, .fieldref 8 9), (0, .class_ 10), (0, .nameAndType 11 12), (0, u "com/example/idem1/idem1/ByteRange"), (0, u "min"), (0, u "J"), (0, .fieldref 8 14), (0, .nameAndType 15 12), (0, u "max"), (2, u "isNone"), (0, u "()Z"), (2, u "(JJ)V"), (27, u "NONE"), (0, u "Lcom/example/idem1/idem1/ByteRange;")] 34

def k4c0 : Code := { maxStack := 3, maxLocals := 5, code := prog_2_method_1_code, exceptionTable := #[], attributes := #[] }
def k4m0 : Method := { name := "<init>", desc := "(JJ)V", sig := { parameters := [.long, .long], returnType := none }, accessFlags := 0, code := some k4c0 }
def k4c1 : Code := { maxStack := 4, maxLocals := 1, code := prog_2_method_2_code, exceptionTable := #[], attributes := #[] }
def k4m1 : Method := { name := "isNone", desc := "()Z", sig := { parameters := [], returnType := some .boolean }, accessFlags := 0, code := some k4c1 }
/-- com/example/idem1/idem1/ByteRange -/
def k4 : Class := { plain "com/example/idem1/idem1/ByteRange" (some 3) with
  accessFlags := 48
  interfaces := #[]
  cf := some (fileOf pool4 8 #[] #[{ accessFlags := 0, nameIndex := 5, descriptorIndex := 22, attributes := #[] }, { accessFlags := 0, nameIndex := 18, descriptorIndex := 19, attributes := #[] }] 48 2 #[] #[{ accessFlags := 18, nameIndex := 11, descriptorIndex := 12, attributes := #[] }, { accessFlags := 18, nameIndex := 15, descriptorIndex := 12, attributes := #[] }, { accessFlags := 24, nameIndex := 50, descriptorIndex := 51, attributes := #[] }])
  fields := #[{ name := "min", type := .long, accessFlags := 18, slot := 0, constantValue := 0 }, { name := "max", type := .long, accessFlags := 18, slot := 1, constantValue := 0 }, { name := "NONE", type := (.object "com/example/idem1/idem1/ByteRange"), accessFlags := 24, slot := 0, constantValue := 0 }]
  methods := #[k4m0, k4m1]
  instanceTypes := #[.long, .long]
  staticTypes := #[(.object "com/example/idem1/idem1/ByteRange")]
  resolved := Array.replicate 86 none
  statics := some 0 }

def pool5 : Array CpInfo := pool [(1, u "java/lang/Cloneable"), (0, .class_ 1), (0, u "java/lang/Object"), (0, .class_ 3)] 3

/-- java/lang/Cloneable -/
def k5 : Class := { plain "java/lang/Cloneable" (some 0) with
  accessFlags := 1537
  interfaces := #[]
  cf := some (fileOf pool5 2 #[] #[] 1537 4 #[] #[])
  fields := #[]
  methods := #[]
  instanceTypes := #[]
  staticTypes := #[]
  resolved := Array.replicate 8 none
  statics := none }

def pool6 : Array CpInfo := pool [(1, u "java/io/Serializable"), (0, .class_ 1), (0, u "java/lang/Object"), (0, .class_ 3)] 3

/-- java/io/Serializable -/
def k6 : Class := { plain "java/io/Serializable" (some 0) with
  accessFlags := 1537
  interfaces := #[]
  cf := some (fileOf pool6 2 #[] #[] 1537 4 #[] #[])
  fields := #[]
  methods := #[]
  instanceTypes := #[]
  staticTypes := #[]
  resolved := Array.replicate 8 none
  statics := none }

/-- the primitive byte -/
def k7 : Class := { plain "byte" none with kind := .primitive 'B', accessFlags := 0x411 }
/-- [B -/
def k8 : Class := { plain "[B" (some 0) with kind := .array 7 .byte, interfaces := #[5, 6], accessFlags := 1041 }

/-- the primitive int -/
def k9 : Class := { plain "int" none with kind := .primitive 'I', accessFlags := 0x411 }
/-- [I -/
def k10 : Class := { plain "[I" (some 0) with kind := .array 9 .int, interfaces := #[5, 6], accessFlags := 1041 }

def heap : Heap := #[{ cls := 4, slots := #[.ref 1], vm := .statics 4 },
  { cls := 4, slots := #[.long (-1), .long (-1)], vm := .none }]
def classes : Array Class := #[k0, k1, k2, k3, k4, k5, k6, k7, k8, k9, k10]
def interned : List (Array UInt16 × Addr) := []
def slotsUsed : Nat := 3
def theMethod : MethodId := ⟨1, 1⟩
def args0 : Array Value := #[.long 5, .long 5]
def aboutOver (below : List Frame) : State where
  vm := { classes := classes, interned := interned.toArray }
  heap := heap
  slotsUsed := slotsUsed
  threads := #[{ frames := .invoking theMethod args0 :: below }]
def below0 : List Frame := [.native { method := ⟨0, 0⟩, args := #[] }]
def about1 : State := aboutOver below0
def p0 : Program := .bare "" "" ""
def e0 : Env := launch0.env 0 0 0
theorem w_frames : about1.frames = Frame.invoking theMethod args0 :: below0 := rfl
set_option maxRecDepth 65536 in
theorem w_args : argsFit about1.vm theMethod args0 = true := by decide +kernel
set_option maxRecDepth 65536 in
theorem w_heap : heapFits about1 = true := by decide +kernel
set_option maxRecDepth 65536 in
theorem w_runnable : about1.curStatus? = some .runnable := by decide +kernel
set_option maxRecDepth 65536 in
theorem w_alone : about1.alone = true := by decide +kernel
set_option maxRecDepth 65536 in
theorem w_named : about1.methodNamed? x = some theMethod := by decide +kernel
set_option maxRecDepth 65536 in
theorem w_hears : about1.hears theMethod below0 = true := by decide +kernel
set_option maxRecDepth 65536 in
theorem w_ripe : about1.ripe theMethod args0 below0 = true := by decide +kernel
theorem w_running : about1.status = .running := rfl
set_option maxRecDepth 65536 in
theorem w_room : about1.hasRoom e0.platform room_1 = true :=
  launch0.hasRoom_least _ room_1 (by decide +kernel) (by decide +kernel) (by decide +kernel) (by decide +kernel) (by decide +kernel) (by decide +kernel)
theorem allAtoms_all (ts : List Jvm.Cond) (a : Array Jvm.Value) (st : Jvm.State) : (allAtoms ts).before a st = ts.all (fun c => c.before a st) := by
  induction ts with
  | nil => rfl
  | cons c t ih =>
    show (Jvm.Cond.and c (allAtoms t)).before a st = _
    rw [Jvm.Cond.before_and, ih, List.all_cons]
def words1 : List Jvm.Cond := Jvm.Cond.code x code maxLocals ret :: tables_1
/-- a 'code' word, met by the world's own term for the bytes: nothing is compared byte by byte -/
theorem code_word {y : MethodName} {bytes : ByteArray} {mx : Nat} {rt : Option FieldType} {a : Array Value} {s : State} {m : MethodId} {meth : Method} {c : Code} (h1 : s.methodNamed? y = some m) (h2 : s.vm.method? m = some meth) (h3 : meth.code = some c) (h4 : c.code = bytes)
    (h5 : (c.maxLocals == mx && c.exceptionTable.isEmpty && decide (c.maxStack ≤ mostOperands) && decide (meth.sig.returnType = rt) && !meth.locks && decide (parseMethodDescriptor y.desc = some meth.sig)) = true) : (Jvm.Cond.code y bytes mx rt).before a s = true := by
  simp only [Bool.and_eq_true, beq_iff_eq, Bool.not_eq_true', decide_eq_true_eq] at h5
  obtain ⟨⟨⟨⟨⟨g1, g2⟩, g3⟩, g4⟩, g5⟩, g6⟩ := h5
  simp [Cond.before, Cond.holds, Cond.value, h1, h2, h3, h4, g1, g2, g3, g4, g5, g6]
def isCode : Jvm.Cond → Bool
  | .code _ _ _ _ => true
  | _ => false
theorem all_split {L : List Jvm.Cond} {P : Jvm.Cond → Bool} (h1 : L.all (fun c => isCode c || P c) = true) (h2 : ∀ c ∈ L.filter isCode, P c = true) : L.all P = true := by
  refine List.all_eq_true.mpr fun c hc => ?_
  have h := List.all_eq_true.mp h1 c hc
  rcases Bool.eq_false_or_eq_true (isCode c) with hi | hi
  · exact h2 c (List.mem_filter.mpr ⟨hc, hi⟩)
  · simpa [hi] using h
set_option maxRecDepth 65536 in
theorem w_c0 : (Jvm.Cond.code x code maxLocals ret).before args0 about1 = true := code_word (m := ⟨1, 1⟩) (meth := k1m1) (c := k1c1) (by decide +kernel) rfl rfl rfl (by decide +kernel)
set_option maxRecDepth 65536 in
theorem w_c1 : (Jvm.Cond.code ({ cls := "java/lang/Math", name := "max", desc := "(JJ)J" } : Jvm.MethodName) jdk_29_method_66_code (4 : Nat) (Option.some Jvm.ClassFile.FieldType.long)).before args0 about1 = true := code_word (m := ⟨2, 1⟩) (meth := k2m1) (c := k2c1) (by decide +kernel) rfl rfl rfl (by decide +kernel)
set_option maxRecDepth 65536 in
theorem w_c2 : (Jvm.Cond.code ({ cls := "com/example/idem1/idem1/ByteRange", name := "<init>", desc := "(JJ)V" } : Jvm.MethodName) prog_2_method_1_code (5 : Nat) (Option.none : Option Jvm.ClassFile.FieldType)).before args0 about1 = true := code_word (m := ⟨4, 0⟩) (meth := k4m0) (c := k4c0) (by decide +kernel) rfl rfl rfl (by decide +kernel)
set_option maxRecDepth 65536 in
theorem w_c3 : (Jvm.Cond.code ({ cls := "java/lang/Record", name := "<init>", desc := "()V" } : Jvm.MethodName) jdk_30_method_1_code (1 : Nat) (Option.none : Option Jvm.ClassFile.FieldType)).before args0 about1 = true := code_word (m := ⟨3, 0⟩) (meth := k3m0) (c := k3c0) (by decide +kernel) rfl rfl rfl (by decide +kernel)
set_option maxRecDepth 65536 in
theorem w_c4 : (Jvm.Cond.code ({ cls := "java/lang/Object", name := "<init>", desc := "()V" } : Jvm.MethodName) object_method_1_code (1 : Nat) (Option.none : Option Jvm.ClassFile.FieldType)).before args0 about1 = true := code_word (m := ⟨0, 0⟩) (meth := k0m0) (c := k0c0) (by decide +kernel) rfl rfl rfl (by decide +kernel)
set_option maxRecDepth 65536 in
theorem w_c5 : (Jvm.Cond.code ({ cls := "com/example/idem1/idem1/ByteRange", name := "isNone", desc := "()Z" } : Jvm.MethodName) prog_2_method_2_code (1 : Nat) (Option.some Jvm.ClassFile.FieldType.boolean)).before args0 about1 = true := code_word (m := ⟨4, 1⟩) (meth := k4m1) (c := k4c1) (by decide +kernel) rfl rfl rfl (by decide +kernel)
def codes1 : List Jvm.Cond := [Jvm.Cond.code x code maxLocals ret, Jvm.Cond.code ({ cls := "java/lang/Math", name := "max", desc := "(JJ)J" } : Jvm.MethodName) jdk_29_method_66_code (4 : Nat) (Option.some Jvm.ClassFile.FieldType.long), Jvm.Cond.code ({ cls := "com/example/idem1/idem1/ByteRange", name := "<init>", desc := "(JJ)V" } : Jvm.MethodName) prog_2_method_1_code (5 : Nat) (Option.none : Option Jvm.ClassFile.FieldType), Jvm.Cond.code ({ cls := "java/lang/Record", name := "<init>", desc := "()V" } : Jvm.MethodName) jdk_30_method_1_code (1 : Nat) (Option.none : Option Jvm.ClassFile.FieldType), Jvm.Cond.code ({ cls := "java/lang/Object", name := "<init>", desc := "()V" } : Jvm.MethodName) object_method_1_code (1 : Nat) (Option.none : Option Jvm.ClassFile.FieldType), Jvm.Cond.code ({ cls := "com/example/idem1/idem1/ByteRange", name := "isNone", desc := "()Z" } : Jvm.MethodName) prog_2_method_2_code (1 : Nat) (Option.some Jvm.ClassFile.FieldType.boolean)]
set_option maxRecDepth 65536 in
theorem codes_eq : words1.filter isCode = codes1 := rfl
theorem w_codes : ∀ c ∈ words1.filter isCode, c.before args0 about1 = true := by
  rw [codes_eq]
  intro c hc
  simp only [codes1, List.mem_cons, List.not_mem_nil, or_false] at hc
  rcases hc with rfl | rfl | rfl | rfl | rfl | rfl
  · exact w_c0
  · exact w_c1
  · exact w_c2
  · exact w_c3
  · exact w_c4
  · exact w_c5
set_option maxRecDepth 65536 in
theorem w_t1 : (words1.take 24).all (fun c => isCode c || c.before args0 about1) = true := by decide +kernel
set_option maxRecDepth 65536 in
theorem w_t2 : (words1.drop 24).all (fun c => isCode c || c.before args0 about1) = true := by decide +kernel
theorem w_tables : (allAtoms (Jvm.Cond.code x code maxLocals ret :: tables_1)).before args0 about1 = true := by
  rw [allAtoms_all]
  show words1.all (fun c => c.before args0 about1) = true
  refine all_split ?_ w_codes
  rw [← List.take_append_drop 24 words1, List.all_append, w_t1, w_t2]
  rfl
set_option maxRecDepth 65536 in
theorem w_case : (Jvm.Cond.and given_1 narrow_1).before args0 about1 = true := by decide +kernel
theorem w_applies : (headSpec (Jvm.Cond.code x code maxLocals ret :: tables_1) room_1).applies x e0.platform about1 = true :=
  (Spec.applies_iff w_frames).mpr ⟨w_running, w_runnable, w_alone, w_named, w_hears, w_ripe, w_room, w_tables⟩
theorem atStart : AtStart classFile x code maxLocals ret World_1 tables_1 room_1 Calls_1 rest_1 Pre_1 launch0 p0 e0 about1 theMethod args0 below0 :=
  ⟨lists_1, trivial, launch0.admits_env _ _ _, launch0.least_env, fairChoices_fair.cas, fairChoices_fair.clock, w_frames, w_args, w_heap, w_applies, trivial, trivial, w_case⟩
end start1
theorem witness_1 : WitnessClaimed_1 := ⟨start1.p0, start1.e0, start1.about1, start1.theMethod, start1.args0, start1.below0, start1.atStart⟩
end Jvm.Pilot.@@N@@
