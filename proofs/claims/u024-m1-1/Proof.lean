import JvmDerived
import JvmDerived.Pilot.@@N@@Statement
import JvmDerived.Pilot.@@N@@Code
set_option linter.unusedVariables false
set_option linter.unusedSimpArgs false
namespace Jvm.RoadKit
open Sem ClassFile Op Lib Jvm.Stand Jvm.Free Jvm.LawKit
section New
variable {p : Program} {l : Launch} {e : Env} {R : Room} {s : State} {m : MethodId} {args : Array Value} {below : List Frame} {meth : Method} {c : Code} {T : State} {locs : List Loc} {cells slots : Nat}
theorem retI (X : Stand p l e R s m args below meth c T locs cells slots) (hx : p.tables.exec = Jvm.exec) {pc : Nat} {Ls : Array Slot} {z : Int32} {rest : List Value} (hret : meth.sig.returnType = some .int) (hd : decode c.code pc = .ok (.ireturn, 1)) {fs : List Frame}
    (hl : ∀ (f : JFrame) (acts : List Action), f.method = m → f.locked = none → f.entered = [] → (doReturn e (T.setTop f) acts (some (.int z))).1 = T.setFrames fs) : Steps p.tables e below (T.setTop (mkF m pc Ls (.int z :: rest))) (T.setFrames fs) := by
  have hm' : T.vm.method? m = some meth := X.method'
  have hn : narrow .int (.int z) = .int z := rfl
  show Steps p.tables e below (T.setTop { method := m, pc := pc, locals := Ls, stack := _ :: rest, locked := none }) _
  jvm_step X.here [X.here.top, hx, hd, hm', hret, hn]
  first | (intro acts; rw [hl _ acts rfl rfl rfl]) | rw [hl _ _ rfl rfl rfl]
  exact Steps.refl _
end New
end Jvm.RoadKit
namespace Jvm.Pilot.@@N@@
open Jvm Jvm.ClassFile Sem Op Lib Jvm.Free Jvm.Stand Jvm.LawKit Jvm.RoadKit Bundle Jvm.Pilot.@@N@@.Jvm.D
def Gl (p : Program) (e : Env) (below : List Frame) (Q : Outcome → State → Prop) (A : State) : Prop := ∃ t o, Steps p.tables e below A t ∧ t.status = .running ∧ Ended t below o ∧ Q o t
theorem Gl.st {p : Program} {e : Env} {below : List Frame} {Q : Outcome → State → Prop} {A B : State} (k : ∀ t, Steps p.tables e below B t → Steps p.tables e below A t) (h : Gl p e below Q B) : Gl p e below Q A := by
  obtain ⟨t, o, h1, r⟩ := h
  exact ⟨t, o, k t h1, r⟩
theorem Gl.cast {p : Program} {e : Env} {below : List Frame} {Q : Outcome → State → Prop} {A B : State} (k : A = B) (h : Gl p e below Q B) : Gl p e below Q A := k ▸ h
theorem Gl.join {p : Program} {e : Env} {below : List Frame} {Q : Outcome → State → Prop} {A B : State} (k : Gl p e below Q A → Gl p e below Q B) (h : Gl p e below Q A) : Gl p e below Q B := k h
theorem Gl.fin {p : Program} {e : Env} {below : List Frame} {Q : Outcome → State → Prop} {A t : State} {o : Outcome} (h1 : Steps p.tables e below A t) (h2 : t.status = .running) (h3 : Ended t below o) (h4 : Q o t) : Gl p e below Q A := ⟨t, o, h1, h2, h3, h4⟩
theorem tw {a0 : Array Value} {Z : State} (hw : ∀ d ∈ tables_1, d.before a0 Z = true) (i : Nat) {d : Jvm.Cond} (h : tables_1[i]? = some d) : d.before a0 Z = true := hw _ (List.mem_of_getElem? h)
theorem ldAt {L M : Array Slot} (h : L = M) {k : Nat} {v : Slot} (q : M[k]? = some v) : L[k]? = some v := h ▸ q
theorem stAt {L M L' M' : Array Slot} {k : Nat} {v w : Value} (h : L = M) (h' : L' = M') (e : w = v) (q : storeLocals M k v = some M') : storeLocals L k w = some L' := by subst h h' e; exact q
theorem stAt' {L M L' M' : Array Slot} {k : Nat} {v w : Value} (h : L = M) (h' : L' = M') (e : w = v) (q : storeLocals M k v = some M') : storeLocals L k w = some L' := by subst h h' e; exact q
theorem szAt {L M : Array Slot} {k n : Nat} (h : k = n) (h' : L = M) (q : M.size = n) : L.size = k := by subst h h'; exact q
theorem efAt {m : MethodId} {L M : Array Slot} {f : JFrame} (h : L = M) (q : f = mkF m 0 M []) : f = mkF m 0 L [] := h ▸ q
theorem own_nb {c : Prop} [Decidable c] {a b : Int32} (ha : nar .boolean a = a) (hb : nar .boolean b = b) : nar .boolean (if c then a else b) = if c then a else b := by split <;> assumption
theorem own_eqL {args : Array Value} {s : State} {t : Term} {z : Int64} (h : (Jvm.Cond.eq t (.long z)).value args s none s [] = some true) : t.eval args s none [] s = some (.long z) := by
  obtain ⟨x, y, ha, hb, k1, k2⟩ := cmp_v (Or.inl h)
  obtain rfl : y = .long z := Option.some.inj (hb.symm.trans (long_at z))
  obtain ⟨w, rfl⟩ : ∃ w, x = .long w := k2
  rw [ha, gotT (eq_L ha hb) h]
theorem own_eqI {args : Array Value} {s : State} {t : Term} {z : Int32} (h : (Jvm.Cond.eq t (.int z)).value args s none s [] = some true) : t.eval args s none [] s = some (.int z) := by
  obtain ⟨x, y, ha, hb, k1, k2⟩ := cmp_v (Or.inl h)
  obtain rfl : y = .int z := Option.some.inj (hb.symm.trans (Term.int_eval z))
  obtain ⟨w, rfl⟩ : ∃ w, x = .int w := k2
  rw [ha, gotT (Cond.eq_ints ha hb) h]
theorem own_sta_keep {Z : State} {h h' : Heap} {C n d : String} {v : Value} {ws : List Addr} (F : Sta Z h C n d v) (K : Keep h h' ws) (q : ∀ x ∈ ws, ∀ cell : Cell, h[x]? = some cell → cell.vm.isStatics = false) : Sta Z h' C n d v := by
  obtain ⟨cf, i, k, f, a, cell, h1, h2, h3, h4, h5, h6, r⟩ := F
  exact ⟨cf, i, k, f, a, cell, h1, h2, h3, h4, K.2.1 a cell h5 (fun y => by have := q a y cell h5; rw [h6] at this; cases this), h6, r⟩
theorem own_exa_plain {Z : State} {h : Heap} {a : Addr} {C : String} (F : Exa Z h a C) : ∀ cell : Cell, h[a]? = some cell → cell.vm.isStatics = false := fun cell hc => by
  obtain ⟨c', k, h1, -, -, h4, -⟩ := F
  rw [h1] at hc; cases hc; exact h4
theorem own_arv_plain {Z : State} {h : Heap} {a : Addr} {k : ClassId} {ty : FieldType} {z : Int32} {vs : List Value} {dv : Value} (F : Arv Z h a k ty z vs dv) : ∀ cell : Cell, h[a]? = some cell → cell.vm.isStatics = false := fun cell hc => by
  obtain ⟨c', A, -⟩ := F
  have := A.1; rw [this] at hc; cases hc; exact A.plain
theorem d1_0 : decode prog_11_method_10_code 0 = .ok (.lload_n 2, 1) := by decide +kernel
theorem d1_1 : decode prog_11_method_10_code 1 = .ok (.ldc2_w 28, 3) := by decide +kernel
theorem d1_4 : decode prog_11_method_10_code 4 = .ok (.ldiv, 1) := by decide +kernel
theorem d1_5 : decode prog_11_method_10_code 5 = .ok (.lload_n 0, 1) := by decide +kernel
theorem d1_6 : decode prog_11_method_10_code 6 = .ok (.lcmp, 1) := by decide +kernel
theorem d1_7 : decode prog_11_method_10_code 7 = .ok (.ifCond .le 7, 3) := by decide +kernel
theorem d1_10 : decode prog_11_method_10_code 10 = .ok (.iconst 1, 1) := by decide +kernel
theorem d1_11 : decode prog_11_method_10_code 11 = .ok (.goto 4, 3) := by decide +kernel
theorem d1_14 : decode prog_11_method_10_code 14 = .ok (.iconst 0, 1) := by decide +kernel
theorem d1_15 : decode prog_11_method_10_code 15 = .ok (.ireturn, 1) := by decide +kernel
theorem pn_1 : plainName "com/example/tokenpail/tokenpail/io/LocalBucket" = true := by first | (simp [plainName, overriddenIn]; done) | decide +kernel
theorem ef_1 (m : MethodId) (q1 : Int64) (q2 : Int64) : entryFrame m #[(.long q1), (.long q2)] 4 = mkF m 0 #[.val (.long q1), .second, .val (.long q2), .second] [] := by first | (simp [entryFrame, mkF, argsToLocals, Value.category]; done) | rfl
def Q1 (Z : State) (q1 : Int64) (q2 : Int64) (h0 : Heap) (n0 : Nat) (v : Option Value) (h : Heap) (L : List Loc) : Prop := v = some (.int ((if q1 < (q2 / (1000 : Int64)) then (1 : Int32) else (0 : Int32)))) ∧ Fr n0 L ∧ h = h0
set_option maxRecDepth 65536 in
set_option maxHeartbeats 40000000 in
theorem rm1 (l : Launch) (Z : State) (a0 : Array Value) (hw : ∀ d ∈ tables_1, d.before a0 Z = true) (ws : List Jvm.Cond) (q1 : Int64) (q2 : Int64) (h0 : Heap) (n0 : Nat) (Z0 : n0 ≤ h0.size) :
    MetFree l (⟨"com/example/tokenpail/tokenpail/io/LocalBucket", "expired", "(JJ)Z"⟩ : MethodName) (head1 (Jvm.Cond.code (⟨"com/example/tokenpail/tokenpail/io/LocalBucket", "expired", "(JJ)Z"⟩ : MethodName) prog_11_method_10_code 4 (some .boolean) :: ws) ({ frames := 0, cells := 0, slots := 0, locals := 0 } : Room)) (fun a U => a = #[(.long q1), (.long q2)] ∧ Z.Warmed39 U.vm ∧ U.heap = h0) (fun _ _ _ _ _ => True) (fun _ U o U' => ∃ v L, o = .returned v ∧ Q1 Z q1 q2 h0 n0 v U'.heap L ∧ FrameEnd U o U' L ({ frames := 0, cells := 0, slots := 0, locals := 0 } : Room).cells ({ frames := 0, cells := 0, slots := 0, locals := 0 } : Room).slots) := by
  refine MetFree.of_bodySF (plainFor_of_name pn_1) hisR ?_
  intro p e s m args below meth c s₁ Bd hml0 hP hK
  obtain ⟨rfl, hZ, hh⟩ := hP
  have hx := Bd.exec
  have hby := Bd.bytes
  have hml : c.maxLocals = 4 := hml0
  have hown : s.vm.findClass "com/example/tokenpail/tokenpail/io/LocalBucket" = some m.cls := findClass_of_methodNamed Bd.named
  have hnm := (name_of_methodNamed Bd.named Bd.method).1
  have X0 : Stand p l e ({ frames := 0, cells := 0, slots := 0, locals := 0 } : Room) s m #[(.long q1), (.long q2)] below meth c s₁ [] 0 0 := Stand.of_body Bd
  have e0 : s₁.heap = h0 := by rw [← hh, Bd.state]; rfl
  have N0 := Fr.nil n0
  have K0 : Keep h0 h0 [] := Keep.refl h0 _
  refine (show Gl p e below (fun o U' => ∃ v L, o = .returned v ∧ Q1 Z q1 q2 h0 n0 v U'.heap L ∧ FrameEnd s o U' L ({ frames := 0, cells := 0, slots := 0, locals := 0 } : Room).cells ({ frames := 0, cells := 0, slots := 0, locals := 0 } : Room).slots) (s₁.setTop (entryFrame m #[(.long q1), (.long q2)] 4)) from ?_)
  obtain ⟨L0, hL0⟩ : ∃ z : Array Slot, z = #[.val (.long q1), .second, .val (.long q2), .second] := ⟨_, rfl⟩
  refine Gl.st (B := (s₁.setTop (mkF m 0 L0 []))) (fun t k => castTop (efAt hL0 (ef_1 m q1 q2)) k) ?_
  refine Gl.st (B := (s₁.setTop (mkF m 1 L0 [(.long q2)]))) (fun t k => XS.lloadN X0.here hx rfl (hb hby d1_0) (ldAt hL0 rfl) k) ?_
  refine Gl.st (B := (s₁.setTop (mkF m 4 L0 [(.long (1000 : Int64)), (.long q2)]))) (fun t k => X0.ldc2Long hx hown (mvT hZ (tw hw 8 rfl)) (g := (mkF m 1 L0 [(.long q2)])) rfl (hb hby d1_1) _ k) ?_
  refine Gl.st (B := (s₁.setTop (mkF m 5 L0 [(.long (q2 / (1000 : Int64)))]))) (fun t k => XS.ldiv X0.here hx rfl (hb hby d1_4) rfl (by decide) k) ?_
  refine Gl.st (B := (s₁.setTop (mkF m 6 L0 [(.long q1), (.long (q2 / (1000 : Int64)))]))) (fun t k => XS.lloadN X0.here hx rfl (hb hby d1_5) (ldAt hL0 rfl) k) ?_
  refine Gl.st (B := (s₁.setTop (mkF m 7 L0 [(.int (lcmpW (q2 / (1000 : Int64)) q1))]))) (fun t k => XS.lcmp X0.here hx rfl (hb hby d1_6) rfl k) ?_
  obtain ⟨v15_s0_2, hv15_s0_2⟩ : ∃ z : Int32, z = (if q1 < (q2 / (1000 : Int64)) then (1 : Int32) else (0 : Int32)) := ⟨_, rfl⟩
  refine Gl.join (A := (s₁.setTop (mkF m 15 L0 [(.int v15_s0_2)]))) (fun J7_2 => ?_) ?_
  · by_cases hc7_1 : q1 < (q2 / (1000 : Int64))
    · skip
      refine Gl.st (B := (s₁.setTop (mkF m 10 L0 []))) (fun t k => XS.ifNo X0.here hx rfl (hb hby d1_7) rfl ((if0 _ _).trans (tlt ((lw_gt (q2 / (1000 : Int64)) q1).mpr hc7_1)).2.2.2) k) ?_
      refine Gl.st (B := (s₁.setTop (mkF m 11 L0 [(.int (1 : Int32))]))) (fun t k => XS.iconst X0.here hx rfl (hb hby d1_10) k) ?_
      refine Gl.st (B := (s₁.setTop (mkF m 15 L0 [(.int (1 : Int32))]))) (fun t k => XS.goto X0.here hx rfl (pc0 := 11) (pc' := 15) rfl (hb hby d1_11) (by decide) (by decide) k) ?_
      have ev15_s0_2 : v15_s0_2 = (1 : Int32) := by rw [hv15_s0_2, if_pos hc7_1]
      rw [ev15_s0_2] at J7_2
      exact J7_2
    · skip
      refine Gl.st (B := (s₁.setTop (mkF m 14 L0 []))) (fun t k => XS.ifYes X0.here hx rfl (pc0 := 7) (pc' := 14) rfl (hb hby d1_7) rfl ((if0 _ _).trans (flt (mt (lw_gt (q2 / (1000 : Int64)) q1).mp hc7_1)).2.2.2) (by decide) (by decide) k) ?_
      refine Gl.st (B := (s₁.setTop (mkF m 15 L0 [(.int (0 : Int32))]))) (fun t k => XS.iconst X0.here hx rfl (hb hby d1_14) k) ?_
      have ev15_s0_2 : v15_s0_2 = (0 : Int32) := by rw [hv15_s0_2, if_neg hc7_1]
      rw [ev15_s0_2] at J7_2
      exact J7_2
  obtain ⟨fs, hr, hrun, hended, hW, hsame⟩ := X0.leave (v := some (.int (nar .boolean v15_s0_2))) (fun h => by rw [Bd.returns] at h; cases h)
  refine Gl.fin (retN X0 hx (t := .boolean) Bd.returns (by simp) (hb hby d1_15) hr) hrun hended ⟨_, _, rfl, ?_, ⟨_, rfl⟩, hW, hsame.mono (by decide) (by decide)⟩
  show Q1 Z q1 q2 h0 n0 _ s₁.heap _
  rw [e0]
  exact ⟨(by subst hv15_s0_2; exact congrArg (fun z => some (Value.int z)) (own_nb rfl rfl)), N0, rfl⟩
theorem pn_0 : plainName "com/example/tokenpail/tokenpail/io/LocalBucketExpiredPinLaw" = true := by first | (simp [plainName, overriddenIn]; done) | decide +kernel
theorem pd_0_0 : parseMethodDescriptor "(JJ)Z" = some ⟨[.long, .long], some .boolean⟩ := by decide +kernel
theorem ef_0 (m : MethodId) (q1 : Int64) (q2 : Int64) (p3 : Int32) (p4 : Int32) : entryFrame m #[(.long q1), (.long q2), (.int p3), (.int p4)] maxLocals = mkF m 0 #[.val (.long q1), .second, .val (.long q2), .second, .val (.int p3), .val (.int p4), .unset, .unset, .unset] [] := by first | (simp [entryFrame, mkF, argsToLocals, Value.category, maxLocals]; done) | rfl
theorem own_0_hc100_21 (q1 : Int64) (q2 : Int64) (y6_5_1 : Int64) (r95_20 : Int32) (v92_8_11 : Int32) (hy6_5_1 : y6_5_1 = (q2 &&& (9223372036854775807 : Int64))) (hr95_20 : r95_20 = ((if q1 < (y6_5_1 / (1000 : Int64)) then (1 : Int32) else (0 : Int32)))) (hv92_8_11 : v92_8_11 = (if q1 < (0 : Int64) then (1 : Int32) else (if q1 < (9223372036854775 : Int64) then (if y6_5_1 < ((q1 + (1 : Int64)) * (1000 : Int64)) then (0 : Int32) else (1 : Int32)) else (0 : Int32))))  : r95_20 = v92_8_11 := by
  have a1 : y6_5_1.toInt = q2.toInt % 9223372036854775808 := by rw [hy6_5_1]; exact c_maskL q2 (9223372036854775807 : Int64) 63 (by decide) (by decide)
  have a2 := c_ldiv y6_5_1 (1000 : Int64) 1000 (by decide) (by decide)
  have a3 := c_ladd q1 (1 : Int64)
  have a4 := c_lmul (q1 + (1 : Int64)) (1000 : Int64)
  have r1 := rng64 q1
  have r2 := rng64 y6_5_1
  have r3 := rng64 (q1 + (1 : Int64))
  have r4 := rng64 ((q1 + (1 : Int64)) * (1000 : Int64))
  clear hy6_5_1
  rw [hr95_20, hv92_8_11]
  clear hr95_20 hv92_8_11
  simp only [Int64.lt_iff_toInt_lt, Int64.reduceToInt] at *
  generalize (y6_5_1 / (1000 : Int64)).toInt = A1 at *
  generalize ((q1 + (1 : Int64)) * (1000 : Int64)).toInt = A2 at *
  generalize (q1 + (1 : Int64)).toInt = A3 at *
  repeat' split
  all_goals first | rfl | (exfalso; omega)
theorem own_0_hc100_26 (q1 : Int64) (q2 : Int64) (y6_5_1 : Int64) (r95_25 : Int32) (hy6_5_1 : y6_5_1 = (q2 &&& (9223372036854775807 : Int64))) (hr95_25 : r95_25 = ((if q1 < (y6_5_1 / (1000 : Int64)) then (1 : Int32) else (0 : Int32)))) (hc17_22 : q1 < (0 : Int64)) : r95_25 = (1 : Int32) := by
  have a1 : y6_5_1.toInt = q2.toInt % 9223372036854775808 := by rw [hy6_5_1]; exact c_maskL q2 (9223372036854775807 : Int64) 63 (by decide) (by decide)
  have a2 := c_ldiv y6_5_1 (1000 : Int64) 1000 (by decide) (by decide)
  have a3 := c_ladd q1 (1 : Int64)
  have a4 := c_lmul (q1 + (1 : Int64)) (1000 : Int64)
  have r1 := rng64 q1
  have r2 := rng64 y6_5_1
  have r3 := rng64 (q1 + (1 : Int64))
  have r4 := rng64 ((q1 + (1 : Int64)) * (1000 : Int64))
  clear hy6_5_1
  rw [hr95_25]
  clear hr95_25
  simp only [Int64.lt_iff_toInt_lt, Int64.reduceToInt] at *
  generalize (y6_5_1 / (1000 : Int64)).toInt = A1 at *
  generalize ((q1 + (1 : Int64)) * (1000 : Int64)).toInt = A2 at *
  generalize (q1 + (1 : Int64)).toInt = A3 at *
  repeat' split
  all_goals first | rfl | (exfalso; omega)
theorem own_0_hc100_35 (q1 : Int64) (p3 : Int32) (y6_44_28 : Int64) (r95_34 : Int32) (v90_s0_31 : Int32) (hy6_44_28 : y6_44_28 = ((q1 * (1000 : Int64)) + (((p3 &&& (2147483647 : Int32)) % (3000 : Int32)).toInt64))) (hr95_34 : r95_34 = ((if q1 < (y6_44_28 / (1000 : Int64)) then (1 : Int32) else (0 : Int32)))) (hv90_s0_31 : v90_s0_31 = (if y6_44_28 < ((q1 + (1 : Int64)) * (1000 : Int64)) then (0 : Int32) else (1 : Int32))) (hc17_22 : ¬ (q1 < (0 : Int64))) (hc25_27 : q1 < (9223372036854775 : Int64)) : r95_34 = v90_s0_31 := by
  have b1 : (p3 &&& (2147483647 : Int32)).toInt = p3.toInt % 2147483648 := c_mask p3 (2147483647 : Int32) 31 (by decide) (by decide)
  have b2 := c_irem (p3 &&& (2147483647 : Int32)) (3000 : Int32) 3000 (by decide)
  have b3 := c_i2l ((p3 &&& (2147483647 : Int32)) % (3000 : Int32))
  have b4 := c_lmul q1 (1000 : Int64)
  have b5 := c_ladd (q1 * (1000 : Int64)) (((p3 &&& (2147483647 : Int32)) % (3000 : Int32)).toInt64)
  rw [← hy6_44_28] at b5
  have b6 := rng64 (q1 * (1000 : Int64))
  have a2 := c_ldiv y6_44_28 (1000 : Int64) 1000 (by decide) (by decide)
  have a3 := c_ladd q1 (1 : Int64)
  have a4 := c_lmul (q1 + (1 : Int64)) (1000 : Int64)
  have r1 := rng64 q1
  have r2 := rng64 y6_44_28
  have r3 := rng64 (q1 + (1 : Int64))
  have r4 := rng64 ((q1 + (1 : Int64)) * (1000 : Int64))
  clear hy6_44_28
  rw [hr95_34, hv90_s0_31]
  clear hr95_34 hv90_s0_31
  simp only [Int64.lt_iff_toInt_lt, Int64.reduceToInt] at *
  generalize (y6_44_28 / (1000 : Int64)).toInt = A1 at *
  generalize ((q1 + (1 : Int64)) * (1000 : Int64)).toInt = A2 at *
  generalize (q1 + (1 : Int64)).toInt = A3 at *
  repeat' split
  all_goals first | rfl | (exfalso; omega)
theorem own_0_hc100_39 (q1 : Int64) (q2 : Int64) (y6_5_1 : Int64) (r95_38 : Int32) (hy6_5_1 : y6_5_1 = (q2 &&& (9223372036854775807 : Int64))) (hr95_38 : r95_38 = ((if q1 < (y6_5_1 / (1000 : Int64)) then (1 : Int32) else (0 : Int32)))) (hc17_22 : ¬ (q1 < (0 : Int64))) (hc25_27 : ¬ (q1 < (9223372036854775 : Int64))) : r95_38 = (0 : Int32) := by
  have a1 : y6_5_1.toInt = q2.toInt % 9223372036854775808 := by rw [hy6_5_1]; exact c_maskL q2 (9223372036854775807 : Int64) 63 (by decide) (by decide)
  have a2 := c_ldiv y6_5_1 (1000 : Int64) 1000 (by decide) (by decide)
  have a3 := c_ladd q1 (1 : Int64)
  have a4 := c_lmul (q1 + (1 : Int64)) (1000 : Int64)
  have r1 := rng64 q1
  have r2 := rng64 y6_5_1
  have r3 := rng64 (q1 + (1 : Int64))
  have r4 := rng64 ((q1 + (1 : Int64)) * (1000 : Int64))
  clear hy6_5_1
  rw [hr95_38]
  clear hr95_38
  simp only [Int64.lt_iff_toInt_lt, Int64.reduceToInt] at *
  generalize (y6_5_1 / (1000 : Int64)).toInt = A1 at *
  generalize ((q1 + (1 : Int64)) * (1000 : Int64)).toInt = A2 at *
  generalize (q1 + (1 : Int64)).toInt = A3 at *
  repeat' split
  all_goals first | rfl | (exfalso; omega)
def Q0 (Z : State) (q1 : Int64) (q2 : Int64) (p3 : Int32) (p4 : Int32) (h0 : Heap) (n0 : Nat) (v : Option Value) (h : Heap) (L : List Loc) : Prop := v = some (.int (1 : Int32)) ∧ Fr n0 L
set_option maxRecDepth 65536 in
set_option maxHeartbeats 40000000 in
theorem rm0 (l : Launch) (Z : State) (a0 : Array Value) (hw : ∀ d ∈ tables_1, d.before a0 Z = true) (ws : List Jvm.Cond) (q1 : Int64) (q2 : Int64) (p3 : Int32) (p4 : Int32) (h0 : Heap) (n0 : Nat) (Z0 : n0 ≤ h0.size) :
    MetFree l x (head1 (Jvm.Cond.code x code maxLocals ret :: ws) room_1) (fun a U => a = #[(.long q1), (.long q2), (.int p3), (.int p4)] ∧ Z.Warmed39 U.vm ∧ U.heap = h0) (fun _ _ _ _ _ => True) (fun _ U o U' => ∃ v L, o = .returned v ∧ Q0 Z q1 q2 p3 p4 h0 n0 v U'.heap L ∧ FrameEnd U o U' L room_1.cells room_1.slots) := by
  refine MetFree.of_bodySF (plainFor_of_name pn_0) hisR ?_
  intro p e s m args below meth c s₁ Bd hml0 hP hK
  obtain ⟨rfl, hZ, hh⟩ := hP
  have hx := Bd.exec
  have hby := Bd.bytes
  have hml : c.maxLocals = 9 := hml0
  have hown : s.vm.findClass "com/example/tokenpail/tokenpail/io/LocalBucketExpiredPinLaw" = some m.cls := findClass_of_methodNamed Bd.named
  have hnm := (name_of_methodNamed Bd.named Bd.method).1
  have X0 : Stand p l e room_1 s m #[(.long q1), (.long q2), (.int p3), (.int p4)] below meth c s₁ [] 0 0 := Stand.of_body Bd
  have e0 : s₁.heap = h0 := by rw [← hh, Bd.state]; rfl
  have N0 := Fr.nil n0
  refine (show Gl p e below (fun o U' => ∃ v L, o = .returned v ∧ Q0 Z q1 q2 p3 p4 h0 n0 v U'.heap L ∧ FrameEnd s o U' L room_1.cells room_1.slots) (s₁.setTop (entryFrame m #[(.long q1), (.long q2), (.int p3), (.int p4)] maxLocals)) from ?_)
  obtain ⟨L0, hL0⟩ : ∃ z : Array Slot, z = #[.val (.long q1), .second, .val (.long q2), .second, .val (.int p3), .val (.int p4), .unset, .unset, .unset] := ⟨_, rfl⟩
  refine Gl.st (B := (s₁.setTop (mkF m 0 L0 []))) (fun t k => castTop (efAt hL0 (ef_0 m q1 q2 p3 p4)) k) ?_
  refine Gl.st (B := (s₁.setTop (mkF m 1 L0 [(.long q2)]))) (fun t k => XS.lloadN X0.here hx rfl (hb hby at_0) (ldAt hL0 rfl) k) ?_
  refine Gl.st (B := (s₁.setTop (mkF m 4 L0 [(.long (9223372036854775807 : Int64)), (.long q2)]))) (fun t k => X0.ldc2Long hx hown (mvT hZ (tw hw 0 rfl)) (g := (mkF m 1 L0 [(.long q2)])) rfl (hb hby at_1) _ k) ?_
  refine Gl.st (B := (s₁.setTop (mkF m 5 L0 [(.long (q2 &&& (9223372036854775807 : Int64)))]))) (fun t k => XS.land X0.here hx rfl (hb hby at_4) rfl k) ?_
  obtain ⟨y6_5_1, hy6_5_1⟩ : ∃ z : Int64, z = (q2 &&& (9223372036854775807 : Int64)) := ⟨_, rfl⟩
  refine Gl.cast (B := (s₁.setTop (mkF m 5 L0 [(.long y6_5_1)]))) (by rw [hy6_5_1]) ?_
  obtain ⟨L2, hL2⟩ : ∃ z : Array Slot, z = #[.val (.long q1), .second, .val (.long q2), .second, .val (.int p3), .val (.int p4), .val (.long y6_5_1), .second, .unset] := ⟨_, rfl⟩
  refine Gl.st (B := (s₁.setTop (mkF m 7 L2 []))) (fun t k => XS.lstore X0.here hx rfl (hb hby at_5) rfl (l' := L2) (stAt hL0 hL2 rfl rfl) k) ?_
  refine Gl.st (B := (s₁.setTop (mkF m 9 L2 [(.int p4)]))) (fun t k => XS.iload X0.here hx rfl (hb hby at_7) (ldAt hL2 rfl) k) ?_
  refine Gl.st (B := (s₁.setTop (mkF m 10 L2 [(.int (1 : Int32)), (.int p4)]))) (fun t k => XS.iconst X0.here hx rfl (hb hby at_9) k) ?_
  refine Gl.st (B := (s₁.setTop (mkF m 11 L2 [(.int (p4 &&& (1 : Int32)))]))) (fun t k => XS.iand X0.here hx rfl (hb hby at_10) rfl k) ?_
  by_cases hc11_3 : (p4 &&& (1 : Int32)) = (0 : Int32)
  · skip
    refine Gl.st (B := (s₁.setTop (mkF m 46 L2 []))) (fun t k => XS.ifYes X0.here hx rfl (pc0 := 11) (pc' := 46) rfl (hb hby at_11) rfl ((if0 _ _).trans (teq hc11_3).1) (by decide) (by decide) k) ?_
    refine Gl.st (B := (s₁.setTop (mkF m 47 L2 [(.long q1)]))) (fun t k => XS.lloadN X0.here hx rfl (hb hby at_46) (ldAt hL2 rfl) k) ?_
    refine Gl.st (B := (s₁.setTop (mkF m 48 L2 [(.long (0 : Int64)), (.long q1)]))) (fun t k => XS.lconst X0.here hx rfl (hb hby at_47) k) ?_
    refine Gl.st (B := (s₁.setTop (mkF m 49 L2 [(.int (lcmpW q1 (0 : Int64)))]))) (fun t k => XS.lcmp X0.here hx rfl (hb hby at_48) rfl k) ?_
    obtain ⟨v92_8_11, hv92_8_11⟩ : ∃ z : Int32, z = (if q1 < (0 : Int64) then (1 : Int32) else (if q1 < (9223372036854775 : Int64) then (if y6_5_1 < ((q1 + (1 : Int64)) * (1000 : Int64)) then (0 : Int32) else (1 : Int32)) else (0 : Int32))) := ⟨_, rfl⟩
    obtain ⟨L12, hL12⟩ : ∃ z : Array Slot, z = #[.val (.long q1), .second, .val (.long q2), .second, .val (.int p3), .val (.int p4), .val (.long y6_5_1), .second, .val (.int v92_8_11)] := ⟨_, rfl⟩
    refine Gl.join (A := (s₁.setTop (mkF m 92 L12 []))) (fun J49_11 => ?_) ?_
    · by_cases hc49_4 : q1 < (0 : Int64)
      · skip
        refine Gl.st (B := (s₁.setTop (mkF m 52 L2 []))) (fun t k => XS.ifNo X0.here hx rfl (hb hby at_49) rfl ((if0 _ _).trans (tlt ((lw_lt q1 (0 : Int64)).mpr hc49_4)).2.1) k) ?_
        refine Gl.st (B := (s₁.setTop (mkF m 53 L2 [(.int (1 : Int32))]))) (fun t k => XS.iconst X0.here hx rfl (hb hby at_52) k) ?_
        obtain ⟨L13, hL13⟩ : ∃ z : Array Slot, z = #[.val (.long q1), .second, .val (.long q2), .second, .val (.int p3), .val (.int p4), .val (.long y6_5_1), .second, .val (.int (1 : Int32))] := ⟨_, rfl⟩
        refine Gl.st (B := (s₁.setTop (mkF m 55 L13 []))) (fun t k => XS.istore X0.here hx rfl (hb hby at_53) rfl (l' := L13) (stAt hL2 hL13 rfl rfl) k) ?_
        refine Gl.st (B := (s₁.setTop (mkF m 92 L13 []))) (fun t k => XS.goto X0.here hx rfl (pc0 := 55) (pc' := 92) rfl (hb hby at_55) (by decide) (by decide) k) ?_
        have ev92_8_11 : v92_8_11 = (1 : Int32) := by rw [hv92_8_11, if_pos hc49_4]
        rw [hL12, ev92_8_11] at J49_11
        rw [hL13]
        exact J49_11
      · skip
        refine Gl.st (B := (s₁.setTop (mkF m 58 L2 []))) (fun t k => XS.ifYes X0.here hx rfl (pc0 := 49) (pc' := 58) rfl (hb hby at_49) rfl ((if0 _ _).trans (flt (mt (lw_lt q1 (0 : Int64)).mp hc49_4)).2.1) (by decide) (by decide) k) ?_
        refine Gl.st (B := (s₁.setTop (mkF m 59 L2 [(.long q1)]))) (fun t k => XS.lloadN X0.here hx rfl (hb hby at_58) (ldAt hL2 rfl) k) ?_
        refine Gl.st (B := (s₁.setTop (mkF m 62 L2 [(.long (9223372036854775 : Int64)), (.long q1)]))) (fun t k => X0.ldc2Long hx hown (mvT hZ (tw hw 1 rfl)) (g := (mkF m 59 L2 [(.long q1)])) rfl (hb hby at_59) _ k) ?_
        refine Gl.st (B := (s₁.setTop (mkF m 63 L2 [(.int (lcmpW q1 (9223372036854775 : Int64)))]))) (fun t k => XS.lcmp X0.here hx rfl (hb hby at_62) rfl k) ?_
        by_cases hc63_14 : q1 < (9223372036854775 : Int64)
        · skip
          refine Gl.st (B := (s₁.setTop (mkF m 72 L2 []))) (fun t k => XS.ifYes X0.here hx rfl (pc0 := 63) (pc' := 72) rfl (hb hby at_63) rfl ((if0 _ _).trans (tlt ((lw_lt q1 (9223372036854775 : Int64)).mpr hc63_14)).1) (by decide) (by decide) k) ?_
          refine Gl.st (B := (s₁.setTop (mkF m 74 L2 [(.long y6_5_1)]))) (fun t k => XS.lload X0.here hx rfl (hb hby at_72) (ldAt hL2 rfl) k) ?_
          refine Gl.st (B := (s₁.setTop (mkF m 75 L2 [(.long q1), (.long y6_5_1)]))) (fun t k => XS.lloadN X0.here hx rfl (hb hby at_74) (ldAt hL2 rfl) k) ?_
          refine Gl.st (B := (s₁.setTop (mkF m 76 L2 [(.long (1 : Int64)), (.long q1), (.long y6_5_1)]))) (fun t k => XS.lconst X0.here hx rfl (hb hby at_75) k) ?_
          refine Gl.st (B := (s₁.setTop (mkF m 77 L2 [(.long (q1 + (1 : Int64))), (.long y6_5_1)]))) (fun t k => XS.ladd X0.here hx rfl (hb hby at_76) rfl k) ?_
          refine Gl.st (B := (s₁.setTop (mkF m 80 L2 [(.long (1000 : Int64)), (.long (q1 + (1 : Int64))), (.long y6_5_1)]))) (fun t k => X0.ldc2Long hx hown (mvT hZ (tw hw 2 rfl)) (g := (mkF m 77 L2 [(.long (q1 + (1 : Int64))), (.long y6_5_1)])) rfl (hb hby at_77) _ k) ?_
          refine Gl.st (B := (s₁.setTop (mkF m 81 L2 [(.long ((q1 + (1 : Int64)) * (1000 : Int64))), (.long y6_5_1)]))) (fun t k => XS.lmul X0.here hx rfl (hb hby at_80) rfl k) ?_
          refine Gl.st (B := (s₁.setTop (mkF m 82 L2 [(.int (lcmpW y6_5_1 ((q1 + (1 : Int64)) * (1000 : Int64))))]))) (fun t k => XS.lcmp X0.here hx rfl (hb hby at_81) rfl k) ?_
          by_cases hc82_15 : y6_5_1 < ((q1 + (1 : Int64)) * (1000 : Int64))
          · skip
            refine Gl.st (B := (s₁.setTop (mkF m 89 L2 []))) (fun t k => XS.ifYes X0.here hx rfl (pc0 := 82) (pc' := 89) rfl (hb hby at_82) rfl ((if0 _ _).trans (tlt ((lw_lt y6_5_1 ((q1 + (1 : Int64)) * (1000 : Int64))).mpr hc82_15)).1) (by decide) (by decide) k) ?_
            refine Gl.st (B := (s₁.setTop (mkF m 90 L2 [(.int (0 : Int32))]))) (fun t k => XS.iconst X0.here hx rfl (hb hby at_89) k) ?_
            obtain ⟨L16, hL16⟩ : ∃ z : Array Slot, z = #[.val (.long q1), .second, .val (.long q2), .second, .val (.int p3), .val (.int p4), .val (.long y6_5_1), .second, .val (.int (0 : Int32))] := ⟨_, rfl⟩
            refine Gl.st (B := (s₁.setTop (mkF m 92 L16 []))) (fun t k => XS.istore X0.here hx rfl (hb hby at_90) rfl (l' := L16) (stAt hL2 hL16 rfl rfl) k) ?_
            have ev92_8_11 : v92_8_11 = (0 : Int32) := by rw [hv92_8_11, if_neg hc49_4, if_pos hc63_14, if_pos hc82_15]
            rw [hL12, ev92_8_11] at J49_11
            rw [hL16]
            exact J49_11
          · skip
            refine Gl.st (B := (s₁.setTop (mkF m 85 L2 []))) (fun t k => XS.ifNo X0.here hx rfl (hb hby at_82) rfl ((if0 _ _).trans (flt (mt (lw_lt y6_5_1 ((q1 + (1 : Int64)) * (1000 : Int64))).mp hc82_15)).1) k) ?_
            refine Gl.st (B := (s₁.setTop (mkF m 86 L2 [(.int (1 : Int32))]))) (fun t k => XS.iconst X0.here hx rfl (hb hby at_85) k) ?_
            refine Gl.st (B := (s₁.setTop (mkF m 90 L2 [(.int (1 : Int32))]))) (fun t k => XS.goto X0.here hx rfl (pc0 := 86) (pc' := 90) rfl (hb hby at_86) (by decide) (by decide) k) ?_
            obtain ⟨L17, hL17⟩ : ∃ z : Array Slot, z = #[.val (.long q1), .second, .val (.long q2), .second, .val (.int p3), .val (.int p4), .val (.long y6_5_1), .second, .val (.int (1 : Int32))] := ⟨_, rfl⟩
            refine Gl.st (B := (s₁.setTop (mkF m 92 L17 []))) (fun t k => XS.istore X0.here hx rfl (hb hby at_90) rfl (l' := L17) (stAt hL2 hL17 rfl rfl) k) ?_
            have ev92_8_11 : v92_8_11 = (1 : Int32) := by rw [hv92_8_11, if_neg hc49_4, if_pos hc63_14, if_neg hc82_15]
            rw [hL12, ev92_8_11] at J49_11
            rw [hL17]
            exact J49_11
        · skip
          refine Gl.st (B := (s₁.setTop (mkF m 66 L2 []))) (fun t k => XS.ifNo X0.here hx rfl (hb hby at_63) rfl ((if0 _ _).trans (flt (mt (lw_lt q1 (9223372036854775 : Int64)).mp hc63_14)).1) k) ?_
          refine Gl.st (B := (s₁.setTop (mkF m 67 L2 [(.int (0 : Int32))]))) (fun t k => XS.iconst X0.here hx rfl (hb hby at_66) k) ?_
          obtain ⟨L18, hL18⟩ : ∃ z : Array Slot, z = #[.val (.long q1), .second, .val (.long q2), .second, .val (.int p3), .val (.int p4), .val (.long y6_5_1), .second, .val (.int (0 : Int32))] := ⟨_, rfl⟩
          refine Gl.st (B := (s₁.setTop (mkF m 69 L18 []))) (fun t k => XS.istore X0.here hx rfl (hb hby at_67) rfl (l' := L18) (stAt hL2 hL18 rfl rfl) k) ?_
          refine Gl.st (B := (s₁.setTop (mkF m 92 L18 []))) (fun t k => XS.goto X0.here hx rfl (pc0 := 69) (pc' := 92) rfl (hb hby at_69) (by decide) (by decide) k) ?_
          have ev92_8_11 : v92_8_11 = (0 : Int32) := by rw [hv92_8_11, if_neg hc49_4, if_neg hc63_14]
          rw [hL12, ev92_8_11] at J49_11
          rw [hL18]
          exact J49_11
    refine Gl.st (B := (s₁.setTop (mkF m 93 L12 [(.long q1)]))) (fun t k => XS.lloadN X0.here hx rfl (hb hby at_92) (ldAt hL12 rfl) k) ?_
    refine Gl.st (B := (s₁.setTop (mkF m 95 L12 [(.long y6_5_1), (.long q1)]))) (fun t k => XS.lload X0.here hx rfl (hb hby at_93) (ldAt hL12 rfl) k) ?_
    obtain ⟨_, _, ⟨T19, L19q, k19, n19⟩, -, X19, ⟨Lc19, hQ19, l19, y19, z19⟩, st19⟩ := Jvm.LawKit.callS X0 hx (y := (⟨"com/example/tokenpail/tokenpail/io/LocalBucket", "expired", "(JJ)Z"⟩ : MethodName)) hown (mvT hZ (tw hw 4 rfl)) (mvT hZ (tw hw 5 rfl)) (mvT hZ (tw hw 6 rfl)) (mvT hZ (tw hw 7 rfl)) (by decide) (backOf (W := 0) (rm1 l Z a0 hw [] q1 y6_5_1 h0 n0 Z0) hZ (tw hw 7 rfl) (tw hw 6 rfl) (by decide) (by decide)) (g := (mkF m 95 L12 [(.long y6_5_1), (.long q1)])) rfl (szAt hml hL12 rfl) (argsL := [(.long q1), (.long y6_5_1)]) (rest := []) (lenOf pd_0_0 rfl) rfl (by show 2 * 0 + _ ≤ _; exact Nat.le_of_eq rfl) (hb hby at_95) (fun _ _ => ⟨rfl, e0, (by decide : 0 + 0 ≤ _), (by decide : 0 + 0 ≤ _)⟩)
    dsimp only [Pt.U, Pt.locs, Pt.cells, Pt.slots] at X19 l19 y19 z19 st19 hQ19
    subst l19 y19 z19
    obtain ⟨rfl, N19q, eh19⟩ := hQ19
    have N19 := Fr.app N0 N19q
    refine Gl.st (B := (T19.setTop (mkF m 98 L12 [(.int ((if q1 < (y6_5_1 / (1000 : Int64)) then (1 : Int32) else (0 : Int32))))]))) (fun t k => st19 t k) ?_
    obtain ⟨r95_20, hr95_20⟩ : ∃ z : Int32, z = ((if q1 < (y6_5_1 / (1000 : Int64)) then (1 : Int32) else (0 : Int32))) := ⟨_, rfl⟩
    refine Gl.cast (B := (T19.setTop (mkF m 98 L12 [(.int r95_20)]))) (by rw [hr95_20]) ?_
    refine Gl.st (B := (T19.setTop (mkF m 100 L12 [(.int v92_8_11), (.int r95_20)]))) (fun t k => XS.iload X19.here hx rfl (hb hby at_98) (ldAt hL12 rfl) k) ?_
    have hc100_21 : r95_20 = v92_8_11 := own_0_hc100_21 q1 q2 y6_5_1 r95_20 v92_8_11 hy6_5_1 hr95_20 hv92_8_11 
    refine Gl.st (B := (T19.setTop (mkF m 103 L12 []))) (fun t k => XS.icmpNo X19.here hx rfl (hb hby at_100) rfl (teq hc100_21).2 k) ?_
    refine Gl.st (B := (T19.setTop (mkF m 104 L12 [(.int (1 : Int32))]))) (fun t k => XS.iconst X19.here hx rfl (hb hby at_103) k) ?_
    refine Gl.st (B := (T19.setTop (mkF m 108 L12 [(.int (1 : Int32))]))) (fun t k => XS.goto X19.here hx rfl (pc0 := 104) (pc' := 108) rfl (hb hby at_104) (by decide) (by decide) k) ?_
    obtain ⟨fs, hr, hrun, hended, hW, hsame⟩ := X19.leave (v := some (.int (nar .boolean (1 : Int32)))) (fun h => by rw [Bd.returns] at h; cases h)
    refine Gl.fin (retN X19 hx (t := .boolean) Bd.returns (by simp) (hb hby at_108) hr) hrun hended ⟨_, _, rfl, ?_, ⟨_, rfl⟩, hW, hsame.mono (by decide) (by decide)⟩
    show Q0 Z q1 q2 p3 p4 h0 n0 _ T19.heap _
    rw [eh19]
    exact ⟨rfl, N19⟩
  · skip
    refine Gl.st (B := (s₁.setTop (mkF m 14 L2 []))) (fun t k => XS.ifNo X0.here hx rfl (hb hby at_11) rfl ((if0 _ _).trans (feq hc11_3).1) k) ?_
    refine Gl.st (B := (s₁.setTop (mkF m 15 L2 [(.long q1)]))) (fun t k => XS.lloadN X0.here hx rfl (hb hby at_14) (ldAt hL2 rfl) k) ?_
    refine Gl.st (B := (s₁.setTop (mkF m 16 L2 [(.long (0 : Int64)), (.long q1)]))) (fun t k => XS.lconst X0.here hx rfl (hb hby at_15) k) ?_
    refine Gl.st (B := (s₁.setTop (mkF m 17 L2 [(.int (lcmpW q1 (0 : Int64)))]))) (fun t k => XS.lcmp X0.here hx rfl (hb hby at_16) rfl k) ?_
    by_cases hc17_22 : q1 < (0 : Int64)
    · skip
      refine Gl.st (B := (s₁.setTop (mkF m 46 L2 []))) (fun t k => XS.ifYes X0.here hx rfl (pc0 := 17) (pc' := 46) rfl (hb hby at_17) rfl ((if0 _ _).trans (tlt ((lw_lt q1 (0 : Int64)).mpr hc17_22)).1) (by decide) (by decide) k) ?_
      refine Gl.st (B := (s₁.setTop (mkF m 47 L2 [(.long q1)]))) (fun t k => XS.lloadN X0.here hx rfl (hb hby at_46) (ldAt hL2 rfl) k) ?_
      refine Gl.st (B := (s₁.setTop (mkF m 48 L2 [(.long (0 : Int64)), (.long q1)]))) (fun t k => XS.lconst X0.here hx rfl (hb hby at_47) k) ?_
      refine Gl.st (B := (s₁.setTop (mkF m 49 L2 [(.int (lcmpW q1 (0 : Int64)))]))) (fun t k => XS.lcmp X0.here hx rfl (hb hby at_48) rfl k) ?_
      refine Gl.st (B := (s₁.setTop (mkF m 52 L2 []))) (fun t k => XS.ifNo X0.here hx rfl (hb hby at_49) rfl ((if0 _ _).trans (tlt ((lw_lt q1 (0 : Int64)).mpr hc17_22)).2.1) k) ?_
      refine Gl.st (B := (s₁.setTop (mkF m 53 L2 [(.int (1 : Int32))]))) (fun t k => XS.iconst X0.here hx rfl (hb hby at_52) k) ?_
      obtain ⟨L23, hL23⟩ : ∃ z : Array Slot, z = #[.val (.long q1), .second, .val (.long q2), .second, .val (.int p3), .val (.int p4), .val (.long y6_5_1), .second, .val (.int (1 : Int32))] := ⟨_, rfl⟩
      refine Gl.st (B := (s₁.setTop (mkF m 55 L23 []))) (fun t k => XS.istore X0.here hx rfl (hb hby at_53) rfl (l' := L23) (stAt hL2 hL23 rfl rfl) k) ?_
      refine Gl.st (B := (s₁.setTop (mkF m 92 L23 []))) (fun t k => XS.goto X0.here hx rfl (pc0 := 55) (pc' := 92) rfl (hb hby at_55) (by decide) (by decide) k) ?_
      refine Gl.st (B := (s₁.setTop (mkF m 93 L23 [(.long q1)]))) (fun t k => XS.lloadN X0.here hx rfl (hb hby at_92) (ldAt hL23 rfl) k) ?_
      refine Gl.st (B := (s₁.setTop (mkF m 95 L23 [(.long y6_5_1), (.long q1)]))) (fun t k => XS.lload X0.here hx rfl (hb hby at_93) (ldAt hL23 rfl) k) ?_
      obtain ⟨_, _, ⟨T24, L24q, k24, n24⟩, -, X24, ⟨Lc24, hQ24, l24, y24, z24⟩, st24⟩ := Jvm.LawKit.callS X0 hx (y := (⟨"com/example/tokenpail/tokenpail/io/LocalBucket", "expired", "(JJ)Z"⟩ : MethodName)) hown (mvT hZ (tw hw 4 rfl)) (mvT hZ (tw hw 5 rfl)) (mvT hZ (tw hw 6 rfl)) (mvT hZ (tw hw 7 rfl)) (by decide) (backOf (W := 0) (rm1 l Z a0 hw [] q1 y6_5_1 h0 n0 Z0) hZ (tw hw 7 rfl) (tw hw 6 rfl) (by decide) (by decide)) (g := (mkF m 95 L23 [(.long y6_5_1), (.long q1)])) rfl (szAt hml hL23 rfl) (argsL := [(.long q1), (.long y6_5_1)]) (rest := []) (lenOf pd_0_0 rfl) rfl (by show 2 * 0 + _ ≤ _; exact Nat.le_of_eq rfl) (hb hby at_95) (fun _ _ => ⟨rfl, e0, (by decide : 0 + 0 ≤ _), (by decide : 0 + 0 ≤ _)⟩)
      dsimp only [Pt.U, Pt.locs, Pt.cells, Pt.slots] at X24 l24 y24 z24 st24 hQ24
      subst l24 y24 z24
      obtain ⟨rfl, N24q, eh24⟩ := hQ24
      have N24 := Fr.app N0 N24q
      refine Gl.st (B := (T24.setTop (mkF m 98 L23 [(.int ((if q1 < (y6_5_1 / (1000 : Int64)) then (1 : Int32) else (0 : Int32))))]))) (fun t k => st24 t k) ?_
      obtain ⟨r95_25, hr95_25⟩ : ∃ z : Int32, z = ((if q1 < (y6_5_1 / (1000 : Int64)) then (1 : Int32) else (0 : Int32))) := ⟨_, rfl⟩
      refine Gl.cast (B := (T24.setTop (mkF m 98 L23 [(.int r95_25)]))) (by rw [hr95_25]) ?_
      refine Gl.st (B := (T24.setTop (mkF m 100 L23 [(.int (1 : Int32)), (.int r95_25)]))) (fun t k => XS.iload X24.here hx rfl (hb hby at_98) (ldAt hL23 rfl) k) ?_
      have hc100_26 : r95_25 = (1 : Int32) := own_0_hc100_26 q1 q2 y6_5_1 r95_25 hy6_5_1 hr95_25 hc17_22
      refine Gl.st (B := (T24.setTop (mkF m 103 L23 []))) (fun t k => XS.icmpNo X24.here hx rfl (hb hby at_100) rfl (teq hc100_26).2 k) ?_
      refine Gl.st (B := (T24.setTop (mkF m 104 L23 [(.int (1 : Int32))]))) (fun t k => XS.iconst X24.here hx rfl (hb hby at_103) k) ?_
      refine Gl.st (B := (T24.setTop (mkF m 108 L23 [(.int (1 : Int32))]))) (fun t k => XS.goto X24.here hx rfl (pc0 := 104) (pc' := 108) rfl (hb hby at_104) (by decide) (by decide) k) ?_
      obtain ⟨fs, hr, hrun, hended, hW, hsame⟩ := X24.leave (v := some (.int (nar .boolean (1 : Int32)))) (fun h => by rw [Bd.returns] at h; cases h)
      refine Gl.fin (retN X24 hx (t := .boolean) Bd.returns (by simp) (hb hby at_108) hr) hrun hended ⟨_, _, rfl, ?_, ⟨_, rfl⟩, hW, hsame.mono (by decide) (by decide)⟩
      show Q0 Z q1 q2 p3 p4 h0 n0 _ T24.heap _
      rw [eh24]
      exact ⟨rfl, N24⟩
    · skip
      refine Gl.st (B := (s₁.setTop (mkF m 20 L2 []))) (fun t k => XS.ifNo X0.here hx rfl (hb hby at_17) rfl ((if0 _ _).trans (flt (mt (lw_lt q1 (0 : Int64)).mp hc17_22)).1) k) ?_
      refine Gl.st (B := (s₁.setTop (mkF m 21 L2 [(.long q1)]))) (fun t k => XS.lloadN X0.here hx rfl (hb hby at_20) (ldAt hL2 rfl) k) ?_
      refine Gl.st (B := (s₁.setTop (mkF m 24 L2 [(.long (9223372036854775 : Int64)), (.long q1)]))) (fun t k => X0.ldc2Long hx hown (mvT hZ (tw hw 1 rfl)) (g := (mkF m 21 L2 [(.long q1)])) rfl (hb hby at_21) _ k) ?_
      refine Gl.st (B := (s₁.setTop (mkF m 25 L2 [(.int (lcmpW q1 (9223372036854775 : Int64)))]))) (fun t k => XS.lcmp X0.here hx rfl (hb hby at_24) rfl k) ?_
      by_cases hc25_27 : q1 < (9223372036854775 : Int64)
      · skip
        refine Gl.st (B := (s₁.setTop (mkF m 28 L2 []))) (fun t k => XS.ifNo X0.here hx rfl (hb hby at_25) rfl ((if0 _ _).trans (tlt ((lw_lt q1 (9223372036854775 : Int64)).mpr hc25_27)).2.1) k) ?_
        refine Gl.st (B := (s₁.setTop (mkF m 29 L2 [(.long q1)]))) (fun t k => XS.lloadN X0.here hx rfl (hb hby at_28) (ldAt hL2 rfl) k) ?_
        refine Gl.st (B := (s₁.setTop (mkF m 32 L2 [(.long (1000 : Int64)), (.long q1)]))) (fun t k => X0.ldc2Long hx hown (mvT hZ (tw hw 2 rfl)) (g := (mkF m 29 L2 [(.long q1)])) rfl (hb hby at_29) _ k) ?_
        refine Gl.st (B := (s₁.setTop (mkF m 33 L2 [(.long (q1 * (1000 : Int64)))]))) (fun t k => XS.lmul X0.here hx rfl (hb hby at_32) rfl k) ?_
        refine Gl.st (B := (s₁.setTop (mkF m 35 L2 [(.int p3), (.long (q1 * (1000 : Int64)))]))) (fun t k => XS.iload X0.here hx rfl (hb hby at_33) (ldAt hL2 rfl) k) ?_
        refine Gl.st (B := (s₁.setTop (mkF m 37 L2 [(.int (2147483647 : Int32)), (.int p3), (.long (q1 * (1000 : Int64)))]))) (fun t k => X0.ldcInt hx hown (mvT hZ (tw hw 3 rfl)) (g := (mkF m 35 L2 [(.int p3), (.long (q1 * (1000 : Int64)))])) rfl (hb hby at_35) _ k) ?_
        refine Gl.st (B := (s₁.setTop (mkF m 38 L2 [(.int (p3 &&& (2147483647 : Int32))), (.long (q1 * (1000 : Int64)))]))) (fun t k => XS.iand X0.here hx rfl (hb hby at_37) rfl k) ?_
        refine Gl.st (B := (s₁.setTop (mkF m 41 L2 [(.int (3000 : Int32)), (.int (p3 &&& (2147483647 : Int32))), (.long (q1 * (1000 : Int64)))]))) (fun t k => XS.sipush X0.here hx rfl (hb hby at_38) k) ?_
        refine Gl.st (B := (s₁.setTop (mkF m 42 L2 [(.int ((p3 &&& (2147483647 : Int32)) % (3000 : Int32))), (.long (q1 * (1000 : Int64)))]))) (fun t k => iremM X0 hx rfl (hb hby at_41) rfl (by decide) k) ?_
        refine Gl.st (B := (s₁.setTop (mkF m 43 L2 [(.long (((p3 &&& (2147483647 : Int32)) % (3000 : Int32)).toInt64)), (.long (q1 * (1000 : Int64)))]))) (fun t k => XS.i2l X0.here hx rfl (hb hby at_42) rfl k) ?_
        refine Gl.st (B := (s₁.setTop (mkF m 44 L2 [(.long ((q1 * (1000 : Int64)) + (((p3 &&& (2147483647 : Int32)) % (3000 : Int32)).toInt64)))]))) (fun t k => XS.ladd X0.here hx rfl (hb hby at_43) rfl k) ?_
        obtain ⟨y6_44_28, hy6_44_28⟩ : ∃ z : Int64, z = ((q1 * (1000 : Int64)) + (((p3 &&& (2147483647 : Int32)) % (3000 : Int32)).toInt64)) := ⟨_, rfl⟩
        refine Gl.cast (B := (s₁.setTop (mkF m 44 L2 [(.long y6_44_28)]))) (by rw [hy6_44_28]) ?_
        obtain ⟨L29, hL29⟩ : ∃ z : Array Slot, z = #[.val (.long q1), .second, .val (.long q2), .second, .val (.int p3), .val (.int p4), .val (.long y6_44_28), .second, .unset] := ⟨_, rfl⟩
        refine Gl.st (B := (s₁.setTop (mkF m 46 L29 []))) (fun t k => XS.lstore X0.here hx rfl (hb hby at_44) rfl (l' := L29) (stAt hL2 hL29 rfl rfl) k) ?_
        refine Gl.st (B := (s₁.setTop (mkF m 47 L29 [(.long q1)]))) (fun t k => XS.lloadN X0.here hx rfl (hb hby at_46) (ldAt hL29 rfl) k) ?_
        refine Gl.st (B := (s₁.setTop (mkF m 48 L29 [(.long (0 : Int64)), (.long q1)]))) (fun t k => XS.lconst X0.here hx rfl (hb hby at_47) k) ?_
        refine Gl.st (B := (s₁.setTop (mkF m 49 L29 [(.int (lcmpW q1 (0 : Int64)))]))) (fun t k => XS.lcmp X0.here hx rfl (hb hby at_48) rfl k) ?_
        refine Gl.st (B := (s₁.setTop (mkF m 58 L29 []))) (fun t k => XS.ifYes X0.here hx rfl (pc0 := 49) (pc' := 58) rfl (hb hby at_49) rfl ((if0 _ _).trans (flt (mt (lw_lt q1 (0 : Int64)).mp hc17_22)).2.1) (by decide) (by decide) k) ?_
        refine Gl.st (B := (s₁.setTop (mkF m 59 L29 [(.long q1)]))) (fun t k => XS.lloadN X0.here hx rfl (hb hby at_58) (ldAt hL29 rfl) k) ?_
        refine Gl.st (B := (s₁.setTop (mkF m 62 L29 [(.long (9223372036854775 : Int64)), (.long q1)]))) (fun t k => X0.ldc2Long hx hown (mvT hZ (tw hw 1 rfl)) (g := (mkF m 59 L29 [(.long q1)])) rfl (hb hby at_59) _ k) ?_
        refine Gl.st (B := (s₁.setTop (mkF m 63 L29 [(.int (lcmpW q1 (9223372036854775 : Int64)))]))) (fun t k => XS.lcmp X0.here hx rfl (hb hby at_62) rfl k) ?_
        refine Gl.st (B := (s₁.setTop (mkF m 72 L29 []))) (fun t k => XS.ifYes X0.here hx rfl (pc0 := 63) (pc' := 72) rfl (hb hby at_63) rfl ((if0 _ _).trans (tlt ((lw_lt q1 (9223372036854775 : Int64)).mpr hc25_27)).1) (by decide) (by decide) k) ?_
        refine Gl.st (B := (s₁.setTop (mkF m 74 L29 [(.long y6_44_28)]))) (fun t k => XS.lload X0.here hx rfl (hb hby at_72) (ldAt hL29 rfl) k) ?_
        refine Gl.st (B := (s₁.setTop (mkF m 75 L29 [(.long q1), (.long y6_44_28)]))) (fun t k => XS.lloadN X0.here hx rfl (hb hby at_74) (ldAt hL29 rfl) k) ?_
        refine Gl.st (B := (s₁.setTop (mkF m 76 L29 [(.long (1 : Int64)), (.long q1), (.long y6_44_28)]))) (fun t k => XS.lconst X0.here hx rfl (hb hby at_75) k) ?_
        refine Gl.st (B := (s₁.setTop (mkF m 77 L29 [(.long (q1 + (1 : Int64))), (.long y6_44_28)]))) (fun t k => XS.ladd X0.here hx rfl (hb hby at_76) rfl k) ?_
        refine Gl.st (B := (s₁.setTop (mkF m 80 L29 [(.long (1000 : Int64)), (.long (q1 + (1 : Int64))), (.long y6_44_28)]))) (fun t k => X0.ldc2Long hx hown (mvT hZ (tw hw 2 rfl)) (g := (mkF m 77 L29 [(.long (q1 + (1 : Int64))), (.long y6_44_28)])) rfl (hb hby at_77) _ k) ?_
        refine Gl.st (B := (s₁.setTop (mkF m 81 L29 [(.long ((q1 + (1 : Int64)) * (1000 : Int64))), (.long y6_44_28)]))) (fun t k => XS.lmul X0.here hx rfl (hb hby at_80) rfl k) ?_
        refine Gl.st (B := (s₁.setTop (mkF m 82 L29 [(.int (lcmpW y6_44_28 ((q1 + (1 : Int64)) * (1000 : Int64))))]))) (fun t k => XS.lcmp X0.here hx rfl (hb hby at_81) rfl k) ?_
        obtain ⟨v90_s0_31, hv90_s0_31⟩ : ∃ z : Int32, z = (if y6_44_28 < ((q1 + (1 : Int64)) * (1000 : Int64)) then (0 : Int32) else (1 : Int32)) := ⟨_, rfl⟩
        refine Gl.join (A := (s₁.setTop (mkF m 90 L29 [(.int v90_s0_31)]))) (fun J82_31 => ?_) ?_
        · by_cases hc82_30 : y6_44_28 < ((q1 + (1 : Int64)) * (1000 : Int64))
          · skip
            refine Gl.st (B := (s₁.setTop (mkF m 89 L29 []))) (fun t k => XS.ifYes X0.here hx rfl (pc0 := 82) (pc' := 89) rfl (hb hby at_82) rfl ((if0 _ _).trans (tlt ((lw_lt y6_44_28 ((q1 + (1 : Int64)) * (1000 : Int64))).mpr hc82_30)).1) (by decide) (by decide) k) ?_
            refine Gl.st (B := (s₁.setTop (mkF m 90 L29 [(.int (0 : Int32))]))) (fun t k => XS.iconst X0.here hx rfl (hb hby at_89) k) ?_
            have ev90_s0_31 : v90_s0_31 = (0 : Int32) := by rw [hv90_s0_31, if_pos hc82_30]
            rw [ev90_s0_31] at J82_31
            exact J82_31
          · skip
            refine Gl.st (B := (s₁.setTop (mkF m 85 L29 []))) (fun t k => XS.ifNo X0.here hx rfl (hb hby at_82) rfl ((if0 _ _).trans (flt (mt (lw_lt y6_44_28 ((q1 + (1 : Int64)) * (1000 : Int64))).mp hc82_30)).1) k) ?_
            refine Gl.st (B := (s₁.setTop (mkF m 86 L29 [(.int (1 : Int32))]))) (fun t k => XS.iconst X0.here hx rfl (hb hby at_85) k) ?_
            refine Gl.st (B := (s₁.setTop (mkF m 90 L29 [(.int (1 : Int32))]))) (fun t k => XS.goto X0.here hx rfl (pc0 := 86) (pc' := 90) rfl (hb hby at_86) (by decide) (by decide) k) ?_
            have ev90_s0_31 : v90_s0_31 = (1 : Int32) := by rw [hv90_s0_31, if_neg hc82_30]
            rw [ev90_s0_31] at J82_31
            exact J82_31
        obtain ⟨L32, hL32⟩ : ∃ z : Array Slot, z = #[.val (.long q1), .second, .val (.long q2), .second, .val (.int p3), .val (.int p4), .val (.long y6_44_28), .second, .val (.int v90_s0_31)] := ⟨_, rfl⟩
        refine Gl.st (B := (s₁.setTop (mkF m 92 L32 []))) (fun t k => XS.istore X0.here hx rfl (hb hby at_90) rfl (l' := L32) (stAt hL29 hL32 rfl rfl) k) ?_
        refine Gl.st (B := (s₁.setTop (mkF m 93 L32 [(.long q1)]))) (fun t k => XS.lloadN X0.here hx rfl (hb hby at_92) (ldAt hL32 rfl) k) ?_
        refine Gl.st (B := (s₁.setTop (mkF m 95 L32 [(.long y6_44_28), (.long q1)]))) (fun t k => XS.lload X0.here hx rfl (hb hby at_93) (ldAt hL32 rfl) k) ?_
        obtain ⟨_, _, ⟨T33, L33q, k33, n33⟩, -, X33, ⟨Lc33, hQ33, l33, y33, z33⟩, st33⟩ := Jvm.LawKit.callS X0 hx (y := (⟨"com/example/tokenpail/tokenpail/io/LocalBucket", "expired", "(JJ)Z"⟩ : MethodName)) hown (mvT hZ (tw hw 4 rfl)) (mvT hZ (tw hw 5 rfl)) (mvT hZ (tw hw 6 rfl)) (mvT hZ (tw hw 7 rfl)) (by decide) (backOf (W := 0) (rm1 l Z a0 hw [] q1 y6_44_28 h0 n0 Z0) hZ (tw hw 7 rfl) (tw hw 6 rfl) (by decide) (by decide)) (g := (mkF m 95 L32 [(.long y6_44_28), (.long q1)])) rfl (szAt hml hL32 rfl) (argsL := [(.long q1), (.long y6_44_28)]) (rest := []) (lenOf pd_0_0 rfl) rfl (by show 2 * 0 + _ ≤ _; exact Nat.le_of_eq rfl) (hb hby at_95) (fun _ _ => ⟨rfl, e0, (by decide : 0 + 0 ≤ _), (by decide : 0 + 0 ≤ _)⟩)
        dsimp only [Pt.U, Pt.locs, Pt.cells, Pt.slots] at X33 l33 y33 z33 st33 hQ33
        subst l33 y33 z33
        obtain ⟨rfl, N33q, eh33⟩ := hQ33
        have N33 := Fr.app N0 N33q
        refine Gl.st (B := (T33.setTop (mkF m 98 L32 [(.int ((if q1 < (y6_44_28 / (1000 : Int64)) then (1 : Int32) else (0 : Int32))))]))) (fun t k => st33 t k) ?_
        obtain ⟨r95_34, hr95_34⟩ : ∃ z : Int32, z = ((if q1 < (y6_44_28 / (1000 : Int64)) then (1 : Int32) else (0 : Int32))) := ⟨_, rfl⟩
        refine Gl.cast (B := (T33.setTop (mkF m 98 L32 [(.int r95_34)]))) (by rw [hr95_34]) ?_
        refine Gl.st (B := (T33.setTop (mkF m 100 L32 [(.int v90_s0_31), (.int r95_34)]))) (fun t k => XS.iload X33.here hx rfl (hb hby at_98) (ldAt hL32 rfl) k) ?_
        have hc100_35 : r95_34 = v90_s0_31 := own_0_hc100_35 q1 p3 y6_44_28 r95_34 v90_s0_31 hy6_44_28 hr95_34 hv90_s0_31 hc17_22 hc25_27
        refine Gl.st (B := (T33.setTop (mkF m 103 L32 []))) (fun t k => XS.icmpNo X33.here hx rfl (hb hby at_100) rfl (teq hc100_35).2 k) ?_
        refine Gl.st (B := (T33.setTop (mkF m 104 L32 [(.int (1 : Int32))]))) (fun t k => XS.iconst X33.here hx rfl (hb hby at_103) k) ?_
        refine Gl.st (B := (T33.setTop (mkF m 108 L32 [(.int (1 : Int32))]))) (fun t k => XS.goto X33.here hx rfl (pc0 := 104) (pc' := 108) rfl (hb hby at_104) (by decide) (by decide) k) ?_
        obtain ⟨fs, hr, hrun, hended, hW, hsame⟩ := X33.leave (v := some (.int (nar .boolean (1 : Int32)))) (fun h => by rw [Bd.returns] at h; cases h)
        refine Gl.fin (retN X33 hx (t := .boolean) Bd.returns (by simp) (hb hby at_108) hr) hrun hended ⟨_, _, rfl, ?_, ⟨_, rfl⟩, hW, hsame.mono (by decide) (by decide)⟩
        show Q0 Z q1 q2 p3 p4 h0 n0 _ T33.heap _
        rw [eh33]
        exact ⟨rfl, N33⟩
      · skip
        refine Gl.st (B := (s₁.setTop (mkF m 46 L2 []))) (fun t k => XS.ifYes X0.here hx rfl (pc0 := 25) (pc' := 46) rfl (hb hby at_25) rfl ((if0 _ _).trans (flt (mt (lw_lt q1 (9223372036854775 : Int64)).mp hc25_27)).2.1) (by decide) (by decide) k) ?_
        refine Gl.st (B := (s₁.setTop (mkF m 47 L2 [(.long q1)]))) (fun t k => XS.lloadN X0.here hx rfl (hb hby at_46) (ldAt hL2 rfl) k) ?_
        refine Gl.st (B := (s₁.setTop (mkF m 48 L2 [(.long (0 : Int64)), (.long q1)]))) (fun t k => XS.lconst X0.here hx rfl (hb hby at_47) k) ?_
        refine Gl.st (B := (s₁.setTop (mkF m 49 L2 [(.int (lcmpW q1 (0 : Int64)))]))) (fun t k => XS.lcmp X0.here hx rfl (hb hby at_48) rfl k) ?_
        refine Gl.st (B := (s₁.setTop (mkF m 58 L2 []))) (fun t k => XS.ifYes X0.here hx rfl (pc0 := 49) (pc' := 58) rfl (hb hby at_49) rfl ((if0 _ _).trans (flt (mt (lw_lt q1 (0 : Int64)).mp hc17_22)).2.1) (by decide) (by decide) k) ?_
        refine Gl.st (B := (s₁.setTop (mkF m 59 L2 [(.long q1)]))) (fun t k => XS.lloadN X0.here hx rfl (hb hby at_58) (ldAt hL2 rfl) k) ?_
        refine Gl.st (B := (s₁.setTop (mkF m 62 L2 [(.long (9223372036854775 : Int64)), (.long q1)]))) (fun t k => X0.ldc2Long hx hown (mvT hZ (tw hw 1 rfl)) (g := (mkF m 59 L2 [(.long q1)])) rfl (hb hby at_59) _ k) ?_
        refine Gl.st (B := (s₁.setTop (mkF m 63 L2 [(.int (lcmpW q1 (9223372036854775 : Int64)))]))) (fun t k => XS.lcmp X0.here hx rfl (hb hby at_62) rfl k) ?_
        refine Gl.st (B := (s₁.setTop (mkF m 66 L2 []))) (fun t k => XS.ifNo X0.here hx rfl (hb hby at_63) rfl ((if0 _ _).trans (flt (mt (lw_lt q1 (9223372036854775 : Int64)).mp hc25_27)).1) k) ?_
        refine Gl.st (B := (s₁.setTop (mkF m 67 L2 [(.int (0 : Int32))]))) (fun t k => XS.iconst X0.here hx rfl (hb hby at_66) k) ?_
        obtain ⟨L36, hL36⟩ : ∃ z : Array Slot, z = #[.val (.long q1), .second, .val (.long q2), .second, .val (.int p3), .val (.int p4), .val (.long y6_5_1), .second, .val (.int (0 : Int32))] := ⟨_, rfl⟩
        refine Gl.st (B := (s₁.setTop (mkF m 69 L36 []))) (fun t k => XS.istore X0.here hx rfl (hb hby at_67) rfl (l' := L36) (stAt hL2 hL36 rfl rfl) k) ?_
        refine Gl.st (B := (s₁.setTop (mkF m 92 L36 []))) (fun t k => XS.goto X0.here hx rfl (pc0 := 69) (pc' := 92) rfl (hb hby at_69) (by decide) (by decide) k) ?_
        refine Gl.st (B := (s₁.setTop (mkF m 93 L36 [(.long q1)]))) (fun t k => XS.lloadN X0.here hx rfl (hb hby at_92) (ldAt hL36 rfl) k) ?_
        refine Gl.st (B := (s₁.setTop (mkF m 95 L36 [(.long y6_5_1), (.long q1)]))) (fun t k => XS.lload X0.here hx rfl (hb hby at_93) (ldAt hL36 rfl) k) ?_
        obtain ⟨_, _, ⟨T37, L37q, k37, n37⟩, -, X37, ⟨Lc37, hQ37, l37, y37, z37⟩, st37⟩ := Jvm.LawKit.callS X0 hx (y := (⟨"com/example/tokenpail/tokenpail/io/LocalBucket", "expired", "(JJ)Z"⟩ : MethodName)) hown (mvT hZ (tw hw 4 rfl)) (mvT hZ (tw hw 5 rfl)) (mvT hZ (tw hw 6 rfl)) (mvT hZ (tw hw 7 rfl)) (by decide) (backOf (W := 0) (rm1 l Z a0 hw [] q1 y6_5_1 h0 n0 Z0) hZ (tw hw 7 rfl) (tw hw 6 rfl) (by decide) (by decide)) (g := (mkF m 95 L36 [(.long y6_5_1), (.long q1)])) rfl (szAt hml hL36 rfl) (argsL := [(.long q1), (.long y6_5_1)]) (rest := []) (lenOf pd_0_0 rfl) rfl (by show 2 * 0 + _ ≤ _; exact Nat.le_of_eq rfl) (hb hby at_95) (fun _ _ => ⟨rfl, e0, (by decide : 0 + 0 ≤ _), (by decide : 0 + 0 ≤ _)⟩)
        dsimp only [Pt.U, Pt.locs, Pt.cells, Pt.slots] at X37 l37 y37 z37 st37 hQ37
        subst l37 y37 z37
        obtain ⟨rfl, N37q, eh37⟩ := hQ37
        have N37 := Fr.app N0 N37q
        refine Gl.st (B := (T37.setTop (mkF m 98 L36 [(.int ((if q1 < (y6_5_1 / (1000 : Int64)) then (1 : Int32) else (0 : Int32))))]))) (fun t k => st37 t k) ?_
        obtain ⟨r95_38, hr95_38⟩ : ∃ z : Int32, z = ((if q1 < (y6_5_1 / (1000 : Int64)) then (1 : Int32) else (0 : Int32))) := ⟨_, rfl⟩
        refine Gl.cast (B := (T37.setTop (mkF m 98 L36 [(.int r95_38)]))) (by rw [hr95_38]) ?_
        refine Gl.st (B := (T37.setTop (mkF m 100 L36 [(.int (0 : Int32)), (.int r95_38)]))) (fun t k => XS.iload X37.here hx rfl (hb hby at_98) (ldAt hL36 rfl) k) ?_
        have hc100_39 : r95_38 = (0 : Int32) := own_0_hc100_39 q1 q2 y6_5_1 r95_38 hy6_5_1 hr95_38 hc17_22 hc25_27
        refine Gl.st (B := (T37.setTop (mkF m 103 L36 []))) (fun t k => XS.icmpNo X37.here hx rfl (hb hby at_100) rfl (teq hc100_39).2 k) ?_
        refine Gl.st (B := (T37.setTop (mkF m 104 L36 [(.int (1 : Int32))]))) (fun t k => XS.iconst X37.here hx rfl (hb hby at_103) k) ?_
        refine Gl.st (B := (T37.setTop (mkF m 108 L36 [(.int (1 : Int32))]))) (fun t k => XS.goto X37.here hx rfl (pc0 := 104) (pc' := 108) rfl (hb hby at_104) (by decide) (by decide) k) ?_
        obtain ⟨fs, hr, hrun, hended, hW, hsame⟩ := X37.leave (v := some (.int (nar .boolean (1 : Int32)))) (fun h => by rw [Bd.returns] at h; cases h)
        refine Gl.fin (retN X37 hx (t := .boolean) Bd.returns (by simp) (hb hby at_108) hr) hrun hended ⟨_, _, rfl, ?_, ⟨_, rfl⟩, hW, hsame.mono (by decide) (by decide)⟩
        show Q0 Z q1 q2 p3 p4 h0 n0 _ T37.heap _
        rw [eh37]
        exact ⟨rfl, N37⟩
set_option maxRecDepth 65536 in
set_option maxHeartbeats 40000000 in
theorem comes_1 {Post : Tables → Env → Array Value → State → Outcome → State → Prop} (hpost : ∀ tb e args s v u, (limb_1_1.after args s (.returned v) u = true ∧ limb_1_2.after args s (.returned v) u = true ∧ True) → FrameEnd s (.returned v) u (Jvm.fieldLocs frame_1_writes args s ++ Jvm.arrayLocs frame_1_arrays args s ++ Jvm.staticLocs frame_1_statics s) 0 0 → Post tb e args s (.returned v) u) :
    ArmFor flags0 classFile x code maxLocals ret World_1 tables_1 room_1 Calls_1 rest_1 Pre_1 Post := by
  intro l hfl _ _ p e ha hc hk s m args below hf hA hF happ hP
  obtain ⟨hcalls, hrest, hpre⟩ := hP
  obtain ⟨-, -, -, hnamed, -, -, -, hat⟩ := (Spec.applies_iff hf).mp happ
  obtain ⟨hg, hn⟩ := and_e (Cond.before_iff.mp (show (Jvm.Cond.and given_1 narrow_1).before args s = true from hpre))
  obtain ⟨g1, g2⟩ := and_e hg
  obtain ⟨g3, g4⟩ := and_e g2
  obtain ⟨g5, g6⟩ := and_e g4
  obtain ⟨g7, g8⟩ := and_e g6
  obtain ⟨w0, w1, w2, w3, rfl⟩ : ∃ w0 w1 w2 w3 : Value, args = #[w0, w1, w2, w3] := by
    have hs : args.size = 4 := by simpa [Cond.value, given_1] using g1
    obtain ⟨L⟩ := args
    match L, hs with
    | [w0, w1, w2, w3], _ => exact ⟨w0, w1, w2, w3, rfl⟩
  have hw := fun d (hd : d ∈ tables_1) => atoms_spec (ws := Jvm.Cond.code x code maxLocals ret :: tables_1) hat d (List.mem_cons_of_mem _ hd)
  have hfit : Fit s := fun {y c} hc i hi => by
    obtain ⟨ha, rfl⟩ := Array.getElem?_eq_some_iff.mp hc
    have q := List.all_eq_true.mp ((Array.all_eq_true_iff_forall_mem.mp hF) _ (Array.getElem_mem ha)) i (List.mem_range.mpr hi)
    simpa [Array.getElem?_eq_getElem hi] using q
  obtain ⟨i0, ei0⟩ := isL_v g3
  obtain rfl : w0 = (.long i0) := Option.some.inj ei0
  obtain ⟨i1, ei1⟩ := isL_v g5
  obtain rfl : w1 = (.long i1) := Option.some.inj ei1
  obtain ⟨i2, ei2⟩ := is_v g7
  obtain rfl : w2 = (.int i2) := Option.some.inj ei2
  obtain ⟨i3, ei3⟩ := is_v g8
  obtain rfl : w3 = (.int i3) := Option.some.inj ei3
  obtain ⟨n, o, h1, h2, h3, _, L, rfl, ⟨rfl, N⟩, hq⟩ := rm0 l s _ hw tables_1 i0 i1 i2 i3 s.heap s.heap.size (Nat.le_refl _) p e ha hc hk s m _ below hf ((Spec.applies_iff_loose hf).mp happ).1 ⟨rfl, State.Warmed39.refl s, rfl⟩ trivial
  refine ⟨n, _, h1, h2, h3, hpost _ _ _ _ _ _ ⟨Cond.after_iff.mpr rfl, Cond.after_iff.mpr (eq_i res_at (Term.int_eval (1)) rfl), trivial⟩ ⟨hq.1, hq.2.1, (hq.2.2.sift fun y hy => Or.inr (N y hy)).mono (by decide) (by decide)⟩⟩
theorem main_1_1 : Claimed_1_1 := comes_1 fun _ _ _ _ _ _ h hF => ⟨h.1, hF⟩
theorem main_1_2 : Claimed_1_2 := comes_1 fun _ _ _ _ _ _ h hF => ⟨h.2.1, hF⟩
end Jvm.Pilot.@@N@@
namespace Jvm.Pilot.@@N@@
open Jvm Jvm.ClassFile Sem Op Lib Jvm.Free Jvm.Stand Jvm.Pilot.@@N@@.Jvm.D
/-! MADE BY PROGRAM (witnessworld.py) out of the Statement's table words and the real class files: 9 classes; the members and pool entries that the words name. The judged class is class 1, her method 1. -/
namespace start1
open Jvm.ClassFile
def u (s : String) : CpInfo := .utf8 (stringToUtf16 s)
/-- a pool by its gaps: so many unusable entries, then the entry; so many at the end -/
def gap : Nat → List CpInfo → List CpInfo
  | 0, r => r
  | n + 1, r => .unusable :: gap n r
def poolList (es : List (Nat × CpInfo)) (last : Nat) : List CpInfo := es.foldr (fun e r => gap e.1 (e.2 :: r)) (gap last [])
def pool (es : List (Nat × CpInfo)) (last : Nat) : Array CpInfo := ⟨poolList es last⟩
def fileOf (pool : Array CpInfo) (this : Nat) (attrs : Array Attribute := #[]) (ms : Array MethodInfo := #[]) (fl : Nat := 33) (sup : Nat := 0) (ifs : Array Nat := #[]) (fds : Array FieldInfo := #[]) : ClassFile where
  minorVersion := 0
  majorVersion := 65
  constantPool := pool
  accessFlags := fl
  thisClass := this
  superClass := sup
  interfaces := ifs
  fields := fds
  methods := ms
  attributes := attrs
def plain (name : String) (sup : Option ClassId) : Class where
  name := name
  kind := .ordinary
  loader := none
  accessFlags := 33
  super := sup
  interfaces := #[]
  cf := none
  fields := #[]
  methods := #[]
  instanceTypes := #[]
  staticTypes := #[]
  resolved := #[]
  callSites := []
  init := .initialized
  statics := none
  mirror := none

def pool0 : Array CpInfo := pool [(5, u "<init>"), (0, u "()V"), (1, .class_ 10), (1, u "java/lang/Object")] 113

def k0m0 : Method := { name := "<init>", desc := "()V", sig := { parameters := [], returnType := none }, accessFlags := 1, code := none }
/-- java/lang/Object -/
def k0 : Class := { plain "java/lang/Object" none with
  accessFlags := 33
  interfaces := #[]
  cf := some (fileOf pool0 8 #[] #[{ accessFlags := 1, nameIndex := 5, descriptorIndex := 6, attributes := #[] }] 33 0 #[] #[])
  fields := #[]
  methods := #[k0m0]
  instanceTypes := #[]
  staticTypes := #[]
  resolved := Array.replicate 124 none
  statics := none }

def pool1 : Array CpInfo := pool [(2, .class_ 4), (1, u "java/lang/Object"), (0, u "<init>"), (0, u "()V"), (2, .long 9223372036854775807), (1, .long 9223372036854775), (1, .long 1000), (1, .integer 2147483647), (0, .methodref 17 18), (0, .class_ 19), (0, .nameAndType 20 21), (0, u "com/example/tokenpail/tokenpail/io/LocalBucket"), (0, u "expired"), (0, u "(JJ)Z"), (0, .class_ 23), (0, u "com/example/tokenpail/tokenpail/io/LocalBucketExpiredPinLaw"), (2, u "law"), (0, u "(JJII)Z")] 3

def k1m0 : Method := { name := "<init>", desc := "()V", sig := { parameters := [], returnType := none }, accessFlags := 1, code := none }
def k1c1 : Code := { maxStack := 6, maxLocals := 9, code := code, exceptionTable := #[], attributes := #[] }
def k1m1 : Method := { name := "law", desc := "(JJII)Z", sig := { parameters := [.long, .long, .int, .int], returnType := some .boolean }, accessFlags := 9, code := some k1c1 }
/-- com/example/tokenpail/tokenpail/io/LocalBucketExpiredPinLaw -/
def k1 : Class := { plain "com/example/tokenpail/tokenpail/io/LocalBucketExpiredPinLaw" (some 0) with
  accessFlags := 49
  interfaces := #[]
  cf := some (fileOf pool1 22 #[] #[{ accessFlags := 1, nameIndex := 5, descriptorIndex := 6, attributes := #[] }, { accessFlags := 9, nameIndex := 26, descriptorIndex := 27, attributes := #[] }] 49 2 #[] #[])
  fields := #[]
  methods := #[k1m0, k1m1]
  instanceTypes := #[]
  staticTypes := #[]
  resolved := Array.replicate 31 none
  statics := none }

def pool2 : Array CpInfo := pool [(2, .class_ 4), (1, u "java/lang/Object"), (0, u "<init>"), (0, u "()V"), (4, .class_ 13), (1, u "com/example/tokenpail/tokenpail/io/LocalBucket"), (0, u "window"), (0, u "Lcom/example/tokenpail/tokenpail/io/LocalWindow;"), (2, u "config"), (0, u "Lcom/example/tokenpail/tokenpail/model/Limit;"), (2, u "configUntilMs"), (0, u "J"), (2, u "expired"), (0, u "(JJ)Z"), (0, .long 1000), (3, u "CONFIG_TTL_MS"), (35, u "held"), (0, u "Z"), (2, u "bucketUntilMs"), (2, u "tokens"), (2, u "frac"), (2, u "ts"), (2, u "due"), (2, u "countedMs"), (128, u "FULL_TTL_MS"), (1, u "MICROS_PER_MILLI")] 11

def k2m0 : Method := { name := "<init>", desc := "()V", sig := { parameters := [], returnType := none }, accessFlags := 0, code := none }
def k2c1 : Code := { maxStack := 4, maxLocals := 4, code := prog_11_method_10_code, exceptionTable := #[], attributes := #[] }
def k2m1 : Method := { name := "expired", desc := "(JJ)Z", sig := { parameters := [.long, .long], returnType := some .boolean }, accessFlags := 8, code := some k2c1 }
/-- com/example/tokenpail/tokenpail/io/LocalBucket -/
def k2 : Class := { plain "com/example/tokenpail/tokenpail/io/LocalBucket" (some 0) with
  accessFlags := 48
  interfaces := #[]
  cf := some (fileOf pool2 11 #[] #[{ accessFlags := 0, nameIndex := 5, descriptorIndex := 6, attributes := #[] }, { accessFlags := 8, nameIndex := 26, descriptorIndex := 27, attributes := #[] }] 48 2 #[] #[{ accessFlags := 26, nameIndex := 32, descriptorIndex := 23, attributes := #[] }, { accessFlags := 26, nameIndex := 216, descriptorIndex := 23, attributes := #[] }, { accessFlags := 26, nameIndex := 218, descriptorIndex := 23, attributes := #[] }, { accessFlags := 2, nameIndex := 18, descriptorIndex := 19, attributes := #[] }, { accessFlags := 2, nameIndex := 22, descriptorIndex := 23, attributes := #[] }, { accessFlags := 2, nameIndex := 68, descriptorIndex := 69, attributes := #[] }, { accessFlags := 2, nameIndex := 72, descriptorIndex := 23, attributes := #[] }, { accessFlags := 2, nameIndex := 75, descriptorIndex := 23, attributes := #[] }, { accessFlags := 2, nameIndex := 78, descriptorIndex := 23, attributes := #[] }, { accessFlags := 2, nameIndex := 81, descriptorIndex := 23, attributes := #[] }, { accessFlags := 2, nameIndex := 87, descriptorIndex := 23, attributes := #[] }, { accessFlags := 2, nameIndex := 84, descriptorIndex := 23, attributes := #[] }, { accessFlags := 18, nameIndex := 14, descriptorIndex := 15, attributes := #[] }])
  fields := #[{ name := "CONFIG_TTL_MS", type := .long, accessFlags := 26, slot := 0, constantValue := 0 }, { name := "FULL_TTL_MS", type := .long, accessFlags := 26, slot := 1, constantValue := 0 }, { name := "MICROS_PER_MILLI", type := .long, accessFlags := 26, slot := 2, constantValue := 0 }, { name := "config", type := (.object "com/example/tokenpail/tokenpail/model/Limit"), accessFlags := 2, slot := 0, constantValue := 0 }, { name := "configUntilMs", type := .long, accessFlags := 2, slot := 1, constantValue := 0 }, { name := "held", type := .boolean, accessFlags := 2, slot := 2, constantValue := 0 }, { name := "bucketUntilMs", type := .long, accessFlags := 2, slot := 3, constantValue := 0 }, { name := "tokens", type := .long, accessFlags := 2, slot := 4, constantValue := 0 }, { name := "frac", type := .long, accessFlags := 2, slot := 5, constantValue := 0 }, { name := "ts", type := .long, accessFlags := 2, slot := 6, constantValue := 0 }, { name := "countedMs", type := .long, accessFlags := 2, slot := 7, constantValue := 0 }, { name := "due", type := .long, accessFlags := 2, slot := 8, constantValue := 0 }, { name := "window", type := (.object "com/example/tokenpail/tokenpail/io/LocalWindow"), accessFlags := 18, slot := 9, constantValue := 0 }]
  methods := #[k2m0, k2m1]
  instanceTypes := #[(.object "com/example/tokenpail/tokenpail/model/Limit"), .long, .boolean, .long, .long, .long, .long, .long, .long, (.object "com/example/tokenpail/tokenpail/io/LocalWindow")]
  staticTypes := #[.long, .long, .long]
  resolved := Array.replicate 230 none
  statics := none }

def pool3 : Array CpInfo := pool [(1, u "java/lang/Cloneable"), (0, .class_ 1), (0, u "java/lang/Object"), (0, .class_ 3)] 3

/-- java/lang/Cloneable -/
def k3 : Class := { plain "java/lang/Cloneable" (some 0) with
  accessFlags := 1537
  interfaces := #[]
  cf := some (fileOf pool3 2 #[] #[] 1537 4 #[] #[])
  fields := #[]
  methods := #[]
  instanceTypes := #[]
  staticTypes := #[]
  resolved := Array.replicate 8 none
  statics := none }

def pool4 : Array CpInfo := pool [(1, u "java/io/Serializable"), (0, .class_ 1), (0, u "java/lang/Object"), (0, .class_ 3)] 3

/-- java/io/Serializable -/
def k4 : Class := { plain "java/io/Serializable" (some 0) with
  accessFlags := 1537
  interfaces := #[]
  cf := some (fileOf pool4 2 #[] #[] 1537 4 #[] #[])
  fields := #[]
  methods := #[]
  instanceTypes := #[]
  staticTypes := #[]
  resolved := Array.replicate 8 none
  statics := none }

/-- the primitive byte -/
def k5 : Class := { plain "byte" none with kind := .primitive 'B', accessFlags := 0x411 }
/-- [B -/
def k6 : Class := { plain "[B" (some 0) with kind := .array 5 .byte, interfaces := #[3, 4], accessFlags := 1041 }

/-- the primitive int -/
def k7 : Class := { plain "int" none with kind := .primitive 'I', accessFlags := 0x411 }
/-- [I -/
def k8 : Class := { plain "[I" (some 0) with kind := .array 7 .int, interfaces := #[3, 4], accessFlags := 1041 }

def heap : Heap := #[]
def classes : Array Class := #[k0, k1, k2, k3, k4, k5, k6, k7, k8]
def interned : List (Array UInt16 × Addr) := []
def slotsUsed : Nat := 0
def theMethod : MethodId := ⟨1, 1⟩
def args0 : Array Value := #[.long 5, .long 5, .int 5, .int 5]
def aboutOver (below : List Frame) : State where
  vm := { classes := classes, interned := interned.toArray }
  heap := heap
  slotsUsed := slotsUsed
  threads := #[{ frames := .invoking theMethod args0 :: below }]
def below0 : List Frame := [.native { method := ⟨0, 0⟩, args := #[] }]
def about1 : State := aboutOver below0
def p0 : Program := .bare "" "" ""
def e0 : Env := launch0.env 0 0 0
theorem w_frames : about1.frames = Frame.invoking theMethod args0 :: below0 := rfl
set_option maxRecDepth 65536 in
theorem w_args : argsFit about1.vm theMethod args0 = true := by decide +kernel
set_option maxRecDepth 65536 in
theorem w_heap : heapFits about1 = true := by decide +kernel
set_option maxRecDepth 65536 in
theorem w_runnable : about1.curStatus? = some .runnable := by decide +kernel
set_option maxRecDepth 65536 in
theorem w_alone : about1.alone = true := by decide +kernel
set_option maxRecDepth 65536 in
theorem w_named : about1.methodNamed? x = some theMethod := by decide +kernel
set_option maxRecDepth 65536 in
theorem w_hears : about1.hears theMethod below0 = true := by decide +kernel
set_option maxRecDepth 65536 in
theorem w_ripe : about1.ripe theMethod args0 below0 = true := by decide +kernel
theorem w_running : about1.status = .running := rfl
set_option maxRecDepth 65536 in
theorem w_room : about1.hasRoom e0.platform room_1 = true :=
  launch0.hasRoom_least _ room_1 (by decide +kernel) (by decide +kernel) (by decide +kernel) (by decide +kernel) (by decide +kernel) (by decide +kernel)
theorem allAtoms_all (ts : List Jvm.Cond) (a : Array Jvm.Value) (st : Jvm.State) : (allAtoms ts).before a st = ts.all (fun c => c.before a st) := by
  induction ts with
  | nil => rfl
  | cons c t ih =>
    show (Jvm.Cond.and c (allAtoms t)).before a st = _
    rw [Jvm.Cond.before_and, ih, List.all_cons]
def words1 : List Jvm.Cond := Jvm.Cond.code x code maxLocals ret :: tables_1
/-- a 'code' word, met by the world's own term for the bytes: nothing is compared byte by byte -/
theorem code_word {y : MethodName} {bytes : ByteArray} {mx : Nat} {rt : Option FieldType} {a : Array Value} {s : State} {m : MethodId} {meth : Method} {c : Code} (h1 : s.methodNamed? y = some m) (h2 : s.vm.method? m = some meth) (h3 : meth.code = some c) (h4 : c.code = bytes)
    (h5 : (c.maxLocals == mx && c.exceptionTable.isEmpty && decide (c.maxStack ≤ mostOperands) && decide (meth.sig.returnType = rt) && !meth.locks && decide (parseMethodDescriptor y.desc = some meth.sig)) = true) : (Jvm.Cond.code y bytes mx rt).before a s = true := by
  simp only [Bool.and_eq_true, beq_iff_eq, Bool.not_eq_true', decide_eq_true_eq] at h5
  obtain ⟨⟨⟨⟨⟨g1, g2⟩, g3⟩, g4⟩, g5⟩, g6⟩ := h5
  simp [Cond.before, Cond.holds, Cond.value, h1, h2, h3, h4, g1, g2, g3, g4, g5, g6]
def isCode : Jvm.Cond → Bool
  | .code _ _ _ _ => true
  | _ => false
theorem all_split {L : List Jvm.Cond} {P : Jvm.Cond → Bool} (h1 : L.all (fun c => isCode c || P c) = true) (h2 : ∀ c ∈ L.filter isCode, P c = true) : L.all P = true := by
  refine List.all_eq_true.mpr fun c hc => ?_
  have h := List.all_eq_true.mp h1 c hc
  rcases Bool.eq_false_or_eq_true (isCode c) with hi | hi
  · exact h2 c (List.mem_filter.mpr ⟨hc, hi⟩)
  · simpa [hi] using h
set_option maxRecDepth 65536 in
theorem w_c0 : (Jvm.Cond.code x code maxLocals ret).before args0 about1 = true := code_word (m := ⟨1, 1⟩) (meth := k1m1) (c := k1c1) (by decide +kernel) rfl rfl rfl (by decide +kernel)
set_option maxRecDepth 65536 in
theorem w_c1 : (Jvm.Cond.code ({ cls := "com/example/tokenpail/tokenpail/io/LocalBucket", name := "expired", desc := "(JJ)Z" } : Jvm.MethodName) prog_11_method_10_code (4 : Nat) (Option.some Jvm.ClassFile.FieldType.boolean)).before args0 about1 = true := code_word (m := ⟨2, 1⟩) (meth := k2m1) (c := k2c1) (by decide +kernel) rfl rfl rfl (by decide +kernel)
def codes1 : List Jvm.Cond := [Jvm.Cond.code x code maxLocals ret, Jvm.Cond.code ({ cls := "com/example/tokenpail/tokenpail/io/LocalBucket", name := "expired", desc := "(JJ)Z" } : Jvm.MethodName) prog_11_method_10_code (4 : Nat) (Option.some Jvm.ClassFile.FieldType.boolean)]
set_option maxRecDepth 65536 in
theorem codes_eq : words1.filter isCode = codes1 := rfl
theorem w_codes : ∀ c ∈ words1.filter isCode, c.before args0 about1 = true := by
  rw [codes_eq]
  intro c hc
  simp only [codes1, List.mem_cons, List.not_mem_nil, or_false] at hc
  rcases hc with rfl | rfl
  · exact w_c0
  · exact w_c1
set_option maxRecDepth 65536 in
theorem w_t1 : words1.all (fun c => isCode c || c.before args0 about1) = true := by decide +kernel
theorem w_tables : (allAtoms (Jvm.Cond.code x code maxLocals ret :: tables_1)).before args0 about1 = true := by
  rw [allAtoms_all]
  show words1.all (fun c => c.before args0 about1) = true
  refine all_split ?_ w_codes
  rw [w_t1]
set_option maxRecDepth 65536 in
theorem w_case : (Jvm.Cond.and given_1 narrow_1).before args0 about1 = true := by decide +kernel
theorem w_applies : (headSpec (Jvm.Cond.code x code maxLocals ret :: tables_1) room_1).applies x e0.platform about1 = true :=
  (Spec.applies_iff w_frames).mpr ⟨w_running, w_runnable, w_alone, w_named, w_hears, w_ripe, w_room, w_tables⟩
theorem atStart : AtStart classFile x code maxLocals ret World_1 tables_1 room_1 Calls_1 rest_1 Pre_1 launch0 p0 e0 about1 theMethod args0 below0 :=
  ⟨lists_1, trivial, launch0.admits_env _ _ _, launch0.least_env, fairChoices_fair.cas, fairChoices_fair.clock, w_frames, w_args, w_heap, w_applies, trivial, trivial, w_case⟩
end start1
theorem witness_1 : WitnessClaimed_1 := ⟨start1.p0, start1.e0, start1.about1, start1.theMethod, start1.args0, start1.below0, start1.atStart⟩
end Jvm.Pilot.@@N@@
