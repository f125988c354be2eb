import JvmDerived
import JvmDerived.Pilot.@@N@@Statement
import JvmDerived.Pilot.@@N@@Code
set_option linter.unusedVariables false
set_option linter.unusedSimpArgs false
namespace Jvm.RoadKit
open Sem ClassFile Op Lib Jvm.Stand Jvm.Free Jvm.LawKit
section New
variable {p : Program} {l : Launch} {e : Env} {R : Room} {s : State} {m : MethodId} {args : Array Value} {below : List Frame} {meth : Method} {c : Code} {T : State} {locs : List Loc} {cells slots : Nat}
theorem retI (X : Stand p l e R s m args below meth c T locs cells slots) (hx : p.tables.exec = Jvm.exec) {pc : Nat} {Ls : Array Slot} {z : Int32} {rest : List Value} (hret : meth.sig.returnType = some .int) (hd : decode c.code pc = .ok (.ireturn, 1)) {fs : List Frame}
    (hl : ∀ (f : JFrame) (acts : List Action), f.method = m → f.locked = none → f.entered = [] → (doReturn e (T.setTop f) acts (some (.int z))).1 = T.setFrames fs) : Steps p.tables e below (T.setTop (mkF m pc Ls (.int z :: rest))) (T.setFrames fs) := by
  have hm' : T.vm.method? m = some meth := X.method'
  have hn : narrow .int (.int z) = .int z := rfl
  show Steps p.tables e below (T.setTop { method := m, pc := pc, locals := Ls, stack := _ :: rest, locked := none }) _
  jvm_step X.here [X.here.top, hx, hd, hm', hret, hn]
  first | (intro acts; rw [hl _ acts rfl rfl rfl]) | rw [hl _ _ rfl rfl rfl]
  exact Steps.refl _
end New
end Jvm.RoadKit
namespace Jvm.Pilot.@@N@@
open Jvm Jvm.ClassFile Sem Op Lib Jvm.Free Jvm.Stand Jvm.LawKit Jvm.RoadKit Bundle Jvm.Pilot.@@N@@.Jvm.D
def Gl (p : Program) (e : Env) (below : List Frame) (Q : Outcome → State → Prop) (A : State) : Prop := ∃ t o, Steps p.tables e below A t ∧ t.status = .running ∧ Ended t below o ∧ Q o t
theorem Gl.st {p : Program} {e : Env} {below : List Frame} {Q : Outcome → State → Prop} {A B : State} (k : ∀ t, Steps p.tables e below B t → Steps p.tables e below A t) (h : Gl p e below Q B) : Gl p e below Q A := by
  obtain ⟨t, o, h1, r⟩ := h
  exact ⟨t, o, k t h1, r⟩
theorem Gl.cast {p : Program} {e : Env} {below : List Frame} {Q : Outcome → State → Prop} {A B : State} (k : A = B) (h : Gl p e below Q B) : Gl p e below Q A := k ▸ h
theorem Gl.join {p : Program} {e : Env} {below : List Frame} {Q : Outcome → State → Prop} {A B : State} (k : Gl p e below Q A → Gl p e below Q B) (h : Gl p e below Q A) : Gl p e below Q B := k h
theorem Gl.fin {p : Program} {e : Env} {below : List Frame} {Q : Outcome → State → Prop} {A t : State} {o : Outcome} (h1 : Steps p.tables e below A t) (h2 : t.status = .running) (h3 : Ended t below o) (h4 : Q o t) : Gl p e below Q A := ⟨t, o, h1, h2, h3, h4⟩
theorem tw {a0 : Array Value} {Z : State} (hw : ∀ d ∈ tables_1, d.before a0 Z = true) (i : Nat) {d : Jvm.Cond} (h : tables_1[i]? = some d) : d.before a0 Z = true := hw _ (List.mem_of_getElem? h)
theorem ldAt {L M : Array Slot} (h : L = M) {k : Nat} {v : Slot} (q : M[k]? = some v) : L[k]? = some v := h ▸ q
theorem stAt {L M L' M' : Array Slot} {k : Nat} {v w : Value} (h : L = M) (h' : L' = M') (e : w = v) (q : storeLocals M k v = some M') : storeLocals L k w = some L' := by subst h h' e; exact q
theorem stAt' {L M L' M' : Array Slot} {k : Nat} {v w : Value} (h : L = M) (h' : L' = M') (e : w = v) (q : storeLocals M k v = some M') : storeLocals L k w = some L' := by subst h h' e; exact q
theorem szAt {L M : Array Slot} {k n : Nat} (h : k = n) (h' : L = M) (q : M.size = n) : L.size = k := by subst h h'; exact q
theorem efAt {m : MethodId} {L M : Array Slot} {f : JFrame} (h : L = M) (q : f = mkF m 0 M []) : f = mkF m 0 L [] := h ▸ q
theorem own_nb {c : Prop} [Decidable c] {a b : Int32} (ha : nar .boolean a = a) (hb : nar .boolean b = b) : nar .boolean (if c then a else b) = if c then a else b := by split <;> assumption
theorem own_eqL {args : Array Value} {s : State} {t : Term} {z : Int64} (h : (Jvm.Cond.eq t (.long z)).value args s none s [] = some true) : t.eval args s none [] s = some (.long z) := by
  obtain ⟨x, y, ha, hb, k1, k2⟩ := cmp_v (Or.inl h)
  obtain rfl : y = .long z := Option.some.inj (hb.symm.trans (long_at z))
  obtain ⟨w, rfl⟩ : ∃ w, x = .long w := k2
  rw [ha, gotT (eq_L ha hb) h]
theorem own_eqI {args : Array Value} {s : State} {t : Term} {z : Int32} (h : (Jvm.Cond.eq t (.int z)).value args s none s [] = some true) : t.eval args s none [] s = some (.int z) := by
  obtain ⟨x, y, ha, hb, k1, k2⟩ := cmp_v (Or.inl h)
  obtain rfl : y = .int z := Option.some.inj (hb.symm.trans (Term.int_eval z))
  obtain ⟨w, rfl⟩ : ∃ w, x = .int w := k2
  rw [ha, gotT (Cond.eq_ints ha hb) h]
theorem own_sta_keep {Z : State} {h h' : Heap} {C n d : String} {v : Value} {ws : List Addr} (F : Sta Z h C n d v) (K : Keep h h' ws) (q : ∀ x ∈ ws, ∀ cell : Cell, h[x]? = some cell → cell.vm.isStatics = false) : Sta Z h' C n d v := by
  obtain ⟨cf, i, k, f, a, cell, h1, h2, h3, h4, h5, h6, r⟩ := F
  exact ⟨cf, i, k, f, a, cell, h1, h2, h3, h4, K.2.1 a cell h5 (fun y => by have := q a y cell h5; rw [h6] at this; cases this), h6, r⟩
theorem own_exa_plain {Z : State} {h : Heap} {a : Addr} {C : String} (F : Exa Z h a C) : ∀ cell : Cell, h[a]? = some cell → cell.vm.isStatics = false := fun cell hc => by
  obtain ⟨c', k, h1, -, -, h4, -⟩ := F
  rw [h1] at hc; cases hc; exact h4
theorem own_arv_plain {Z : State} {h : Heap} {a : Addr} {k : ClassId} {ty : FieldType} {z : Int32} {vs : List Value} {dv : Value} (F : Arv Z h a k ty z vs dv) : ∀ cell : Cell, h[a]? = some cell → cell.vm.isStatics = false := fun cell hc => by
  obtain ⟨c', A, -⟩ := F
  have := A.1; rw [this] at hc; cases hc; exact A.plain
theorem d1_0 : decode prog_57_method_5_code 0 = .ok (.iload_n 0, 1) := by decide +kernel
theorem d1_1 : decode prog_57_method_5_code 1 = .ok (.iload_n 1, 1) := by decide +kernel
theorem d1_2 : decode prog_57_method_5_code 2 = .ok (.if_icmp .ne 10, 3) := by decide +kernel
theorem d1_5 : decode prog_57_method_5_code 5 = .ok (.getstatic 3, 3) := by decide +kernel
theorem d1_8 : decode prog_57_method_5_code 8 = .ok (.astore_n 2, 1) := by decide +kernel
theorem d1_9 : decode prog_57_method_5_code 9 = .ok (.goto 18, 3) := by decide +kernel
theorem d1_12 : decode prog_57_method_5_code 12 = .ok (.iload_n 0, 1) := by decide +kernel
theorem d1_13 : decode prog_57_method_5_code 13 = .ok (.ifCond .eq 10, 3) := by decide +kernel
theorem d1_16 : decode prog_57_method_5_code 16 = .ok (.getstatic 7, 3) := by decide +kernel
theorem d1_19 : decode prog_57_method_5_code 19 = .ok (.astore_n 2, 1) := by decide +kernel
theorem d1_20 : decode prog_57_method_5_code 20 = .ok (.goto 7, 3) := by decide +kernel
theorem d1_23 : decode prog_57_method_5_code 23 = .ok (.getstatic 10, 3) := by decide +kernel
theorem d1_26 : decode prog_57_method_5_code 26 = .ok (.astore_n 2, 1) := by decide +kernel
theorem d1_27 : decode prog_57_method_5_code 27 = .ok (.aload_n 2, 1) := by decide +kernel
theorem d1_28 : decode prog_57_method_5_code 28 = .ok (.areturn, 1) := by decide +kernel
theorem pn_1 : plainName "com/example/stale_to_safe/staletosafe/replay/Verdict" = true := by first | (simp [plainName, overriddenIn]; done) | decide +kernel
theorem ef_1 (m : MethodId) (p1 : Int32) (p2 : Int32) : entryFrame m #[(.int p1), (.int p2)] 3 = mkF m 0 #[.val (.int p1), .val (.int p2), .unset] [] := by first | (simp [entryFrame, mkF, argsToLocals, Value.category]; done) | rfl
def Q1 (Z : State) (p1 : Int32) (p2 : Int32) (z_OK : Addr) (z_FALSE_DENY : Addr) (z_UNSAFE_GRANT : Addr) (h0 : Heap) (n0 : Nat) (v : Option Value) (h : Heap) (L : List Loc) : Prop := v = some (.ref (if p1 = p2 then z_OK else (if p1 = (0 : Int32) then z_FALSE_DENY else z_UNSAFE_GRANT))) ∧ Fr n0 L ∧ h = h0
set_option maxRecDepth 65536 in
set_option maxHeartbeats 40000000 in
theorem rm1 (l : Launch) (Z : State) (a0 : Array Value) (hw : ∀ d ∈ tables_1, d.before a0 Z = true) (ws : List Jvm.Cond) (p1 : Int32) (p2 : Int32) (z_OK : Addr) (z_FALSE_DENY : Addr) (z_UNSAFE_GRANT : Addr) (h0 : Heap) (n0 : Nat) (Z0 : n0 ≤ h0.size) (S_OK : Sta Z h0 "com/example/stale_to_safe/staletosafe/replay/Verdict" "OK" "Lcom/example/stale_to_safe/staletosafe/replay/Verdict;" (.ref z_OK)) (S_FALSE_DENY : Sta Z h0 "com/example/stale_to_safe/staletosafe/replay/Verdict" "FALSE_DENY" "Lcom/example/stale_to_safe/staletosafe/replay/Verdict;" (.ref z_FALSE_DENY)) (S_UNSAFE_GRANT : Sta Z h0 "com/example/stale_to_safe/staletosafe/replay/Verdict" "UNSAFE_GRANT" "Lcom/example/stale_to_safe/staletosafe/replay/Verdict;" (.ref z_UNSAFE_GRANT)) :
    MetFree l (⟨"com/example/stale_to_safe/staletosafe/replay/Verdict", "of", "(ZZ)Lcom/example/stale_to_safe/staletosafe/replay/Verdict;"⟩ : MethodName) (head1 (Jvm.Cond.code (⟨"com/example/stale_to_safe/staletosafe/replay/Verdict", "of", "(ZZ)Lcom/example/stale_to_safe/staletosafe/replay/Verdict;"⟩ : MethodName) prog_57_method_5_code 3 (some (.object "com/example/stale_to_safe/staletosafe/replay/Verdict")) :: ws) ({ frames := 0, cells := 0, slots := 0, locals := 0 } : Room)) (fun a U => a = #[(.int p1), (.int p2)] ∧ Z.Warmed39 U.vm ∧ U.heap = h0) (fun _ _ _ _ _ => True) (fun _ U o U' => ∃ v L, o = .returned v ∧ Q1 Z p1 p2 z_OK z_FALSE_DENY z_UNSAFE_GRANT h0 n0 v U'.heap L ∧ FrameEnd U o U' L ({ frames := 0, cells := 0, slots := 0, locals := 0 } : Room).cells ({ frames := 0, cells := 0, slots := 0, locals := 0 } : Room).slots) := by
  refine MetFree.of_bodySF (plainFor_of_name pn_1) hisR ?_
  intro p e s m args below meth c s₁ Bd hml0 hP hK
  obtain ⟨rfl, hZ, hh⟩ := hP
  have hx := Bd.exec
  have hby := Bd.bytes
  have hml : c.maxLocals = 3 := hml0
  have hown : s.vm.findClass "com/example/stale_to_safe/staletosafe/replay/Verdict" = some m.cls := findClass_of_methodNamed Bd.named
  have hnm := (name_of_methodNamed Bd.named Bd.method).1
  have X0 : Stand p l e ({ frames := 0, cells := 0, slots := 0, locals := 0 } : Room) s m #[(.int p1), (.int p2)] below meth c s₁ [] 0 0 := Stand.of_body Bd
  have e0 : s₁.heap = h0 := by rw [← hh, Bd.state]; rfl
  have N0 := Fr.nil n0
  have K0 : Keep h0 h0 [] := Keep.refl h0 _
  refine (show Gl p e below (fun o U' => ∃ v L, o = .returned v ∧ Q1 Z p1 p2 z_OK z_FALSE_DENY z_UNSAFE_GRANT h0 n0 v U'.heap L ∧ FrameEnd s o U' L ({ frames := 0, cells := 0, slots := 0, locals := 0 } : Room).cells ({ frames := 0, cells := 0, slots := 0, locals := 0 } : Room).slots) (s₁.setTop (entryFrame m #[(.int p1), (.int p2)] 3)) from ?_)
  obtain ⟨L0, hL0⟩ : ∃ z : Array Slot, z = #[.val (.int p1), .val (.int p2), .unset] := ⟨_, rfl⟩
  refine Gl.st (B := (s₁.setTop (mkF m 0 L0 []))) (fun t k => castTop (efAt hL0 (ef_1 m p1 p2)) k) ?_
  refine Gl.st (B := (s₁.setTop (mkF m 1 L0 [(.int p1)]))) (fun t k => XS.iloadN X0.here hx rfl (hb hby d1_0) (ldAt hL0 rfl) k) ?_
  refine Gl.st (B := (s₁.setTop (mkF m 2 L0 [(.int p2), (.int p1)]))) (fun t k => XS.iloadN X0.here hx rfl (hb hby d1_1) (ldAt hL0 rfl) k) ?_
  by_cases hc2_1 : p1 = p2
  · skip
    refine Gl.st (B := (s₁.setTop (mkF m 5 L0 []))) (fun t k => XS.icmpNo X0.here hx rfl (hb hby d1_2) rfl (teq hc2_1).2 k) ?_
    obtain ⟨T2, X2, e2, st2⟩ := getS2 X0 hx hZ hown (host := "") (Or.inl (tw hw 7 rfl)) Via.refl e0 S_OK (g := (mkF m 5 L0 [])) rfl (hb hby d1_5)
    refine Gl.st (B := (T2.setTop (mkF m 8 L0 [(.ref z_OK)]))) st2 ?_
    obtain ⟨L3, hL3⟩ : ∃ z : Array Slot, z = #[.val (.int p1), .val (.int p2), .val (.ref z_OK)] := ⟨_, rfl⟩
    refine Gl.st (B := (T2.setTop (mkF m 9 L3 []))) (fun t k => XS.astoreN X2.here hx rfl (hb hby d1_8) rfl rfl (l' := L3) (stAt hL0 hL3 rfl rfl) k) ?_
    refine Gl.st (B := (T2.setTop (mkF m 27 L3 []))) (fun t k => XS.goto X2.here hx rfl (pc0 := 9) (pc' := 27) rfl (hb hby d1_9) (by decide) (by decide) k) ?_
    refine Gl.st (B := (T2.setTop (mkF m 28 L3 [(.ref z_OK)]))) (fun t k => XS.aloadN X2.here hx rfl (hb hby d1_27) (ldAt hL3 rfl) rfl k) ?_
    obtain ⟨fs, hr, hrun, hended, hW, hsame⟩ := X2.leave (v := some (.ref z_OK)) (fun h => by rw [Bd.returns] at h; cases h)
    refine Gl.fin (X2.areturnOut hx rfl Bd.returns rfl (hb hby d1_28) hr) hrun hended ⟨_, _, rfl, ?_, ⟨_, rfl⟩, hW, hsame.mono (by decide) (by decide)⟩
    show Q1 Z p1 p2 z_OK z_FALSE_DENY z_UNSAFE_GRANT h0 n0 _ T2.heap _
    rw [e2]
    exact ⟨(by rw [if_pos hc2_1]), N0, rfl⟩
  · skip
    refine Gl.st (B := (s₁.setTop (mkF m 12 L0 []))) (fun t k => XS.icmpYes X0.here hx rfl (pc0 := 2) (pc' := 12) rfl (hb hby d1_2) rfl (feq hc2_1).2 (by decide) (by decide) k) ?_
    refine Gl.st (B := (s₁.setTop (mkF m 13 L0 [(.int p1)]))) (fun t k => XS.iloadN X0.here hx rfl (hb hby d1_12) (ldAt hL0 rfl) k) ?_
    by_cases hc13_4 : p1 = (0 : Int32)
    · skip
      refine Gl.st (B := (s₁.setTop (mkF m 23 L0 []))) (fun t k => XS.ifYes X0.here hx rfl (pc0 := 13) (pc' := 23) rfl (hb hby d1_13) rfl ((if0 _ _).trans (teq hc13_4).1) (by decide) (by decide) k) ?_
      obtain ⟨T5, X5, e5, st5⟩ := getS2 X0 hx hZ hown (host := "") (Or.inl (tw hw 4 rfl)) Via.refl e0 S_FALSE_DENY (g := (mkF m 23 L0 [])) rfl (hb hby d1_23)
      refine Gl.st (B := (T5.setTop (mkF m 26 L0 [(.ref z_FALSE_DENY)]))) st5 ?_
      obtain ⟨L6, hL6⟩ : ∃ z : Array Slot, z = #[.val (.int p1), .val (.int p2), .val (.ref z_FALSE_DENY)] := ⟨_, rfl⟩
      refine Gl.st (B := (T5.setTop (mkF m 27 L6 []))) (fun t k => XS.astoreN X5.here hx rfl (hb hby d1_26) rfl rfl (l' := L6) (stAt hL0 hL6 rfl rfl) k) ?_
      refine Gl.st (B := (T5.setTop (mkF m 28 L6 [(.ref z_FALSE_DENY)]))) (fun t k => XS.aloadN X5.here hx rfl (hb hby d1_27) (ldAt hL6 rfl) rfl k) ?_
      obtain ⟨fs, hr, hrun, hended, hW, hsame⟩ := X5.leave (v := some (.ref z_FALSE_DENY)) (fun h => by rw [Bd.returns] at h; cases h)
      refine Gl.fin (X5.areturnOut hx rfl Bd.returns rfl (hb hby d1_28) hr) hrun hended ⟨_, _, rfl, ?_, ⟨_, rfl⟩, hW, hsame.mono (by decide) (by decide)⟩
      show Q1 Z p1 p2 z_OK z_FALSE_DENY z_UNSAFE_GRANT h0 n0 _ T5.heap _
      rw [e5]
      exact ⟨(by rw [if_neg hc2_1, if_pos hc13_4]), N0, rfl⟩
    · skip
      refine Gl.st (B := (s₁.setTop (mkF m 16 L0 []))) (fun t k => XS.ifNo X0.here hx rfl (hb hby d1_13) rfl ((if0 _ _).trans (feq hc13_4).1) k) ?_
      obtain ⟨T7, X7, e7, st7⟩ := getS2 X0 hx hZ hown (host := "") (Or.inl (tw hw 10 rfl)) Via.refl e0 S_UNSAFE_GRANT (g := (mkF m 16 L0 [])) rfl (hb hby d1_16)
      refine Gl.st (B := (T7.setTop (mkF m 19 L0 [(.ref z_UNSAFE_GRANT)]))) st7 ?_
      obtain ⟨L8, hL8⟩ : ∃ z : Array Slot, z = #[.val (.int p1), .val (.int p2), .val (.ref z_UNSAFE_GRANT)] := ⟨_, rfl⟩
      refine Gl.st (B := (T7.setTop (mkF m 20 L8 []))) (fun t k => XS.astoreN X7.here hx rfl (hb hby d1_19) rfl rfl (l' := L8) (stAt hL0 hL8 rfl rfl) k) ?_
      refine Gl.st (B := (T7.setTop (mkF m 27 L8 []))) (fun t k => XS.goto X7.here hx rfl (pc0 := 20) (pc' := 27) rfl (hb hby d1_20) (by decide) (by decide) k) ?_
      refine Gl.st (B := (T7.setTop (mkF m 28 L8 [(.ref z_UNSAFE_GRANT)]))) (fun t k => XS.aloadN X7.here hx rfl (hb hby d1_27) (ldAt hL8 rfl) rfl k) ?_
      obtain ⟨fs, hr, hrun, hended, hW, hsame⟩ := X7.leave (v := some (.ref z_UNSAFE_GRANT)) (fun h => by rw [Bd.returns] at h; cases h)
      refine Gl.fin (X7.areturnOut hx rfl Bd.returns rfl (hb hby d1_28) hr) hrun hended ⟨_, _, rfl, ?_, ⟨_, rfl⟩, hW, hsame.mono (by decide) (by decide)⟩
      show Q1 Z p1 p2 z_OK z_FALSE_DENY z_UNSAFE_GRANT h0 n0 _ T7.heap _
      rw [e7]
      exact ⟨(by rw [if_neg hc2_1, if_neg hc13_4]), N0, rfl⟩
theorem pn_0 : plainName "com/example/stale_to_safe/staletosafe/replay/VerdictOfPinLaw" = true := by first | (simp [plainName, overriddenIn]; done) | decide +kernel
theorem pd_0_0 : parseMethodDescriptor "(ZZ)Lcom/example/stale_to_safe/staletosafe/replay/Verdict;" = some ⟨[.boolean, .boolean], some (.object "com/example/stale_to_safe/staletosafe/replay/Verdict")⟩ := by decide +kernel
theorem ef_0 (m : MethodId) (p1 : Int32) (p2 : Int32) : entryFrame m #[(.int p1), (.int p2)] maxLocals = mkF m 0 #[.val (.int p1), .val (.int p2), .unset, .unset, .unset, .unset] [] := by first | (simp [entryFrame, mkF, argsToLocals, Value.category, maxLocals]; done) | rfl
theorem own_0_hq14 (p1 : Int32) (v11_s0_2 : Int32) (p2 : Int32) (v23_s0_5 : Int32) (z_OK : Addr) (z_FALSE_DENY : Addr) (z_UNSAFE_GRANT : Addr) (r26_8 : Addr) (hv11_s0_2 : v11_s0_2 = (if (p1 &&& (1 : Int32)) = (0 : Int32) then (0 : Int32) else (1 : Int32))) (hv23_s0_5 : v23_s0_5 = (if (p2 &&& (1 : Int32)) = (0 : Int32) then (0 : Int32) else (1 : Int32))) (hr26_8 : r26_8 = (if v11_s0_2 = v23_s0_5 then z_OK else (if v11_s0_2 = (0 : Int32) then z_FALSE_DENY else z_UNSAFE_GRANT))) (hc32_10 : v11_s0_2 = (0 : Int32)) (hc56_11 : v23_s0_5 = (0 : Int32)) : r26_8 = z_OK := by
  rw [hr26_8]
  split at hv11_s0_2 <;> split at hv23_s0_5 <;> simp_all
theorem own_0_hq17 (p1 : Int32) (v11_s0_2 : Int32) (p2 : Int32) (v23_s0_5 : Int32) (z_OK : Addr) (z_FALSE_DENY : Addr) (z_UNSAFE_GRANT : Addr) (r26_8 : Addr) (hv11_s0_2 : v11_s0_2 = (if (p1 &&& (1 : Int32)) = (0 : Int32) then (0 : Int32) else (1 : Int32))) (hv23_s0_5 : v23_s0_5 = (if (p2 &&& (1 : Int32)) = (0 : Int32) then (0 : Int32) else (1 : Int32))) (hr26_8 : r26_8 = (if v11_s0_2 = v23_s0_5 then z_OK else (if v11_s0_2 = (0 : Int32) then z_FALSE_DENY else z_UNSAFE_GRANT))) (hc32_10 : v11_s0_2 = (0 : Int32)) (hc56_11 : ¬ (v23_s0_5 = (0 : Int32))) : r26_8 = z_FALSE_DENY := by
  rw [hr26_8]
  split at hv11_s0_2 <;> split at hv23_s0_5 <;> simp_all
theorem own_0_hq21 (p1 : Int32) (v11_s0_2 : Int32) (p2 : Int32) (v23_s0_5 : Int32) (z_OK : Addr) (z_FALSE_DENY : Addr) (z_UNSAFE_GRANT : Addr) (r26_8 : Addr) (hv11_s0_2 : v11_s0_2 = (if (p1 &&& (1 : Int32)) = (0 : Int32) then (0 : Int32) else (1 : Int32))) (hv23_s0_5 : v23_s0_5 = (if (p2 &&& (1 : Int32)) = (0 : Int32) then (0 : Int32) else (1 : Int32))) (hr26_8 : r26_8 = (if v11_s0_2 = v23_s0_5 then z_OK else (if v11_s0_2 = (0 : Int32) then z_FALSE_DENY else z_UNSAFE_GRANT))) (hc32_10 : ¬ (v11_s0_2 = (0 : Int32))) (hc36_18 : v23_s0_5 = (0 : Int32)) : r26_8 = z_UNSAFE_GRANT := by
  rw [hr26_8]
  split at hv11_s0_2 <;> split at hv23_s0_5 <;> simp_all
theorem own_0_hq24 (p1 : Int32) (v11_s0_2 : Int32) (p2 : Int32) (v23_s0_5 : Int32) (z_OK : Addr) (z_FALSE_DENY : Addr) (z_UNSAFE_GRANT : Addr) (r26_8 : Addr) (hv11_s0_2 : v11_s0_2 = (if (p1 &&& (1 : Int32)) = (0 : Int32) then (0 : Int32) else (1 : Int32))) (hv23_s0_5 : v23_s0_5 = (if (p2 &&& (1 : Int32)) = (0 : Int32) then (0 : Int32) else (1 : Int32))) (hr26_8 : r26_8 = (if v11_s0_2 = v23_s0_5 then z_OK else (if v11_s0_2 = (0 : Int32) then z_FALSE_DENY else z_UNSAFE_GRANT))) (hc32_10 : ¬ (v11_s0_2 = (0 : Int32))) (hc36_18 : ¬ (v23_s0_5 = (0 : Int32))) : r26_8 = z_OK := by
  rw [hr26_8]
  split at hv11_s0_2 <;> split at hv23_s0_5 <;> simp_all
def Q0 (Z : State) (p1 : Int32) (p2 : Int32) (z_OK : Addr) (z_FALSE_DENY : Addr) (z_UNSAFE_GRANT : Addr) (h0 : Heap) (n0 : Nat) (v : Option Value) (h : Heap) (L : List Loc) : Prop := v = some (.int (1 : Int32)) ∧ Fr n0 L
set_option maxRecDepth 65536 in
set_option maxHeartbeats 40000000 in
theorem rm0 (l : Launch) (Z : State) (a0 : Array Value) (hw : ∀ d ∈ tables_1, d.before a0 Z = true) (ws : List Jvm.Cond) (p1 : Int32) (p2 : Int32) (z_OK : Addr) (z_FALSE_DENY : Addr) (z_UNSAFE_GRANT : Addr) (h0 : Heap) (n0 : Nat) (Z0 : n0 ≤ h0.size) (S_OK : Sta Z h0 "com/example/stale_to_safe/staletosafe/replay/Verdict" "OK" "Lcom/example/stale_to_safe/staletosafe/replay/Verdict;" (.ref z_OK)) (S_FALSE_DENY : Sta Z h0 "com/example/stale_to_safe/staletosafe/replay/Verdict" "FALSE_DENY" "Lcom/example/stale_to_safe/staletosafe/replay/Verdict;" (.ref z_FALSE_DENY)) (S_UNSAFE_GRANT : Sta Z h0 "com/example/stale_to_safe/staletosafe/replay/Verdict" "UNSAFE_GRANT" "Lcom/example/stale_to_safe/staletosafe/replay/Verdict;" (.ref z_UNSAFE_GRANT)) :
    MetFree l x (head1 (Jvm.Cond.code x code maxLocals ret :: ws) room_1) (fun a U => a = #[(.int p1), (.int p2)] ∧ Z.Warmed39 U.vm ∧ U.heap = h0) (fun _ _ _ _ _ => True) (fun _ U o U' => ∃ v L, o = .returned v ∧ Q0 Z p1 p2 z_OK z_FALSE_DENY z_UNSAFE_GRANT h0 n0 v U'.heap L ∧ FrameEnd U o U' L room_1.cells room_1.slots) := by
  refine MetFree.of_bodySF (plainFor_of_name pn_0) hisR ?_
  intro p e s m args below meth c s₁ Bd hml0 hP hK
  obtain ⟨rfl, hZ, hh⟩ := hP
  have hx := Bd.exec
  have hby := Bd.bytes
  have hml : c.maxLocals = 6 := hml0
  have hown : s.vm.findClass "com/example/stale_to_safe/staletosafe/replay/VerdictOfPinLaw" = some m.cls := findClass_of_methodNamed Bd.named
  have hnm := (name_of_methodNamed Bd.named Bd.method).1
  have X0 : Stand p l e room_1 s m #[(.int p1), (.int p2)] below meth c s₁ [] 0 0 := Stand.of_body Bd
  have e0 : s₁.heap = h0 := by rw [← hh, Bd.state]; rfl
  have N0 := Fr.nil n0
  refine (show Gl p e below (fun o U' => ∃ v L, o = .returned v ∧ Q0 Z p1 p2 z_OK z_FALSE_DENY z_UNSAFE_GRANT h0 n0 v U'.heap L ∧ FrameEnd s o U' L room_1.cells room_1.slots) (s₁.setTop (entryFrame m #[(.int p1), (.int p2)] maxLocals)) from ?_)
  obtain ⟨L0, hL0⟩ : ∃ z : Array Slot, z = #[.val (.int p1), .val (.int p2), .unset, .unset, .unset, .unset] := ⟨_, rfl⟩
  refine Gl.st (B := (s₁.setTop (mkF m 0 L0 []))) (fun t k => castTop (efAt hL0 (ef_0 m p1 p2)) k) ?_
  refine Gl.st (B := (s₁.setTop (mkF m 1 L0 [(.int p1)]))) (fun t k => XS.iloadN X0.here hx rfl (hb hby at_0) (ldAt hL0 rfl) k) ?_
  refine Gl.st (B := (s₁.setTop (mkF m 2 L0 [(.int (1 : Int32)), (.int p1)]))) (fun t k => XS.iconst X0.here hx rfl (hb hby at_1) k) ?_
  refine Gl.st (B := (s₁.setTop (mkF m 3 L0 [(.int (p1 &&& (1 : Int32)))]))) (fun t k => XS.iand X0.here hx rfl (hb hby at_2) rfl k) ?_
  obtain ⟨v11_s0_2, hv11_s0_2⟩ : ∃ z : Int32, z = (if (p1 &&& (1 : Int32)) = (0 : Int32) then (0 : Int32) else (1 : Int32)) := ⟨_, rfl⟩
  refine Gl.join (A := (s₁.setTop (mkF m 11 L0 [(.int v11_s0_2)]))) (fun J3_2 => ?_) ?_
  · by_cases hc3_1 : (p1 &&& (1 : Int32)) = (0 : Int32)
    · skip
      refine Gl.st (B := (s₁.setTop (mkF m 10 L0 []))) (fun t k => XS.ifYes X0.here hx rfl (pc0 := 3) (pc' := 10) rfl (hb hby at_3) rfl ((if0 _ _).trans (teq hc3_1).1) (by decide) (by decide) k) ?_
      refine Gl.st (B := (s₁.setTop (mkF m 11 L0 [(.int (0 : Int32))]))) (fun t k => XS.iconst X0.here hx rfl (hb hby at_10) k) ?_
      have ev11_s0_2 : v11_s0_2 = (0 : Int32) := by rw [hv11_s0_2, if_pos hc3_1]
      rw [ev11_s0_2] at J3_2
      exact J3_2
    · skip
      refine Gl.st (B := (s₁.setTop (mkF m 6 L0 []))) (fun t k => XS.ifNo X0.here hx rfl (hb hby at_3) rfl ((if0 _ _).trans (feq hc3_1).1) k) ?_
      refine Gl.st (B := (s₁.setTop (mkF m 7 L0 [(.int (1 : Int32))]))) (fun t k => XS.iconst X0.here hx rfl (hb hby at_6) k) ?_
      refine Gl.st (B := (s₁.setTop (mkF m 11 L0 [(.int (1 : Int32))]))) (fun t k => XS.goto X0.here hx rfl (pc0 := 7) (pc' := 11) rfl (hb hby at_7) (by decide) (by decide) k) ?_
      have ev11_s0_2 : v11_s0_2 = (1 : Int32) := by rw [hv11_s0_2, if_neg hc3_1]
      rw [ev11_s0_2] at J3_2
      exact J3_2
  obtain ⟨L3, hL3⟩ : ∃ z : Array Slot, z = #[.val (.int p1), .val (.int p2), .val (.int v11_s0_2), .unset, .unset, .unset] := ⟨_, rfl⟩
  refine Gl.st (B := (s₁.setTop (mkF m 12 L3 []))) (fun t k => XS.istoreN X0.here hx rfl (hb hby at_11) rfl (l' := L3) (stAt hL0 hL3 rfl rfl) k) ?_
  refine Gl.st (B := (s₁.setTop (mkF m 13 L3 [(.int p2)]))) (fun t k => XS.iloadN X0.here hx rfl (hb hby at_12) (ldAt hL3 rfl) k) ?_
  refine Gl.st (B := (s₁.setTop (mkF m 14 L3 [(.int (1 : Int32)), (.int p2)]))) (fun t k => XS.iconst X0.here hx rfl (hb hby at_13) k) ?_
  refine Gl.st (B := (s₁.setTop (mkF m 15 L3 [(.int (p2 &&& (1 : Int32)))]))) (fun t k => XS.iand X0.here hx rfl (hb hby at_14) rfl k) ?_
  obtain ⟨v23_s0_5, hv23_s0_5⟩ : ∃ z : Int32, z = (if (p2 &&& (1 : Int32)) = (0 : Int32) then (0 : Int32) else (1 : Int32)) := ⟨_, rfl⟩
  refine Gl.join (A := (s₁.setTop (mkF m 23 L3 [(.int v23_s0_5)]))) (fun J15_5 => ?_) ?_
  · by_cases hc15_4 : (p2 &&& (1 : Int32)) = (0 : Int32)
    · skip
      refine Gl.st (B := (s₁.setTop (mkF m 22 L3 []))) (fun t k => XS.ifYes X0.here hx rfl (pc0 := 15) (pc' := 22) rfl (hb hby at_15) rfl ((if0 _ _).trans (teq hc15_4).1) (by decide) (by decide) k) ?_
      refine Gl.st (B := (s₁.setTop (mkF m 23 L3 [(.int (0 : Int32))]))) (fun t k => XS.iconst X0.here hx rfl (hb hby at_22) k) ?_
      have ev23_s0_5 : v23_s0_5 = (0 : Int32) := by rw [hv23_s0_5, if_pos hc15_4]
      rw [ev23_s0_5] at J15_5
      exact J15_5
    · skip
      refine Gl.st (B := (s₁.setTop (mkF m 18 L3 []))) (fun t k => XS.ifNo X0.here hx rfl (hb hby at_15) rfl ((if0 _ _).trans (feq hc15_4).1) k) ?_
      refine Gl.st (B := (s₁.setTop (mkF m 19 L3 [(.int (1 : Int32))]))) (fun t k => XS.iconst X0.here hx rfl (hb hby at_18) k) ?_
      refine Gl.st (B := (s₁.setTop (mkF m 23 L3 [(.int (1 : Int32))]))) (fun t k => XS.goto X0.here hx rfl (pc0 := 19) (pc' := 23) rfl (hb hby at_19) (by decide) (by decide) k) ?_
      have ev23_s0_5 : v23_s0_5 = (1 : Int32) := by rw [hv23_s0_5, if_neg hc15_4]
      rw [ev23_s0_5] at J15_5
      exact J15_5
  obtain ⟨L6, hL6⟩ : ∃ z : Array Slot, z = #[.val (.int p1), .val (.int p2), .val (.int v11_s0_2), .val (.int v23_s0_5), .unset, .unset] := ⟨_, rfl⟩
  refine Gl.st (B := (s₁.setTop (mkF m 24 L6 []))) (fun t k => XS.istoreN X0.here hx rfl (hb hby at_23) rfl (l' := L6) (stAt hL3 hL6 rfl rfl) k) ?_
  refine Gl.st (B := (s₁.setTop (mkF m 25 L6 [(.int v11_s0_2)]))) (fun t k => XS.iloadN X0.here hx rfl (hb hby at_24) (ldAt hL6 rfl) k) ?_
  refine Gl.st (B := (s₁.setTop (mkF m 26 L6 [(.int v23_s0_5), (.int v11_s0_2)]))) (fun t k => XS.iloadN X0.here hx rfl (hb hby at_25) (ldAt hL6 rfl) k) ?_
  obtain ⟨_, _, ⟨T7, L7q, k7, n7⟩, -, X7, ⟨Lc7, hQ7, l7, y7, z7⟩, st7⟩ := Jvm.LawKit.callS X0 hx (y := (⟨"com/example/stale_to_safe/staletosafe/replay/Verdict", "of", "(ZZ)Lcom/example/stale_to_safe/staletosafe/replay/Verdict;"⟩ : MethodName)) hown (mvT hZ (tw hw 0 rfl)) (mvT hZ (tw hw 1 rfl)) (mvT hZ (tw hw 2 rfl)) (mvT hZ (tw hw 3 rfl)) (by decide) (backOf (W := 0) (rm1 l Z a0 hw [] v11_s0_2 v23_s0_5 z_OK z_FALSE_DENY z_UNSAFE_GRANT h0 n0 Z0 S_OK S_FALSE_DENY S_UNSAFE_GRANT) hZ (tw hw 3 rfl) (tw hw 2 rfl) (by decide) (by decide)) (g := (mkF m 26 L6 [(.int v23_s0_5), (.int v11_s0_2)])) rfl (szAt hml hL6 rfl) (argsL := [(.int v11_s0_2), (.int v23_s0_5)]) (rest := []) (lenOf pd_0_0 rfl) rfl (by show 2 * 0 + _ ≤ _; exact Nat.le_of_eq rfl) (hb hby at_26) (fun _ _ => ⟨rfl, e0, (by decide : 0 + 0 ≤ _), (by decide : 0 + 0 ≤ _)⟩)
  dsimp only [Pt.U, Pt.locs, Pt.cells, Pt.slots] at X7 l7 y7 z7 st7 hQ7
  subst l7 y7 z7
  obtain ⟨rfl, N7q, eh7⟩ := hQ7
  have N7 := Fr.app N0 N7q
  refine Gl.st (B := (T7.setTop (mkF m 29 L6 [(.ref (if v11_s0_2 = v23_s0_5 then z_OK else (if v11_s0_2 = (0 : Int32) then z_FALSE_DENY else z_UNSAFE_GRANT)))]))) (fun t k => st7 t k) ?_
  obtain ⟨r26_8, hr26_8⟩ : ∃ z : Addr, z = (if v11_s0_2 = v23_s0_5 then z_OK else (if v11_s0_2 = (0 : Int32) then z_FALSE_DENY else z_UNSAFE_GRANT)) := ⟨_, rfl⟩
  refine Gl.cast (B := (T7.setTop (mkF m 29 L6 [(.ref r26_8)]))) (by rw [hr26_8]) ?_
  obtain ⟨L9, hL9⟩ : ∃ z : Array Slot, z = #[.val (.int p1), .val (.int p2), .val (.int v11_s0_2), .val (.int v23_s0_5), .val (.ref r26_8), .unset] := ⟨_, rfl⟩
  refine Gl.st (B := (T7.setTop (mkF m 31 L9 []))) (fun t k => XS.astore X7.here hx rfl (hb hby at_29) rfl rfl (l' := L9) (stAt hL6 hL9 rfl rfl) k) ?_
  refine Gl.st (B := (T7.setTop (mkF m 32 L9 [(.int v11_s0_2)]))) (fun t k => XS.iloadN X7.here hx rfl (hb hby at_31) (ldAt hL9 rfl) k) ?_
  by_cases hc32_10 : v11_s0_2 = (0 : Int32)
  · skip
    refine Gl.st (B := (T7.setTop (mkF m 55 L9 []))) (fun t k => XS.ifYes X7.here hx rfl (pc0 := 32) (pc' := 55) rfl (hb hby at_32) rfl ((if0 _ _).trans (teq hc32_10).1) (by decide) (by decide) k) ?_
    refine Gl.st (B := (T7.setTop (mkF m 56 L9 [(.int v23_s0_5)]))) (fun t k => XS.iloadN X7.here hx rfl (hb hby at_55) (ldAt hL9 rfl) k) ?_
    by_cases hc56_11 : v23_s0_5 = (0 : Int32)
    · skip
      refine Gl.st (B := (T7.setTop (mkF m 67 L9 []))) (fun t k => XS.ifYes X7.here hx rfl (pc0 := 56) (pc' := 67) rfl (hb hby at_56) rfl ((if0 _ _).trans (teq hc56_11).1) (by decide) (by decide) k) ?_
      obtain ⟨T12, X12, e12, st12⟩ := getS2 X7 hx hZ hown (host := "") (Or.inl (tw hw 9 rfl)) Via.refl eh7 S_OK (g := (mkF m 67 L9 [])) rfl (hb hby at_67)
      refine Gl.st (B := (T12.setTop (mkF m 70 L9 [(.ref z_OK)]))) st12 ?_
      obtain ⟨L13, hL13⟩ : ∃ z : Array Slot, z = #[.val (.int p1), .val (.int p2), .val (.int v11_s0_2), .val (.int v23_s0_5), .val (.ref r26_8), .val (.ref z_OK)] := ⟨_, rfl⟩
      refine Gl.st (B := (T12.setTop (mkF m 72 L13 []))) (fun t k => XS.astore X12.here hx rfl (hb hby at_70) rfl rfl (l' := L13) (stAt hL9 hL13 rfl rfl) k) ?_
      refine Gl.st (B := (T12.setTop (mkF m 74 L13 [(.ref r26_8)]))) (fun t k => XS.aload X12.here hx rfl (hb hby at_72) (ldAt hL13 rfl) rfl k) ?_
      refine Gl.st (B := (T12.setTop (mkF m 76 L13 [(.ref z_OK), (.ref r26_8)]))) (fun t k => XS.aload X12.here hx rfl (hb hby at_74) (ldAt hL13 rfl) rfl k) ?_
      have hq14 : r26_8 = z_OK := own_0_hq14 p1 v11_s0_2 p2 v23_s0_5 z_OK z_FALSE_DENY z_UNSAFE_GRANT r26_8 hv11_s0_2 hv23_s0_5 hr26_8 hc32_10 hc56_11
      refine Gl.st (B := (T12.setTop (mkF m 79 L13 []))) (fun t k => Jvm.RoadKit.acmp (g := (mkF m 76 L13 [(.ref z_OK), (.ref r26_8)])) X12 hx rfl rfl rfl (pc0 := 76) (pc' := 79) (same := true) rfl (hb hby at_76) rfl (decide_eq_true (congrArg Value.ref hq14)) (by decide) (by decide) k) ?_
      refine Gl.st (B := (T12.setTop (mkF m 80 L13 [(.int (1 : Int32))]))) (fun t k => XS.iconst X12.here hx rfl (hb hby at_79) k) ?_
      refine Gl.st (B := (T12.setTop (mkF m 84 L13 [(.int (1 : Int32))]))) (fun t k => XS.goto X12.here hx rfl (pc0 := 80) (pc' := 84) rfl (hb hby at_80) (by decide) (by decide) k) ?_
      obtain ⟨fs, hr, hrun, hended, hW, hsame⟩ := X12.leave (v := some (.int (nar .boolean (1 : Int32)))) (fun h => by rw [Bd.returns] at h; cases h)
      refine Gl.fin (retN X12 hx (t := .boolean) Bd.returns (by simp) (hb hby at_84) hr) hrun hended ⟨_, _, rfl, ?_, ⟨_, rfl⟩, hW, hsame.mono (by decide) (by decide)⟩
      show Q0 Z p1 p2 z_OK z_FALSE_DENY z_UNSAFE_GRANT h0 n0 _ T12.heap _
      rw [e12]
      exact ⟨rfl, N7⟩
    · skip
      refine Gl.st (B := (T7.setTop (mkF m 59 L9 []))) (fun t k => XS.ifNo X7.here hx rfl (hb hby at_56) rfl ((if0 _ _).trans (feq hc56_11).1) k) ?_
      obtain ⟨T15, X15, e15, st15⟩ := getS2 X7 hx hZ hown (host := "") (Or.inl (tw hw 6 rfl)) Via.refl eh7 S_FALSE_DENY (g := (mkF m 59 L9 [])) rfl (hb hby at_59)
      refine Gl.st (B := (T15.setTop (mkF m 62 L9 [(.ref z_FALSE_DENY)]))) st15 ?_
      obtain ⟨L16, hL16⟩ : ∃ z : Array Slot, z = #[.val (.int p1), .val (.int p2), .val (.int v11_s0_2), .val (.int v23_s0_5), .val (.ref r26_8), .val (.ref z_FALSE_DENY)] := ⟨_, rfl⟩
      refine Gl.st (B := (T15.setTop (mkF m 64 L16 []))) (fun t k => XS.astore X15.here hx rfl (hb hby at_62) rfl rfl (l' := L16) (stAt hL9 hL16 rfl rfl) k) ?_
      refine Gl.st (B := (T15.setTop (mkF m 72 L16 []))) (fun t k => XS.goto X15.here hx rfl (pc0 := 64) (pc' := 72) rfl (hb hby at_64) (by decide) (by decide) k) ?_
      refine Gl.st (B := (T15.setTop (mkF m 74 L16 [(.ref r26_8)]))) (fun t k => XS.aload X15.here hx rfl (hb hby at_72) (ldAt hL16 rfl) rfl k) ?_
      refine Gl.st (B := (T15.setTop (mkF m 76 L16 [(.ref z_FALSE_DENY), (.ref r26_8)]))) (fun t k => XS.aload X15.here hx rfl (hb hby at_74) (ldAt hL16 rfl) rfl k) ?_
      have hq17 : r26_8 = z_FALSE_DENY := own_0_hq17 p1 v11_s0_2 p2 v23_s0_5 z_OK z_FALSE_DENY z_UNSAFE_GRANT r26_8 hv11_s0_2 hv23_s0_5 hr26_8 hc32_10 hc56_11
      refine Gl.st (B := (T15.setTop (mkF m 79 L16 []))) (fun t k => Jvm.RoadKit.acmp (g := (mkF m 76 L16 [(.ref z_FALSE_DENY), (.ref r26_8)])) X15 hx rfl rfl rfl (pc0 := 76) (pc' := 79) (same := true) rfl (hb hby at_76) rfl (decide_eq_true (congrArg Value.ref hq17)) (by decide) (by decide) k) ?_
      refine Gl.st (B := (T15.setTop (mkF m 80 L16 [(.int (1 : Int32))]))) (fun t k => XS.iconst X15.here hx rfl (hb hby at_79) k) ?_
      refine Gl.st (B := (T15.setTop (mkF m 84 L16 [(.int (1 : Int32))]))) (fun t k => XS.goto X15.here hx rfl (pc0 := 80) (pc' := 84) rfl (hb hby at_80) (by decide) (by decide) k) ?_
      obtain ⟨fs, hr, hrun, hended, hW, hsame⟩ := X15.leave (v := some (.int (nar .boolean (1 : Int32)))) (fun h => by rw [Bd.returns] at h; cases h)
      refine Gl.fin (retN X15 hx (t := .boolean) Bd.returns (by simp) (hb hby at_84) hr) hrun hended ⟨_, _, rfl, ?_, ⟨_, rfl⟩, hW, hsame.mono (by decide) (by decide)⟩
      show Q0 Z p1 p2 z_OK z_FALSE_DENY z_UNSAFE_GRANT h0 n0 _ T15.heap _
      rw [e15]
      exact ⟨rfl, N7⟩
  · skip
    refine Gl.st (B := (T7.setTop (mkF m 35 L9 []))) (fun t k => XS.ifNo X7.here hx rfl (hb hby at_32) rfl ((if0 _ _).trans (feq hc32_10).1) k) ?_
    refine Gl.st (B := (T7.setTop (mkF m 36 L9 [(.int v23_s0_5)]))) (fun t k => XS.iloadN X7.here hx rfl (hb hby at_35) (ldAt hL9 rfl) k) ?_
    by_cases hc36_18 : v23_s0_5 = (0 : Int32)
    · skip
      refine Gl.st (B := (T7.setTop (mkF m 47 L9 []))) (fun t k => XS.ifYes X7.here hx rfl (pc0 := 36) (pc' := 47) rfl (hb hby at_36) rfl ((if0 _ _).trans (teq hc36_18).1) (by decide) (by decide) k) ?_
      obtain ⟨T19, X19, e19, st19⟩ := getS2 X7 hx hZ hown (host := "") (Or.inl (tw hw 12 rfl)) Via.refl eh7 S_UNSAFE_GRANT (g := (mkF m 47 L9 [])) rfl (hb hby at_47)
      refine Gl.st (B := (T19.setTop (mkF m 50 L9 [(.ref z_UNSAFE_GRANT)]))) st19 ?_
      obtain ⟨L20, hL20⟩ : ∃ z : Array Slot, z = #[.val (.int p1), .val (.int p2), .val (.int v11_s0_2), .val (.int v23_s0_5), .val (.ref r26_8), .val (.ref z_UNSAFE_GRANT)] := ⟨_, rfl⟩
      refine Gl.st (B := (T19.setTop (mkF m 52 L20 []))) (fun t k => XS.astore X19.here hx rfl (hb hby at_50) rfl rfl (l' := L20) (stAt hL9 hL20 rfl rfl) k) ?_
      refine Gl.st (B := (T19.setTop (mkF m 72 L20 []))) (fun t k => XS.goto X19.here hx rfl (pc0 := 52) (pc' := 72) rfl (hb hby at_52) (by decide) (by decide) k) ?_
      refine Gl.st (B := (T19.setTop (mkF m 74 L20 [(.ref r26_8)]))) (fun t k => XS.aload X19.here hx rfl (hb hby at_72) (ldAt hL20 rfl) rfl k) ?_
      refine Gl.st (B := (T19.setTop (mkF m 76 L20 [(.ref z_UNSAFE_GRANT), (.ref r26_8)]))) (fun t k => XS.aload X19.here hx rfl (hb hby at_74) (ldAt hL20 rfl) rfl k) ?_
      have hq21 : r26_8 = z_UNSAFE_GRANT := own_0_hq21 p1 v11_s0_2 p2 v23_s0_5 z_OK z_FALSE_DENY z_UNSAFE_GRANT r26_8 hv11_s0_2 hv23_s0_5 hr26_8 hc32_10 hc36_18
      refine Gl.st (B := (T19.setTop (mkF m 79 L20 []))) (fun t k => Jvm.RoadKit.acmp (g := (mkF m 76 L20 [(.ref z_UNSAFE_GRANT), (.ref r26_8)])) X19 hx rfl rfl rfl (pc0 := 76) (pc' := 79) (same := true) rfl (hb hby at_76) rfl (decide_eq_true (congrArg Value.ref hq21)) (by decide) (by decide) k) ?_
      refine Gl.st (B := (T19.setTop (mkF m 80 L20 [(.int (1 : Int32))]))) (fun t k => XS.iconst X19.here hx rfl (hb hby at_79) k) ?_
      refine Gl.st (B := (T19.setTop (mkF m 84 L20 [(.int (1 : Int32))]))) (fun t k => XS.goto X19.here hx rfl (pc0 := 80) (pc' := 84) rfl (hb hby at_80) (by decide) (by decide) k) ?_
      obtain ⟨fs, hr, hrun, hended, hW, hsame⟩ := X19.leave (v := some (.int (nar .boolean (1 : Int32)))) (fun h => by rw [Bd.returns] at h; cases h)
      refine Gl.fin (retN X19 hx (t := .boolean) Bd.returns (by simp) (hb hby at_84) hr) hrun hended ⟨_, _, rfl, ?_, ⟨_, rfl⟩, hW, hsame.mono (by decide) (by decide)⟩
      show Q0 Z p1 p2 z_OK z_FALSE_DENY z_UNSAFE_GRANT h0 n0 _ T19.heap _
      rw [e19]
      exact ⟨rfl, N7⟩
    · skip
      refine Gl.st (B := (T7.setTop (mkF m 39 L9 []))) (fun t k => XS.ifNo X7.here hx rfl (hb hby at_36) rfl ((if0 _ _).trans (feq hc36_18).1) k) ?_
      obtain ⟨T22, X22, e22, st22⟩ := getS2 X7 hx hZ hown (host := "") (Or.inl (tw hw 9 rfl)) Via.refl eh7 S_OK (g := (mkF m 39 L9 [])) rfl (hb hby at_39)
      refine Gl.st (B := (T22.setTop (mkF m 42 L9 [(.ref z_OK)]))) st22 ?_
      obtain ⟨L23, hL23⟩ : ∃ z : Array Slot, z = #[.val (.int p1), .val (.int p2), .val (.int v11_s0_2), .val (.int v23_s0_5), .val (.ref r26_8), .val (.ref z_OK)] := ⟨_, rfl⟩
      refine Gl.st (B := (T22.setTop (mkF m 44 L23 []))) (fun t k => XS.astore X22.here hx rfl (hb hby at_42) rfl rfl (l' := L23) (stAt hL9 hL23 rfl rfl) k) ?_
      refine Gl.st (B := (T22.setTop (mkF m 72 L23 []))) (fun t k => XS.goto X22.here hx rfl (pc0 := 44) (pc' := 72) rfl (hb hby at_44) (by decide) (by decide) k) ?_
      refine Gl.st (B := (T22.setTop (mkF m 74 L23 [(.ref r26_8)]))) (fun t k => XS.aload X22.here hx rfl (hb hby at_72) (ldAt hL23 rfl) rfl k) ?_
      refine Gl.st (B := (T22.setTop (mkF m 76 L23 [(.ref z_OK), (.ref r26_8)]))) (fun t k => XS.aload X22.here hx rfl (hb hby at_74) (ldAt hL23 rfl) rfl k) ?_
      have hq24 : r26_8 = z_OK := own_0_hq24 p1 v11_s0_2 p2 v23_s0_5 z_OK z_FALSE_DENY z_UNSAFE_GRANT r26_8 hv11_s0_2 hv23_s0_5 hr26_8 hc32_10 hc36_18
      refine Gl.st (B := (T22.setTop (mkF m 79 L23 []))) (fun t k => Jvm.RoadKit.acmp (g := (mkF m 76 L23 [(.ref z_OK), (.ref r26_8)])) X22 hx rfl rfl rfl (pc0 := 76) (pc' := 79) (same := true) rfl (hb hby at_76) rfl (decide_eq_true (congrArg Value.ref hq24)) (by decide) (by decide) k) ?_
      refine Gl.st (B := (T22.setTop (mkF m 80 L23 [(.int (1 : Int32))]))) (fun t k => XS.iconst X22.here hx rfl (hb hby at_79) k) ?_
      refine Gl.st (B := (T22.setTop (mkF m 84 L23 [(.int (1 : Int32))]))) (fun t k => XS.goto X22.here hx rfl (pc0 := 80) (pc' := 84) rfl (hb hby at_80) (by decide) (by decide) k) ?_
      obtain ⟨fs, hr, hrun, hended, hW, hsame⟩ := X22.leave (v := some (.int (nar .boolean (1 : Int32)))) (fun h => by rw [Bd.returns] at h; cases h)
      refine Gl.fin (retN X22 hx (t := .boolean) Bd.returns (by simp) (hb hby at_84) hr) hrun hended ⟨_, _, rfl, ?_, ⟨_, rfl⟩, hW, hsame.mono (by decide) (by decide)⟩
      show Q0 Z p1 p2 z_OK z_FALSE_DENY z_UNSAFE_GRANT h0 n0 _ T22.heap _
      rw [e22]
      exact ⟨rfl, N7⟩
set_option maxRecDepth 65536 in
set_option maxHeartbeats 40000000 in
theorem comes_1 {Post : Tables → Env → Array Value → State → Outcome → State → Prop} (hpost : ∀ tb e args s v u, (limb_1_1.after args s (.returned v) u = true ∧ limb_1_2.after args s (.returned v) u = true ∧ True) → FrameEnd s (.returned v) u (Jvm.fieldLocs frame_1_writes args s ++ Jvm.arrayLocs frame_1_arrays args s ++ Jvm.staticLocs frame_1_statics s) 0 0 → Post tb e args s (.returned v) u) :
    ArmFor flags0 classFile x code maxLocals ret World_1 tables_1 room_1 Calls_1 rest_1 Pre_1 Post := by
  intro l hfl _ _ p e ha hc hk s m args below hf hA hF happ hP
  obtain ⟨hcalls, hrest, hpre⟩ := hP
  obtain ⟨-, -, -, hnamed, -, -, -, hat⟩ := (Spec.applies_iff hf).mp happ
  obtain ⟨hg, hn⟩ := and_e (Cond.before_iff.mp (show (Jvm.Cond.and given_1 narrow_1).before args s = true from hpre))
  obtain ⟨g1, g2⟩ := and_e hg
  obtain ⟨g3, g4⟩ := and_e g2
  obtain ⟨w0, w1, rfl⟩ : ∃ w0 w1 : Value, args = #[w0, w1] := by
    have hs : args.size = 2 := by simpa [Cond.value, given_1] using g1
    obtain ⟨L⟩ := args
    match L, hs with
    | [w0, w1], _ => exact ⟨w0, w1, rfl⟩
  have hw := fun d (hd : d ∈ tables_1) => atoms_spec (ws := Jvm.Cond.code x code maxLocals ret :: tables_1) hat d (List.mem_cons_of_mem _ hd)
  have hfit : Fit s := fun {y c} hc i hi => by
    obtain ⟨ha, rfl⟩ := Array.getElem?_eq_some_iff.mp hc
    have q := List.all_eq_true.mp ((Array.all_eq_true_iff_forall_mem.mp hF) _ (Array.getElem_mem ha)) i (List.mem_range.mpr hi)
    simpa [Array.getElem?_eq_getElem hi] using q
  obtain ⟨i0, ei0⟩ := is_v g3
  obtain rfl : w0 = (.int i0) := Option.some.inj ei0
  obtain ⟨i1, ei1⟩ := is_v g4
  obtain rfl : w1 = (.int i1) := Option.some.inj ei1
  obtain ⟨g5, g6⟩ := and_e hn
  obtain ⟨g7, g8⟩ := and_e g6
  obtain ⟨z_FALSE_DENY, ez_FALSE_DENY⟩ := exa_v g5
  have Sz_FALSE_DENY : Sta s s.heap "com/example/stale_to_safe/staletosafe/replay/Verdict" "FALSE_DENY" "Lcom/example/stale_to_safe/staletosafe/replay/Verdict;" (.ref z_FALSE_DENY) := Sta.start ez_FALSE_DENY (Or.inr ⟨(tw hw 2 rfl), (tw hw 5 rfl)⟩)
  have Ez_FALSE_DENY : Exa s s.heap z_FALSE_DENY "com/example/stale_to_safe/staletosafe/replay/Verdict" := Exa.start ez_FALSE_DENY g5
  obtain ⟨z_OK, ez_OK⟩ := exa_v g7
  have Sz_OK : Sta s s.heap "com/example/stale_to_safe/staletosafe/replay/Verdict" "OK" "Lcom/example/stale_to_safe/staletosafe/replay/Verdict;" (.ref z_OK) := Sta.start ez_OK (Or.inr ⟨(tw hw 2 rfl), (tw hw 8 rfl)⟩)
  have Ez_OK : Exa s s.heap z_OK "com/example/stale_to_safe/staletosafe/replay/Verdict" := Exa.start ez_OK g7
  obtain ⟨z_UNSAFE_GRANT, ez_UNSAFE_GRANT⟩ := exa_v g8
  have Sz_UNSAFE_GRANT : Sta s s.heap "com/example/stale_to_safe/staletosafe/replay/Verdict" "UNSAFE_GRANT" "Lcom/example/stale_to_safe/staletosafe/replay/Verdict;" (.ref z_UNSAFE_GRANT) := Sta.start ez_UNSAFE_GRANT (Or.inr ⟨(tw hw 2 rfl), (tw hw 11 rfl)⟩)
  have Ez_UNSAFE_GRANT : Exa s s.heap z_UNSAFE_GRANT "com/example/stale_to_safe/staletosafe/replay/Verdict" := Exa.start ez_UNSAFE_GRANT g8
  obtain ⟨n, o, h1, h2, h3, _, L, rfl, ⟨rfl, N⟩, hq⟩ := rm0 l s _ hw tables_1 i0 i1 z_OK z_FALSE_DENY z_UNSAFE_GRANT s.heap s.heap.size (Nat.le_refl _) Sz_OK Sz_FALSE_DENY Sz_UNSAFE_GRANT p e ha hc hk s m _ below hf ((Spec.applies_iff_loose hf).mp happ).1 ⟨rfl, State.Warmed39.refl s, rfl⟩ trivial
  refine ⟨n, _, h1, h2, h3, hpost _ _ _ _ _ _ ⟨Cond.after_iff.mpr rfl, Cond.after_iff.mpr (eq_i res_at (Term.int_eval (1)) rfl), trivial⟩ ⟨hq.1, hq.2.1, (hq.2.2.sift fun y hy => Or.inr (N y hy)).mono (by decide) (by decide)⟩⟩
theorem main_1_1 : Claimed_1_1 := comes_1 fun _ _ _ _ _ _ h hF => ⟨h.1, hF⟩
theorem main_1_2 : Claimed_1_2 := comes_1 fun _ _ _ _ _ _ h hF => ⟨h.2.1, hF⟩
end Jvm.Pilot.@@N@@
namespace Jvm.Pilot.@@N@@
open Jvm Jvm.ClassFile Sem Op Lib Jvm.Free Jvm.Stand Jvm.Pilot.@@N@@.Jvm.D
/-! MADE BY PROGRAM (witnessworld.py) out of the Statement's table words and the real class files: 12 classes; the members and pool entries that the words name. The judged class is class 1, her method 1. -/
namespace start1
open Jvm.ClassFile
def u (s : String) : CpInfo := .utf8 (stringToUtf16 s)
/-- a pool by its gaps: so many unusable entries, then the entry; so many at the end -/
def gap : Nat → List CpInfo → List CpInfo
  | 0, r => r
  | n + 1, r => .unusable :: gap n r
def poolList (es : List (Nat × CpInfo)) (last : Nat) : List CpInfo := es.foldr (fun e r => gap e.1 (e.2 :: r)) (gap last [])
def pool (es : List (Nat × CpInfo)) (last : Nat) : Array CpInfo := ⟨poolList es last⟩
def fileOf (pool : Array CpInfo) (this : Nat) (attrs : Array Attribute := #[]) (ms : Array MethodInfo := #[]) (fl : Nat := 33) (sup : Nat := 0) (ifs : Array Nat := #[]) (fds : Array FieldInfo := #[]) : ClassFile where
  minorVersion := 0
  majorVersion := 65
  constantPool := pool
  accessFlags := fl
  thisClass := this
  superClass := sup
  interfaces := ifs
  fields := fds
  methods := ms
  attributes := attrs
def plain (name : String) (sup : Option ClassId) : Class where
  name := name
  kind := .ordinary
  loader := none
  accessFlags := 33
  super := sup
  interfaces := #[]
  cf := none
  fields := #[]
  methods := #[]
  instanceTypes := #[]
  staticTypes := #[]
  resolved := #[]
  callSites := []
  init := .initialized
  statics := none
  mirror := none

def pool0 : Array CpInfo := pool [(5, u "<init>"), (0, u "()V"), (1, .class_ 10), (1, u "java/lang/Object")] 113

def k0m0 : Method := { name := "<init>", desc := "()V", sig := { parameters := [], returnType := none }, accessFlags := 1, code := none }
/-- java/lang/Object -/
def k0 : Class := { plain "java/lang/Object" none with
  accessFlags := 33
  interfaces := #[]
  cf := some (fileOf pool0 8 #[] #[{ accessFlags := 1, nameIndex := 5, descriptorIndex := 6, attributes := #[] }] 33 0 #[] #[])
  fields := #[]
  methods := #[k0m0]
  instanceTypes := #[]
  staticTypes := #[]
  resolved := Array.replicate 124 none
  statics := none }

def pool1 : Array CpInfo := pool [(2, .class_ 4), (1, u "java/lang/Object"), (0, u "<init>"), (0, u "()V"), (0, .methodref 8 9), (0, .class_ 10), (0, .nameAndType 11 12), (0, u "com/example/stale_to_safe/staletosafe/replay/Verdict"), (0, u "of"), (0, u "(ZZ)Lcom/example/stale_to_safe/staletosafe/replay/Verdict;"), (0, .fieldref 8 14), (0, .nameAndType 15 16), (0, u "OK"), (0, u "Lcom/example/stale_to_safe/staletosafe/replay/Verdict;"), (0, .fieldref 8 18), (0, .nameAndType 19 16), (0, u "UNSAFE_GRANT"), (0, .fieldref 8 21), (0, .nameAndType 22 16), (0, u "FALSE_DENY"), (0, .class_ 24), (0, u "com/example/stale_to_safe/staletosafe/replay/VerdictOfPinLaw"), (2, u "law"), (0, u "(II)Z")] 3

def k1m0 : Method := { name := "<init>", desc := "()V", sig := { parameters := [], returnType := none }, accessFlags := 1, code := none }
def k1c1 : Code := { maxStack := 2, maxLocals := 6, code := code, exceptionTable := #[], attributes := #[] }
def k1m1 : Method := { name := "law", desc := "(II)Z", sig := { parameters := [.int, .int], returnType := some .boolean }, accessFlags := 9, code := some k1c1 }
/-- com/example/stale_to_safe/staletosafe/replay/VerdictOfPinLaw -/
def k1 : Class := { plain "com/example/stale_to_safe/staletosafe/replay/VerdictOfPinLaw" (some 0) with
  accessFlags := 49
  interfaces := #[]
  cf := some (fileOf pool1 23 #[] #[{ accessFlags := 1, nameIndex := 5, descriptorIndex := 6, attributes := #[] }, { accessFlags := 9, nameIndex := 27, descriptorIndex := 28, attributes := #[] }] 49 2 #[] #[])
  fields := #[]
  methods := #[k1m0, k1m1]
  instanceTypes := #[]
  staticTypes := #[]
  resolved := Array.replicate 32 none
  statics := none }

def pool2 : Array CpInfo := pool [(1, .class_ 2), (0, u "java/lang/constant/Constable"), (0, .class_ 4), (0, u "java/lang/Object")] 6

/-- java/lang/constant/Constable -/
def k2 : Class := { plain "java/lang/constant/Constable" (some 0) with
  accessFlags := 1537
  interfaces := #[]
  cf := some (fileOf pool2 1 #[] #[] 1537 3 #[] #[])
  fields := #[]
  methods := #[]
  instanceTypes := #[]
  staticTypes := #[]
  resolved := Array.replicate 11 none
  statics := none }

def pool3 : Array CpInfo := pool [(1, .class_ 2), (0, u "java/lang/Comparable"), (0, .class_ 4), (0, u "java/lang/Object")] 7

/-- java/lang/Comparable -/
def k3 : Class := { plain "java/lang/Comparable" (some 0) with
  accessFlags := 1537
  interfaces := #[]
  cf := some (fileOf pool3 1 #[] #[] 1537 3 #[] #[])
  fields := #[]
  methods := #[]
  instanceTypes := #[]
  staticTypes := #[]
  resolved := Array.replicate 12 none
  statics := none }

def pool4 : Array CpInfo := pool [(1, .class_ 2), (0, u "java/io/Serializable"), (0, .class_ 4), (0, u "java/lang/Object")] 2

/-- java/io/Serializable -/
def k4 : Class := { plain "java/io/Serializable" (some 0) with
  accessFlags := 1537
  interfaces := #[]
  cf := some (fileOf pool4 1 #[] #[] 1537 3 #[] #[])
  fields := #[]
  methods := #[]
  instanceTypes := #[]
  staticTypes := #[]
  resolved := Array.replicate 7 none
  statics := none }

def pool5 : Array CpInfo := pool [(2, .class_ 4), (1, u "java/lang/Enum"), (0, u "name"), (0, u "Ljava/lang/String;"), (2, u "ordinal"), (0, u "I"), (1, .class_ 14), (1, u "java/lang/Object"), (4, u "hash"), (86, .class_ 108), (1, u "java/lang/Enum$EnumDesc"), (2, .class_ 112), (0, u "java/lang/constant/Constable"), (0, .class_ 114), (0, u "java/lang/Comparable"), (0, .class_ 116), (0, u "java/io/Serializable")] 87

/-- java/lang/Enum -/
def k5 : Class := { plain "java/lang/Enum" (some 0) with
  accessFlags := 1057
  interfaces := #[2, 3, 4]
  cf := some (fileOf pool5 2 #[.nestMembers #[106]] #[] 1057 12 #[111, 113, 115] #[{ accessFlags := 18, nameIndex := 5, descriptorIndex := 6, attributes := #[] }, { accessFlags := 18, nameIndex := 9, descriptorIndex := 10, attributes := #[] }, { accessFlags := 2, nameIndex := 19, descriptorIndex := 10, attributes := #[] }])
  fields := #[{ name := "name", type := (.object "java/lang/String"), accessFlags := 18, slot := 0, constantValue := 0 }, { name := "ordinal", type := .int, accessFlags := 18, slot := 1, constantValue := 0 }, { name := "hash", type := .int, accessFlags := 2, slot := 2, constantValue := 0 }]
  methods := #[]
  instanceTypes := #[(.object "java/lang/String"), .int, .int]
  staticTypes := #[]
  resolved := Array.replicate 204 none
  statics := none }

def pool6 : Array CpInfo := pool [(1, .class_ 2), (0, u "com/example/stale_to_safe/staletosafe/replay/Verdict"), (0, .fieldref 1 4), (0, .nameAndType 5 6), (0, u "OK"), (0, u "Lcom/example/stale_to_safe/staletosafe/replay/Verdict;"), (0, .fieldref 1 8), (0, .nameAndType 9 6), (0, u "UNSAFE_GRANT"), (0, .fieldref 1 11), (0, .nameAndType 12 6), (0, u "FALSE_DENY"), (2, u "$VALUES"), (0, u "[Lcom/example/stale_to_safe/staletosafe/replay/Verdict;"), (6, .class_ 25), (1, u "java/lang/Enum"), (8, u "label"), (0, u "Ljava/lang/String;"), (24, u "of"), (0, u "(ZZ)Lcom/example/stale_to_safe/staletosafe/replay/Verdict;")] 6

def k6c0 : Code := { maxStack := 2, maxLocals := 3, code := prog_57_method_5_code, exceptionTable := #[], attributes := #[] }
def k6m0 : Method := { name := "of", desc := "(ZZ)Lcom/example/stale_to_safe/staletosafe/replay/Verdict;", sig := { parameters := [.boolean, .boolean], returnType := some (.object "com/example/stale_to_safe/staletosafe/replay/Verdict") }, accessFlags := 9, code := some k6c0 }
/-- com/example/stale_to_safe/staletosafe/replay/Verdict -/
def k6 : Class := { plain "com/example/stale_to_safe/staletosafe/replay/Verdict" (some 5) with
  accessFlags := 16433
  interfaces := #[]
  cf := some (fileOf pool6 1 #[] #[{ accessFlags := 9, nameIndex := 60, descriptorIndex := 61, attributes := #[] }] 16433 23 #[] #[{ accessFlags := 16409, nameIndex := 5, descriptorIndex := 6, attributes := #[] }, { accessFlags := 16409, nameIndex := 9, descriptorIndex := 6, attributes := #[] }, { accessFlags := 16409, nameIndex := 12, descriptorIndex := 6, attributes := #[] }, { accessFlags := 18, nameIndex := 34, descriptorIndex := 35, attributes := #[] }, { accessFlags := 4122, nameIndex := 15, descriptorIndex := 16, attributes := #[] }])
  fields := #[{ name := "OK", type := (.object "com/example/stale_to_safe/staletosafe/replay/Verdict"), accessFlags := 16409, slot := 0, constantValue := 0 }, { name := "UNSAFE_GRANT", type := (.object "com/example/stale_to_safe/staletosafe/replay/Verdict"), accessFlags := 16409, slot := 1, constantValue := 0 }, { name := "FALSE_DENY", type := (.object "com/example/stale_to_safe/staletosafe/replay/Verdict"), accessFlags := 16409, slot := 2, constantValue := 0 }, { name := "label", type := (.object "java/lang/String"), accessFlags := 18, slot := 3, constantValue := 0 }, { name := "$VALUES", type := (.array (.object "com/example/stale_to_safe/staletosafe/replay/Verdict")), accessFlags := 4122, slot := 3, constantValue := 0 }]
  methods := #[k6m0]
  instanceTypes := #[(.object "java/lang/String"), .int, .int, (.object "java/lang/String")]
  staticTypes := #[(.object "com/example/stale_to_safe/staletosafe/replay/Verdict"), (.object "com/example/stale_to_safe/staletosafe/replay/Verdict"), (.object "com/example/stale_to_safe/staletosafe/replay/Verdict"), (.array (.object "com/example/stale_to_safe/staletosafe/replay/Verdict"))]
  resolved := Array.replicate 68 none
  statics := some 0 }

def pool7 : Array CpInfo := pool [(1, u "java/lang/Cloneable"), (0, .class_ 1), (0, u "java/lang/Object"), (0, .class_ 3)] 3

/-- java/lang/Cloneable -/
def k7 : Class := { plain "java/lang/Cloneable" (some 0) with
  accessFlags := 1537
  interfaces := #[]
  cf := some (fileOf pool7 2 #[] #[] 1537 4 #[] #[])
  fields := #[]
  methods := #[]
  instanceTypes := #[]
  staticTypes := #[]
  resolved := Array.replicate 8 none
  statics := none }

/-- the primitive byte -/
def k8 : Class := { plain "byte" none with kind := .primitive 'B', accessFlags := 0x411 }
/-- [B -/
def k9 : Class := { plain "[B" (some 0) with kind := .array 8 .byte, interfaces := #[7, 4], accessFlags := 1041 }

/-- the primitive int -/
def k10 : Class := { plain "int" none with kind := .primitive 'I', accessFlags := 0x411 }
/-- [I -/
def k11 : Class := { plain "[I" (some 0) with kind := .array 10 .int, interfaces := #[7, 4], accessFlags := 1041 }

def heap : Heap := #[{ cls := 6, slots := #[.ref 2, .ref 3, .ref 1, .null], vm := .statics 6 },
  { cls := 6, slots := #[.null, .int 0, .int 0, .null], vm := .none },
  { cls := 6, slots := #[.null, .int 1, .int 0, .null], vm := .none },
  { cls := 6, slots := #[.null, .int 2, .int 0, .null], vm := .none }]
def classes : Array Class := #[k0, k1, k2, k3, k4, k5, k6, k7, k8, k9, k10, k11]
def interned : List (Array UInt16 × Addr) := []
def slotsUsed : Nat := 16
def theMethod : MethodId := ⟨1, 1⟩
def args0 : Array Value := #[.int 5, .int 5]
def aboutOver (below : List Frame) : State where
  vm := { classes := classes, interned := interned.toArray }
  heap := heap
  slotsUsed := slotsUsed
  threads := #[{ frames := .invoking theMethod args0 :: below }]
def below0 : List Frame := [.native { method := ⟨0, 0⟩, args := #[] }]
def about1 : State := aboutOver below0
def p0 : Program := .bare "" "" ""
def e0 : Env := launch0.env 0 0 0
theorem w_frames : about1.frames = Frame.invoking theMethod args0 :: below0 := rfl
set_option maxRecDepth 65536 in
theorem w_args : argsFit about1.vm theMethod args0 = true := by decide +kernel
set_option maxRecDepth 65536 in
theorem w_heap : heapFits about1 = true := by decide +kernel
set_option maxRecDepth 65536 in
theorem w_runnable : about1.curStatus? = some .runnable := by decide +kernel
set_option maxRecDepth 65536 in
theorem w_alone : about1.alone = true := by decide +kernel
set_option maxRecDepth 65536 in
theorem w_named : about1.methodNamed? x = some theMethod := by decide +kernel
set_option maxRecDepth 65536 in
theorem w_hears : about1.hears theMethod below0 = true := by decide +kernel
set_option maxRecDepth 65536 in
theorem w_ripe : about1.ripe theMethod args0 below0 = true := by decide +kernel
theorem w_running : about1.status = .running := rfl
set_option maxRecDepth 65536 in
theorem w_room : about1.hasRoom e0.platform room_1 = true :=
  launch0.hasRoom_least _ room_1 (by decide +kernel) (by decide +kernel) (by decide +kernel) (by decide +kernel) (by decide +kernel) (by decide +kernel)
theorem allAtoms_all (ts : List Jvm.Cond) (a : Array Jvm.Value) (st : Jvm.State) : (allAtoms ts).before a st = ts.all (fun c => c.before a st) := by
  induction ts with
  | nil => rfl
  | cons c t ih =>
    show (Jvm.Cond.and c (allAtoms t)).before a st = _
    rw [Jvm.Cond.before_and, ih, List.all_cons]
def words1 : List Jvm.Cond := Jvm.Cond.code x code maxLocals ret :: tables_1
/-- a 'code' word, met by the world's own term for the bytes: nothing is compared byte by byte -/
theorem code_word {y : MethodName} {bytes : ByteArray} {mx : Nat} {rt : Option FieldType} {a : Array Value} {s : State} {m : MethodId} {meth : Method} {c : Code} (h1 : s.methodNamed? y = some m) (h2 : s.vm.method? m = some meth) (h3 : meth.code = some c) (h4 : c.code = bytes)
    (h5 : (c.maxLocals == mx && c.exceptionTable.isEmpty && decide (c.maxStack ≤ mostOperands) && decide (meth.sig.returnType = rt) && !meth.locks && decide (parseMethodDescriptor y.desc = some meth.sig)) = true) : (Jvm.Cond.code y bytes mx rt).before a s = true := by
  simp only [Bool.and_eq_true, beq_iff_eq, Bool.not_eq_true', decide_eq_true_eq] at h5
  obtain ⟨⟨⟨⟨⟨g1, g2⟩, g3⟩, g4⟩, g5⟩, g6⟩ := h5
  simp [Cond.before, Cond.holds, Cond.value, h1, h2, h3, h4, g1, g2, g3, g4, g5, g6]
def isCode : Jvm.Cond → Bool
  | .code _ _ _ _ => true
  | _ => false
theorem all_split {L : List Jvm.Cond} {P : Jvm.Cond → Bool} (h1 : L.all (fun c => isCode c || P c) = true) (h2 : ∀ c ∈ L.filter isCode, P c = true) : L.all P = true := by
  refine List.all_eq_true.mpr fun c hc => ?_
  have h := List.all_eq_true.mp h1 c hc
  rcases Bool.eq_false_or_eq_true (isCode c) with hi | hi
  · exact h2 c (List.mem_filter.mpr ⟨hc, hi⟩)
  · simpa [hi] using h
set_option maxRecDepth 65536 in
theorem w_c0 : (Jvm.Cond.code x code maxLocals ret).before args0 about1 = true := code_word (m := ⟨1, 1⟩) (meth := k1m1) (c := k1c1) (by decide +kernel) rfl rfl rfl (by decide +kernel)
set_option maxRecDepth 65536 in
theorem w_c1 : (Jvm.Cond.code ({ cls := "com/example/stale_to_safe/staletosafe/replay/Verdict", name := "of", desc := "(ZZ)Lcom/example/stale_to_safe/staletosafe/replay/Verdict;" } : Jvm.MethodName) prog_57_method_5_code (3 : Nat) (Option.some (Jvm.ClassFile.FieldType.object "com/example/stale_to_safe/staletosafe/replay/Verdict"))).before args0 about1 = true := code_word (m := ⟨6, 0⟩) (meth := k6m0) (c := k6c0) (by decide +kernel) rfl rfl rfl (by decide +kernel)
def codes1 : List Jvm.Cond := [Jvm.Cond.code x code maxLocals ret, Jvm.Cond.code ({ cls := "com/example/stale_to_safe/staletosafe/replay/Verdict", name := "of", desc := "(ZZ)Lcom/example/stale_to_safe/staletosafe/replay/Verdict;" } : Jvm.MethodName) prog_57_method_5_code (3 : Nat) (Option.some (Jvm.ClassFile.FieldType.object "com/example/stale_to_safe/staletosafe/replay/Verdict"))]
set_option maxRecDepth 65536 in
theorem codes_eq : words1.filter isCode = codes1 := rfl
theorem w_codes : ∀ c ∈ words1.filter isCode, c.before args0 about1 = true := by
  rw [codes_eq]
  intro c hc
  simp only [codes1, List.mem_cons, List.not_mem_nil, or_false] at hc
  rcases hc with rfl | rfl
  · exact w_c0
  · exact w_c1
set_option maxRecDepth 65536 in
theorem w_t1 : words1.all (fun c => isCode c || c.before args0 about1) = true := by decide +kernel
theorem w_tables : (allAtoms (Jvm.Cond.code x code maxLocals ret :: tables_1)).before args0 about1 = true := by
  rw [allAtoms_all]
  show words1.all (fun c => c.before args0 about1) = true
  refine all_split ?_ w_codes
  rw [w_t1]
set_option maxRecDepth 65536 in
theorem w_case : (Jvm.Cond.and given_1 narrow_1).before args0 about1 = true := by decide +kernel
theorem w_applies : (headSpec (Jvm.Cond.code x code maxLocals ret :: tables_1) room_1).applies x e0.platform about1 = true :=
  (Spec.applies_iff w_frames).mpr ⟨w_running, w_runnable, w_alone, w_named, w_hears, w_ripe, w_room, w_tables⟩
theorem atStart : AtStart classFile x code maxLocals ret World_1 tables_1 room_1 Calls_1 rest_1 Pre_1 launch0 p0 e0 about1 theMethod args0 below0 :=
  ⟨lists_1, trivial, launch0.admits_env _ _ _, launch0.least_env, fairChoices_fair.cas, fairChoices_fair.clock, w_frames, w_args, w_heap, w_applies, trivial, trivial, w_case⟩
end start1
theorem witness_1 : WitnessClaimed_1 := ⟨start1.p0, start1.e0, start1.about1, start1.theMethod, start1.args0, start1.below0, start1.atStart⟩
end Jvm.Pilot.@@N@@
