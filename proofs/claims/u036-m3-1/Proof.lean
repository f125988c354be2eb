import JvmDerived
import JvmDerived.Pilot.@@N@@Statement
import JvmDerived.Pilot.@@N@@Code
set_option linter.unusedVariables false
set_option linter.unusedSimpArgs false
namespace Jvm.RoadKit
open Sem ClassFile Op Lib Jvm.Stand Jvm.Free Jvm.LawKit
section New
variable {p : Program} {l : Launch} {e : Env} {R : Room} {s : State} {m : MethodId} {args : Array Value} {below : List Frame} {meth : Method} {c : Code} {T : State} {locs : List Loc} {cells slots : Nat}
theorem retI (X : Stand p l e R s m args below meth c T locs cells slots) (hx : p.tables.exec = Jvm.exec) {pc : Nat} {Ls : Array Slot} {z : Int32} {rest : List Value} (hret : meth.sig.returnType = some .int) (hd : decode c.code pc = .ok (.ireturn, 1)) {fs : List Frame}
    (hl : ∀ (f : JFrame) (acts : List Action), f.method = m → f.locked = none → f.entered = [] → (doReturn e (T.setTop f) acts (some (.int z))).1 = T.setFrames fs) : Steps p.tables e below (T.setTop (mkF m pc Ls (.int z :: rest))) (T.setFrames fs) := by
  have hm' : T.vm.method? m = some meth := X.method'
  have hn : narrow .int (.int z) = .int z := rfl
  show Steps p.tables e below (T.setTop { method := m, pc := pc, locals := Ls, stack := _ :: rest, locked := none }) _
  jvm_step X.here [X.here.top, hx, hd, hm', hret, hn]
  first | (intro acts; rw [hl _ acts rfl rfl rfl]) | rw [hl _ _ rfl rfl rfl]
  exact Steps.refl _
end New
end Jvm.RoadKit
namespace Jvm.Pilot.@@N@@
open Jvm Jvm.ClassFile Sem Op Lib Jvm.Free Jvm.Stand Jvm.LawKit Jvm.RoadKit Bundle Jvm.Pilot.@@N@@.Jvm.D
def Gl (p : Program) (e : Env) (below : List Frame) (Q : Outcome → State → Prop) (A : State) : Prop := ∃ t o, Steps p.tables e below A t ∧ t.status = .running ∧ Ended t below o ∧ Q o t
theorem Gl.st {p : Program} {e : Env} {below : List Frame} {Q : Outcome → State → Prop} {A B : State} (k : ∀ t, Steps p.tables e below B t → Steps p.tables e below A t) (h : Gl p e below Q B) : Gl p e below Q A := by
  obtain ⟨t, o, h1, r⟩ := h
  exact ⟨t, o, k t h1, r⟩
theorem Gl.cast {p : Program} {e : Env} {below : List Frame} {Q : Outcome → State → Prop} {A B : State} (k : A = B) (h : Gl p e below Q B) : Gl p e below Q A := k ▸ h
theorem Gl.join {p : Program} {e : Env} {below : List Frame} {Q : Outcome → State → Prop} {A B : State} (k : Gl p e below Q A → Gl p e below Q B) (h : Gl p e below Q A) : Gl p e below Q B := k h
theorem Gl.fin {p : Program} {e : Env} {below : List Frame} {Q : Outcome → State → Prop} {A t : State} {o : Outcome} (h1 : Steps p.tables e below A t) (h2 : t.status = .running) (h3 : Ended t below o) (h4 : Q o t) : Gl p e below Q A := ⟨t, o, h1, h2, h3, h4⟩
theorem tw {a0 : Array Value} {Z : State} (hw : ∀ d ∈ tables_1, d.before a0 Z = true) (i : Nat) {d : Jvm.Cond} (h : tables_1[i]? = some d) : d.before a0 Z = true := hw _ (List.mem_of_getElem? h)
theorem ldAt {L M : Array Slot} (h : L = M) {k : Nat} {v : Slot} (q : M[k]? = some v) : L[k]? = some v := h ▸ q
theorem stAt {L M L' M' : Array Slot} {k : Nat} {v w : Value} (h : L = M) (h' : L' = M') (e : w = v) (q : storeLocals M k v = some M') : storeLocals L k w = some L' := by subst h h' e; exact q
theorem stAt' {L M L' M' : Array Slot} {k : Nat} {v w : Value} (h : L = M) (h' : L' = M') (e : w = v) (q : storeLocals M k v = some M') : storeLocals L k w = some L' := by subst h h' e; exact q
theorem szAt {L M : Array Slot} {k n : Nat} (h : k = n) (h' : L = M) (q : M.size = n) : L.size = k := by subst h h'; exact q
theorem efAt {m : MethodId} {L M : Array Slot} {f : JFrame} (h : L = M) (q : f = mkF m 0 M []) : f = mkF m 0 L [] := h ▸ q
theorem own_nb {c : Prop} [Decidable c] {a b : Int32} (ha : nar .boolean a = a) (hb : nar .boolean b = b) : nar .boolean (if c then a else b) = if c then a else b := by split <;> assumption
theorem own_arr_keep {Z : State} {h h' : Heap} {a : Addr} {c : Cell} {ty : FieldType} {ws : List Addr} (F : Arr Z h a c ty) (K : Keep h h' ws) (q : a ∉ ws) : Arr Z h' a c ty := ⟨K.2.1 a c F.1 q, F.2⟩
theorem own_eqL {args : Array Value} {s : State} {t : Term} {z : Int64} (h : (Jvm.Cond.eq t (.long z)).value args s none s [] = some true) : t.eval args s none [] s = some (.long z) := by
  obtain ⟨x, y, ha, hb, k1, k2⟩ := cmp_v (Or.inl h)
  obtain rfl : y = .long z := Option.some.inj (hb.symm.trans (long_at z))
  obtain ⟨w, rfl⟩ : ∃ w, x = .long w := k2
  rw [ha, gotT (eq_L ha hb) h]
theorem own_eqI {args : Array Value} {s : State} {t : Term} {z : Int32} (h : (Jvm.Cond.eq t (.int z)).value args s none s [] = some true) : t.eval args s none [] s = some (.int z) := by
  obtain ⟨x, y, ha, hb, k1, k2⟩ := cmp_v (Or.inl h)
  obtain rfl : y = .int z := Option.some.inj (hb.symm.trans (Term.int_eval z))
  obtain ⟨w, rfl⟩ : ∃ w, x = .int w := k2
  rw [ha, gotT (Cond.eq_ints ha hb) h]
theorem own_sta_keep {Z : State} {h h' : Heap} {C n d : String} {v : Value} {ws : List Addr} (F : Sta Z h C n d v) (K : Keep h h' ws) (q : ∀ x ∈ ws, ∀ cell : Cell, h[x]? = some cell → cell.vm.isStatics = false) : Sta Z h' C n d v := by
  obtain ⟨cf, i, k, f, a, cell, h1, h2, h3, h4, h5, h6, r⟩ := F
  exact ⟨cf, i, k, f, a, cell, h1, h2, h3, h4, K.2.1 a cell h5 (fun y => by have := q a y cell h5; rw [h6] at this; cases this), h6, r⟩
theorem own_exa_plain {Z : State} {h : Heap} {a : Addr} {C : String} (F : Exa Z h a C) : ∀ cell : Cell, h[a]? = some cell → cell.vm.isStatics = false := fun cell hc => by
  obtain ⟨c', k, h1, -, -, h4, -⟩ := F
  rw [h1] at hc; cases hc; exact h4
theorem own_arv_plain {Z : State} {h : Heap} {a : Addr} {k : ClassId} {ty : FieldType} {z : Int32} {vs : List Value} {dv : Value} (F : Arv Z h a k ty z vs dv) : ∀ cell : Cell, h[a]? = some cell → cell.vm.isStatics = false := fun cell hc => by
  obtain ⟨c', A, -⟩ := F
  have := A.1; rw [this] at hc; cases hc; exact A.plain
theorem own_and3 (x y : Int32) (h : y = x &&& (3 : Int32)) : y = 0 ∨ y = 1 ∨ y = 2 ∨ y = 3 := by
  have a : y.toInt = x.toInt % 4 := by rw [h]; exact c_mask x (3 : Int32) 2 (by decide) (by decide)
  clear h
  simp only [← Int32.toInt_inj, Int32.reduceToInt]
  omega
theorem d1_0 : decode method_2_code 0 = .ok (.iload_n 0, 1) := by decide +kernel
theorem d1_1 : decode method_2_code 1 = .ok (.ifCond .ne 7, 3) := by decide +kernel
theorem d1_4 : decode method_2_code 4 = .ok (.getstatic 7, 3) := by decide +kernel
theorem d1_7 : decode method_2_code 7 = .ok (.areturn, 1) := by decide +kernel
theorem d1_8 : decode method_2_code 8 = .ok (.iload_n 0, 1) := by decide +kernel
theorem d1_9 : decode method_2_code 9 = .ok (.iconst 1, 1) := by decide +kernel
theorem d1_10 : decode method_2_code 10 = .ok (.if_icmp .ne 7, 3) := by decide +kernel
theorem d1_13 : decode method_2_code 13 = .ok (.getstatic 13, 3) := by decide +kernel
theorem d1_16 : decode method_2_code 16 = .ok (.areturn, 1) := by decide +kernel
theorem d1_17 : decode method_2_code 17 = .ok (.iload_n 0, 1) := by decide +kernel
theorem d1_18 : decode method_2_code 18 = .ok (.iconst 2, 1) := by decide +kernel
theorem d1_19 : decode method_2_code 19 = .ok (.if_icmp .ne 7, 3) := by decide +kernel
theorem d1_22 : decode method_2_code 22 = .ok (.getstatic 16, 3) := by decide +kernel
theorem d1_25 : decode method_2_code 25 = .ok (.areturn, 1) := by decide +kernel
theorem d1_26 : decode method_2_code 26 = .ok (.getstatic 19, 3) := by decide +kernel
theorem d1_29 : decode method_2_code 29 = .ok (.areturn, 1) := by decide +kernel
theorem pn_1 : plainName "com/example/stale_to_safe/staletosafe/consistency/LevelServesPinLaw" = true := by first | (simp [plainName, overriddenIn]; done) | decide +kernel
theorem ef_1 (m : MethodId) (p1 : Int32) : entryFrame m #[(.int p1)] 1 = mkF m 0 #[.val (.int p1)] [] := by first | (simp [entryFrame, mkF, argsToLocals, Value.category]; done) | rfl
def Q1 (Z : State) (p1 : Int32) (z_INTERVAL : Addr) (z_INTE0 : Addr) (z_FORW1 : Addr) (z_REVOCATION : Addr) (h0 : Heap) (n0 : Nat) (v : Option Value) (h : Heap) (L : List Loc) : Prop := v = some (.ref (if p1 = (0 : Int32) then z_INTERVAL else (if p1 = (1 : Int32) then z_INTE0 else (if p1 = (2 : Int32) then z_FORW1 else z_REVOCATION)))) ∧ Fr n0 L ∧ h = h0
set_option maxRecDepth 65536 in
set_option maxHeartbeats 40000000 in
theorem rm1 (l : Launch) (Z : State) (a0 : Array Value) (hw : ∀ d ∈ tables_1, d.before a0 Z = true) (ws : List Jvm.Cond) (p1 : Int32) (z_INTERVAL : Addr) (z_INTE0 : Addr) (z_FORW1 : Addr) (z_REVOCATION : Addr) (h0 : Heap) (n0 : Nat) (Z0 : n0 ≤ h0.size) (S_INTERVAL : Sta Z h0 "com/example/stale_to_safe/staletosafe/consistency/Level" "INTERVAL" "Lcom/example/stale_to_safe/staletosafe/consistency/Level;" (.ref z_INTERVAL)) (S_INTE0 : Sta Z h0 "com/example/stale_to_safe/staletosafe/consistency/Level" "INTERVAL_WITH_REQUEST" "Lcom/example/stale_to_safe/staletosafe/consistency/Level;" (.ref z_INTE0)) (S_FORW1 : Sta Z h0 "com/example/stale_to_safe/staletosafe/consistency/Level" "FORWARD_LOOKING" "Lcom/example/stale_to_safe/staletosafe/consistency/Level;" (.ref z_FORW1)) (S_REVOCATION : Sta Z h0 "com/example/stale_to_safe/staletosafe/consistency/Level" "REVOCATION" "Lcom/example/stale_to_safe/staletosafe/consistency/Level;" (.ref z_REVOCATION)) :
    MetFree l (⟨"com/example/stale_to_safe/staletosafe/consistency/LevelServesPinLaw", "pick", "(I)Lcom/example/stale_to_safe/staletosafe/consistency/Level;"⟩ : MethodName) (head1 (Jvm.Cond.code (⟨"com/example/stale_to_safe/staletosafe/consistency/LevelServesPinLaw", "pick", "(I)Lcom/example/stale_to_safe/staletosafe/consistency/Level;"⟩ : MethodName) method_2_code 1 (some (.object "com/example/stale_to_safe/staletosafe/consistency/Level")) :: ws) ({ frames := 0, cells := 0, slots := 0, locals := 0 } : Room)) (fun a U => a = #[(.int p1)] ∧ Z.Warmed39 U.vm ∧ U.heap = h0) (fun _ _ _ _ _ => True) (fun _ U o U' => ∃ v L, o = .returned v ∧ Q1 Z p1 z_INTERVAL z_INTE0 z_FORW1 z_REVOCATION h0 n0 v U'.heap L ∧ FrameEnd U o U' L ({ frames := 0, cells := 0, slots := 0, locals := 0 } : Room).cells ({ frames := 0, cells := 0, slots := 0, locals := 0 } : Room).slots) := by
  refine MetFree.of_bodySF (plainFor_of_name pn_1) hisR ?_
  intro p e s m args below meth c s₁ Bd hml0 hP hK
  obtain ⟨rfl, hZ, hh⟩ := hP
  have hx := Bd.exec
  have hby := Bd.bytes
  have hml : c.maxLocals = 1 := hml0
  have hown : s.vm.findClass "com/example/stale_to_safe/staletosafe/consistency/LevelServesPinLaw" = some m.cls := findClass_of_methodNamed Bd.named
  have hnm := (name_of_methodNamed Bd.named Bd.method).1
  have X0 : Stand p l e ({ frames := 0, cells := 0, slots := 0, locals := 0 } : Room) s m #[(.int p1)] below meth c s₁ [] 0 0 := Stand.of_body Bd
  have e0 : s₁.heap = h0 := by rw [← hh, Bd.state]; rfl
  have N0 := Fr.nil n0
  have K0 : Keep h0 h0 [] := Keep.refl h0 _
  refine (show Gl p e below (fun o U' => ∃ v L, o = .returned v ∧ Q1 Z p1 z_INTERVAL z_INTE0 z_FORW1 z_REVOCATION h0 n0 v U'.heap L ∧ FrameEnd s o U' L ({ frames := 0, cells := 0, slots := 0, locals := 0 } : Room).cells ({ frames := 0, cells := 0, slots := 0, locals := 0 } : Room).slots) (s₁.setTop (entryFrame m #[(.int p1)] 1)) from ?_)
  obtain ⟨L0, hL0⟩ : ∃ z : Array Slot, z = #[.val (.int p1)] := ⟨_, rfl⟩
  refine Gl.st (B := (s₁.setTop (mkF m 0 L0 []))) (fun t k => castTop (efAt hL0 (ef_1 m p1)) k) ?_
  refine Gl.st (B := (s₁.setTop (mkF m 1 L0 [(.int p1)]))) (fun t k => XS.iloadN X0.here hx rfl (hb hby d1_0) (ldAt hL0 rfl) k) ?_
  by_cases hc1_1 : p1 = (0 : Int32)
  · skip
    refine Gl.st (B := (s₁.setTop (mkF m 4 L0 []))) (fun t k => XS.ifNo X0.here hx rfl (hb hby d1_1) rfl ((if0 _ _).trans (teq hc1_1).2) k) ?_
    obtain ⟨T2, X2, e2, st2⟩ := getS2 X0 hx hZ hown (host := "") (Or.inl (tw hw 4 rfl)) Via.refl e0 S_INTERVAL (g := (mkF m 4 L0 [])) rfl (hb hby d1_4)
    refine Gl.st (B := (T2.setTop (mkF m 7 L0 [(.ref z_INTERVAL)]))) st2 ?_
    obtain ⟨fs, hr, hrun, hended, hW, hsame⟩ := X2.leave (v := some (.ref z_INTERVAL)) (fun h => by rw [Bd.returns] at h; cases h)
    refine Gl.fin (X2.areturnOut hx rfl Bd.returns rfl (hb hby d1_7) hr) hrun hended ⟨_, _, rfl, ?_, ⟨_, rfl⟩, hW, hsame.mono (by decide) (by decide)⟩
    show Q1 Z p1 z_INTERVAL z_INTE0 z_FORW1 z_REVOCATION h0 n0 _ T2.heap _
    rw [e2]
    exact ⟨(by rw [if_pos hc1_1]), N0, rfl⟩
  · skip
    refine Gl.st (B := (s₁.setTop (mkF m 8 L0 []))) (fun t k => XS.ifYes X0.here hx rfl (pc0 := 1) (pc' := 8) rfl (hb hby d1_1) rfl ((if0 _ _).trans (feq hc1_1).2) (by decide) (by decide) k) ?_
    refine Gl.st (B := (s₁.setTop (mkF m 9 L0 [(.int p1)]))) (fun t k => XS.iloadN X0.here hx rfl (hb hby d1_8) (ldAt hL0 rfl) k) ?_
    refine Gl.st (B := (s₁.setTop (mkF m 10 L0 [(.int (1 : Int32)), (.int p1)]))) (fun t k => XS.iconst X0.here hx rfl (hb hby d1_9) k) ?_
    by_cases hc10_3 : p1 = (1 : Int32)
    · skip
      refine Gl.st (B := (s₁.setTop (mkF m 13 L0 []))) (fun t k => XS.icmpNo X0.here hx rfl (hb hby d1_10) rfl (teq hc10_3).2 k) ?_
      obtain ⟨T4, X4, e4, st4⟩ := getS2 X0 hx hZ hown (host := "") (Or.inl (tw hw 22 rfl)) Via.refl e0 S_INTE0 (g := (mkF m 13 L0 [])) rfl (hb hby d1_13)
      refine Gl.st (B := (T4.setTop (mkF m 16 L0 [(.ref z_INTE0)]))) st4 ?_
      obtain ⟨fs, hr, hrun, hended, hW, hsame⟩ := X4.leave (v := some (.ref z_INTE0)) (fun h => by rw [Bd.returns] at h; cases h)
      refine Gl.fin (X4.areturnOut hx rfl Bd.returns rfl (hb hby d1_16) hr) hrun hended ⟨_, _, rfl, ?_, ⟨_, rfl⟩, hW, hsame.mono (by decide) (by decide)⟩
      show Q1 Z p1 z_INTERVAL z_INTE0 z_FORW1 z_REVOCATION h0 n0 _ T4.heap _
      rw [e4]
      exact ⟨(by rw [if_neg hc1_1, if_pos hc10_3]), N0, rfl⟩
    · skip
      refine Gl.st (B := (s₁.setTop (mkF m 17 L0 []))) (fun t k => XS.icmpYes X0.here hx rfl (pc0 := 10) (pc' := 17) rfl (hb hby d1_10) rfl (feq hc10_3).2 (by decide) (by decide) k) ?_
      refine Gl.st (B := (s₁.setTop (mkF m 18 L0 [(.int p1)]))) (fun t k => XS.iloadN X0.here hx rfl (hb hby d1_17) (ldAt hL0 rfl) k) ?_
      refine Gl.st (B := (s₁.setTop (mkF m 19 L0 [(.int (2 : Int32)), (.int p1)]))) (fun t k => XS.iconst X0.here hx rfl (hb hby d1_18) k) ?_
      by_cases hc19_5 : p1 = (2 : Int32)
      · skip
        refine Gl.st (B := (s₁.setTop (mkF m 22 L0 []))) (fun t k => XS.icmpNo X0.here hx rfl (hb hby d1_19) rfl (teq hc19_5).2 k) ?_
        obtain ⟨T6, X6, e6, st6⟩ := getS2 X0 hx hZ hown (host := "") (Or.inl (tw hw 21 rfl)) Via.refl e0 S_FORW1 (g := (mkF m 22 L0 [])) rfl (hb hby d1_22)
        refine Gl.st (B := (T6.setTop (mkF m 25 L0 [(.ref z_FORW1)]))) st6 ?_
        obtain ⟨fs, hr, hrun, hended, hW, hsame⟩ := X6.leave (v := some (.ref z_FORW1)) (fun h => by rw [Bd.returns] at h; cases h)
        refine Gl.fin (X6.areturnOut hx rfl Bd.returns rfl (hb hby d1_25) hr) hrun hended ⟨_, _, rfl, ?_, ⟨_, rfl⟩, hW, hsame.mono (by decide) (by decide)⟩
        show Q1 Z p1 z_INTERVAL z_INTE0 z_FORW1 z_REVOCATION h0 n0 _ T6.heap _
        rw [e6]
        exact ⟨(by rw [if_neg hc1_1, if_neg hc10_3, if_pos hc19_5]), N0, rfl⟩
      · skip
        refine Gl.st (B := (s₁.setTop (mkF m 26 L0 []))) (fun t k => XS.icmpYes X0.here hx rfl (pc0 := 19) (pc' := 26) rfl (hb hby d1_19) rfl (feq hc19_5).2 (by decide) (by decide) k) ?_
        obtain ⟨T7, X7, e7, st7⟩ := getS2 X0 hx hZ hown (host := "") (Or.inl (tw hw 19 rfl)) Via.refl e0 S_REVOCATION (g := (mkF m 26 L0 [])) rfl (hb hby d1_26)
        refine Gl.st (B := (T7.setTop (mkF m 29 L0 [(.ref z_REVOCATION)]))) st7 ?_
        obtain ⟨fs, hr, hrun, hended, hW, hsame⟩ := X7.leave (v := some (.ref z_REVOCATION)) (fun h => by rw [Bd.returns] at h; cases h)
        refine Gl.fin (X7.areturnOut hx rfl Bd.returns rfl (hb hby d1_29) hr) hrun hended ⟨_, _, rfl, ?_, ⟨_, rfl⟩, hW, hsame.mono (by decide) (by decide)⟩
        show Q1 Z p1 z_INTERVAL z_INTE0 z_FORW1 z_REVOCATION h0 n0 _ T7.heap _
        rw [e7]
        exact ⟨(by rw [if_neg hc1_1, if_neg hc10_3, if_neg hc19_5]), N0, rfl⟩
theorem d2_0 : decode prog_11_method_6_code 0 = .ok (.aload_n 0, 1) := by decide +kernel
theorem d2_1 : decode prog_11_method_6_code 1 = .ok (.getstatic 7, 3) := by decide +kernel
theorem d2_4 : decode prog_11_method_6_code 4 = .ok (.if_acmp .eq 10, 3) := by decide +kernel
theorem d2_7 : decode prog_11_method_6_code 7 = .ok (.aload_n 0, 1) := by decide +kernel
theorem d2_8 : decode prog_11_method_6_code 8 = .ok (.getstatic 10, 3) := by decide +kernel
theorem d2_11 : decode prog_11_method_6_code 11 = .ok (.if_acmp .ne 7, 3) := by decide +kernel
theorem d2_14 : decode prog_11_method_6_code 14 = .ok (.iconst 1, 1) := by decide +kernel
theorem d2_15 : decode prog_11_method_6_code 15 = .ok (.goto 4, 3) := by decide +kernel
theorem d2_18 : decode prog_11_method_6_code 18 = .ok (.iconst 0, 1) := by decide +kernel
theorem d2_19 : decode prog_11_method_6_code 19 = .ok (.ireturn, 1) := by decide +kernel
theorem pn_2 : plainName "com/example/stale_to_safe/staletosafe/consistency/Level" = true := by first | (simp [plainName, overriddenIn]; done) | decide +kernel
theorem ef_2 (m : MethodId) (a1 : Addr) : entryFrame m #[(.ref a1)] 1 = mkF m 0 #[.val (.ref a1)] [] := by first | (simp [entryFrame, mkF, argsToLocals, Value.category]; done) | rfl
def Q2 (Z : State) (a1 : Addr) (z_INTE0 : Addr) (z_FORW1 : Addr) (h0 : Heap) (n0 : Nat) (v : Option Value) (h : Heap) (L : List Loc) : Prop := v = some (.int (if a1 = z_INTE0 then (1 : Int32) else (if a1 = z_FORW1 then (1 : Int32) else (0 : Int32)))) ∧ Fr n0 L ∧ h = h0
set_option maxRecDepth 65536 in
set_option maxHeartbeats 40000000 in
theorem rm2 (l : Launch) (Z : State) (a0 : Array Value) (hw : ∀ d ∈ tables_1, d.before a0 Z = true) (ws : List Jvm.Cond) (a1 : Addr) (z_INTE0 : Addr) (z_FORW1 : Addr) (h0 : Heap) (n0 : Nat) (Z0 : n0 ≤ h0.size) (S_INTE0 : Sta Z h0 "com/example/stale_to_safe/staletosafe/consistency/Level" "INTERVAL_WITH_REQUEST" "Lcom/example/stale_to_safe/staletosafe/consistency/Level;" (.ref z_INTE0)) (S_FORW1 : Sta Z h0 "com/example/stale_to_safe/staletosafe/consistency/Level" "FORWARD_LOOKING" "Lcom/example/stale_to_safe/staletosafe/consistency/Level;" (.ref z_FORW1)) :
    MetFree l (⟨"com/example/stale_to_safe/staletosafe/consistency/Level", "serves", "()Z"⟩ : MethodName) (head1 (Jvm.Cond.code (⟨"com/example/stale_to_safe/staletosafe/consistency/Level", "serves", "()Z"⟩ : MethodName) prog_11_method_6_code 1 (some .boolean) :: ws) ({ frames := 0, cells := 0, slots := 0, locals := 0 } : Room)) (fun a U => a = #[(.ref a1)] ∧ Z.Warmed39 U.vm ∧ U.heap = h0) (fun _ _ _ _ _ => True) (fun _ U o U' => ∃ v L, o = .returned v ∧ Q2 Z a1 z_INTE0 z_FORW1 h0 n0 v U'.heap L ∧ FrameEnd U o U' L ({ frames := 0, cells := 0, slots := 0, locals := 0 } : Room).cells ({ frames := 0, cells := 0, slots := 0, locals := 0 } : Room).slots) := by
  refine MetFree.of_bodySF (plainFor_of_name pn_2) hisR ?_
  intro p e s m args below meth c s₁ Bd hml0 hP hK
  obtain ⟨rfl, hZ, hh⟩ := hP
  have hx := Bd.exec
  have hby := Bd.bytes
  have hml : c.maxLocals = 1 := hml0
  have hown : s.vm.findClass "com/example/stale_to_safe/staletosafe/consistency/Level" = some m.cls := findClass_of_methodNamed Bd.named
  have hnm := (name_of_methodNamed Bd.named Bd.method).1
  have X0 : Stand p l e ({ frames := 0, cells := 0, slots := 0, locals := 0 } : Room) s m #[(.ref a1)] below meth c s₁ [] 0 0 := Stand.of_body Bd
  have e0 : s₁.heap = h0 := by rw [← hh, Bd.state]; rfl
  have N0 := Fr.nil n0
  have K0 : Keep h0 h0 [] := Keep.refl h0 _
  refine (show Gl p e below (fun o U' => ∃ v L, o = .returned v ∧ Q2 Z a1 z_INTE0 z_FORW1 h0 n0 v U'.heap L ∧ FrameEnd s o U' L ({ frames := 0, cells := 0, slots := 0, locals := 0 } : Room).cells ({ frames := 0, cells := 0, slots := 0, locals := 0 } : Room).slots) (s₁.setTop (entryFrame m #[(.ref a1)] 1)) from ?_)
  obtain ⟨L0, hL0⟩ : ∃ z : Array Slot, z = #[.val (.ref a1)] := ⟨_, rfl⟩
  refine Gl.st (B := (s₁.setTop (mkF m 0 L0 []))) (fun t k => castTop (efAt hL0 (ef_2 m a1)) k) ?_
  refine Gl.st (B := (s₁.setTop (mkF m 1 L0 [(.ref a1)]))) (fun t k => XS.aloadN X0.here hx rfl (hb hby d2_0) (ldAt hL0 rfl) rfl k) ?_
  obtain ⟨T1, X1, e1, st1⟩ := getS2 X0 hx hZ hown (host := "") (Or.inl (tw hw 12 rfl)) Via.refl e0 S_INTE0 (g := (mkF m 1 L0 [(.ref a1)])) rfl (hb hby d2_1)
  refine Gl.st (B := (T1.setTop (mkF m 4 L0 [(.ref z_INTE0), (.ref a1)]))) st1 ?_
  by_cases ha4_2 : a1 = z_INTE0
  · skip
    refine Gl.st (B := (T1.setTop (mkF m 14 L0 []))) (fun t k => Jvm.RoadKit.acmp (g := (mkF m 4 L0 [(.ref z_INTE0), (.ref a1)])) X1 hx rfl rfl rfl (pc0 := 4) (pc' := 14) (same := true) rfl (hb hby d2_4) rfl (decide_eq_true (congrArg Value.ref ha4_2)) (by decide) (by decide) k) ?_
    refine Gl.st (B := (T1.setTop (mkF m 15 L0 [(.int (1 : Int32))]))) (fun t k => XS.iconst X1.here hx rfl (hb hby d2_14) k) ?_
    refine Gl.st (B := (T1.setTop (mkF m 19 L0 [(.int (1 : Int32))]))) (fun t k => XS.goto X1.here hx rfl (pc0 := 15) (pc' := 19) rfl (hb hby d2_15) (by decide) (by decide) k) ?_
    obtain ⟨fs, hr, hrun, hended, hW, hsame⟩ := X1.leave (v := some (.int (nar .boolean (1 : Int32)))) (fun h => by rw [Bd.returns] at h; cases h)
    refine Gl.fin (retN X1 hx (t := .boolean) Bd.returns (by simp) (hb hby d2_19) hr) hrun hended ⟨_, _, rfl, ?_, ⟨_, rfl⟩, hW, hsame.mono (by decide) (by decide)⟩
    show Q2 Z a1 z_INTE0 z_FORW1 h0 n0 _ T1.heap _
    rw [e1]
    exact ⟨(by rw [if_pos ha4_2]; rfl), N0, rfl⟩
  · skip
    refine Gl.st (B := (T1.setTop (mkF m 7 L0 []))) (fun t k => Jvm.RoadKit.acmp (g := (mkF m 4 L0 [(.ref z_INTE0), (.ref a1)])) X1 hx rfl rfl rfl (pc0 := 4) (pc' := 7) (same := false) rfl (hb hby d2_4) rfl (decide_eq_false fun q => ha4_2 (Value.ref.inj q)) (by decide) (by decide) k) ?_
    refine Gl.st (B := (T1.setTop (mkF m 8 L0 [(.ref a1)]))) (fun t k => XS.aloadN X1.here hx rfl (hb hby d2_7) (ldAt hL0 rfl) rfl k) ?_
    obtain ⟨T3, X3, e3, st3⟩ := getS2 X1 hx hZ hown (host := "") (Or.inl (tw hw 14 rfl)) Via.refl e1 S_FORW1 (g := (mkF m 8 L0 [(.ref a1)])) rfl (hb hby d2_8)
    refine Gl.st (B := (T3.setTop (mkF m 11 L0 [(.ref z_FORW1), (.ref a1)]))) st3 ?_
    by_cases ha11_4 : a1 = z_FORW1
    · skip
      refine Gl.st (B := (T3.setTop (mkF m 14 L0 []))) (fun t k => Jvm.RoadKit.acmp (g := (mkF m 11 L0 [(.ref z_FORW1), (.ref a1)])) X3 hx rfl rfl rfl (pc0 := 11) (pc' := 14) (same := true) rfl (hb hby d2_11) rfl (decide_eq_true (congrArg Value.ref ha11_4)) (by decide) (by decide) k) ?_
      refine Gl.st (B := (T3.setTop (mkF m 15 L0 [(.int (1 : Int32))]))) (fun t k => XS.iconst X3.here hx rfl (hb hby d2_14) k) ?_
      refine Gl.st (B := (T3.setTop (mkF m 19 L0 [(.int (1 : Int32))]))) (fun t k => XS.goto X3.here hx rfl (pc0 := 15) (pc' := 19) rfl (hb hby d2_15) (by decide) (by decide) k) ?_
      obtain ⟨fs, hr, hrun, hended, hW, hsame⟩ := X3.leave (v := some (.int (nar .boolean (1 : Int32)))) (fun h => by rw [Bd.returns] at h; cases h)
      refine Gl.fin (retN X3 hx (t := .boolean) Bd.returns (by simp) (hb hby d2_19) hr) hrun hended ⟨_, _, rfl, ?_, ⟨_, rfl⟩, hW, hsame.mono (by decide) (by decide)⟩
      show Q2 Z a1 z_INTE0 z_FORW1 h0 n0 _ T3.heap _
      rw [e3]
      exact ⟨(by rw [if_neg ha4_2, if_pos ha11_4]; rfl), N0, rfl⟩
    · skip
      refine Gl.st (B := (T3.setTop (mkF m 18 L0 []))) (fun t k => Jvm.RoadKit.acmp (g := (mkF m 11 L0 [(.ref z_FORW1), (.ref a1)])) X3 hx rfl rfl rfl (pc0 := 11) (pc' := 18) (same := false) rfl (hb hby d2_11) rfl (decide_eq_false fun q => ha11_4 (Value.ref.inj q)) (by decide) (by decide) k) ?_
      refine Gl.st (B := (T3.setTop (mkF m 19 L0 [(.int (0 : Int32))]))) (fun t k => XS.iconst X3.here hx rfl (hb hby d2_18) k) ?_
      obtain ⟨fs, hr, hrun, hended, hW, hsame⟩ := X3.leave (v := some (.int (nar .boolean (0 : Int32)))) (fun h => by rw [Bd.returns] at h; cases h)
      refine Gl.fin (retN X3 hx (t := .boolean) Bd.returns (by simp) (hb hby d2_19) hr) hrun hended ⟨_, _, rfl, ?_, ⟨_, rfl⟩, hW, hsame.mono (by decide) (by decide)⟩
      show Q2 Z a1 z_INTE0 z_FORW1 h0 n0 _ T3.heap _
      rw [e3]
      exact ⟨(by rw [if_neg ha4_2, if_neg ha11_4]; rfl), N0, rfl⟩
theorem d3_0 : decode method_3_code 0 = .ok (.iload_n 0, 1) := by decide +kernel
theorem d3_1 : decode method_3_code 1 = .ok (.ifCond .ne 5, 3) := by decide +kernel
theorem d3_4 : decode method_3_code 4 = .ok (.iconst 0, 1) := by decide +kernel
theorem d3_5 : decode method_3_code 5 = .ok (.ireturn, 1) := by decide +kernel
theorem d3_6 : decode method_3_code 6 = .ok (.iload_n 0, 1) := by decide +kernel
theorem d3_7 : decode method_3_code 7 = .ok (.iconst 3, 1) := by decide +kernel
theorem d3_8 : decode method_3_code 8 = .ok (.if_icmp .ne 5, 3) := by decide +kernel
theorem d3_11 : decode method_3_code 11 = .ok (.iconst 0, 1) := by decide +kernel
theorem d3_12 : decode method_3_code 12 = .ok (.ireturn, 1) := by decide +kernel
theorem d3_13 : decode method_3_code 13 = .ok (.iconst 1, 1) := by decide +kernel
theorem d3_14 : decode method_3_code 14 = .ok (.ireturn, 1) := by decide +kernel
theorem pn_3 : plainName "com/example/stale_to_safe/staletosafe/consistency/LevelServesPinLaw" = true := by first | (simp [plainName, overriddenIn]; done) | decide +kernel
theorem ef_3 (m : MethodId) (p1 : Int32) : entryFrame m #[(.int p1)] 1 = mkF m 0 #[.val (.int p1)] [] := by first | (simp [entryFrame, mkF, argsToLocals, Value.category]; done) | rfl
def Q3 (Z : State) (p1 : Int32) (h0 : Heap) (n0 : Nat) (v : Option Value) (h : Heap) (L : List Loc) : Prop := v = some (.int (if p1 = (0 : Int32) then (0 : Int32) else (if p1 = (3 : Int32) then (0 : Int32) else (1 : Int32)))) ∧ Fr n0 L ∧ h = h0
set_option maxRecDepth 65536 in
set_option maxHeartbeats 40000000 in
theorem rm3 (l : Launch) (Z : State) (a0 : Array Value) (hw : ∀ d ∈ tables_1, d.before a0 Z = true) (ws : List Jvm.Cond) (p1 : Int32) (h0 : Heap) (n0 : Nat) (Z0 : n0 ≤ h0.size) :
    MetFree l (⟨"com/example/stale_to_safe/staletosafe/consistency/LevelServesPinLaw", "expected", "(I)Z"⟩ : MethodName) (head1 (Jvm.Cond.code (⟨"com/example/stale_to_safe/staletosafe/consistency/LevelServesPinLaw", "expected", "(I)Z"⟩ : MethodName) method_3_code 1 (some .boolean) :: ws) ({ frames := 0, cells := 0, slots := 0, locals := 0 } : Room)) (fun a U => a = #[(.int p1)] ∧ Z.Warmed39 U.vm ∧ U.heap = h0) (fun _ _ _ _ _ => True) (fun _ U o U' => ∃ v L, o = .returned v ∧ Q3 Z p1 h0 n0 v U'.heap L ∧ FrameEnd U o U' L ({ frames := 0, cells := 0, slots := 0, locals := 0 } : Room).cells ({ frames := 0, cells := 0, slots := 0, locals := 0 } : Room).slots) := by
  refine MetFree.of_bodySF (plainFor_of_name pn_3) hisR ?_
  intro p e s m args below meth c s₁ Bd hml0 hP hK
  obtain ⟨rfl, hZ, hh⟩ := hP
  have hx := Bd.exec
  have hby := Bd.bytes
  have hml : c.maxLocals = 1 := hml0
  have hown : s.vm.findClass "com/example/stale_to_safe/staletosafe/consistency/LevelServesPinLaw" = some m.cls := findClass_of_methodNamed Bd.named
  have hnm := (name_of_methodNamed Bd.named Bd.method).1
  have X0 : Stand p l e ({ frames := 0, cells := 0, slots := 0, locals := 0 } : Room) s m #[(.int p1)] below meth c s₁ [] 0 0 := Stand.of_body Bd
  have e0 : s₁.heap = h0 := by rw [← hh, Bd.state]; rfl
  have N0 := Fr.nil n0
  have K0 : Keep h0 h0 [] := Keep.refl h0 _
  refine (show Gl p e below (fun o U' => ∃ v L, o = .returned v ∧ Q3 Z p1 h0 n0 v U'.heap L ∧ FrameEnd s o U' L ({ frames := 0, cells := 0, slots := 0, locals := 0 } : Room).cells ({ frames := 0, cells := 0, slots := 0, locals := 0 } : Room).slots) (s₁.setTop (entryFrame m #[(.int p1)] 1)) from ?_)
  obtain ⟨L0, hL0⟩ : ∃ z : Array Slot, z = #[.val (.int p1)] := ⟨_, rfl⟩
  refine Gl.st (B := (s₁.setTop (mkF m 0 L0 []))) (fun t k => castTop (efAt hL0 (ef_3 m p1)) k) ?_
  refine Gl.st (B := (s₁.setTop (mkF m 1 L0 [(.int p1)]))) (fun t k => XS.iloadN X0.here hx rfl (hb hby d3_0) (ldAt hL0 rfl) k) ?_
  by_cases hc1_1 : p1 = (0 : Int32)
  · skip
    refine Gl.st (B := (s₁.setTop (mkF m 4 L0 []))) (fun t k => XS.ifNo X0.here hx rfl (hb hby d3_1) rfl ((if0 _ _).trans (teq hc1_1).2) k) ?_
    refine Gl.st (B := (s₁.setTop (mkF m 5 L0 [(.int (0 : Int32))]))) (fun t k => XS.iconst X0.here hx rfl (hb hby d3_4) k) ?_
    obtain ⟨fs, hr, hrun, hended, hW, hsame⟩ := X0.leave (v := some (.int (nar .boolean (0 : Int32)))) (fun h => by rw [Bd.returns] at h; cases h)
    refine Gl.fin (retN X0 hx (t := .boolean) Bd.returns (by simp) (hb hby d3_5) hr) hrun hended ⟨_, _, rfl, ?_, ⟨_, rfl⟩, hW, hsame.mono (by decide) (by decide)⟩
    show Q3 Z p1 h0 n0 _ s₁.heap _
    rw [e0]
    exact ⟨(by rw [if_pos hc1_1]; rfl), N0, rfl⟩
  · skip
    refine Gl.st (B := (s₁.setTop (mkF m 6 L0 []))) (fun t k => XS.ifYes X0.here hx rfl (pc0 := 1) (pc' := 6) rfl (hb hby d3_1) rfl ((if0 _ _).trans (feq hc1_1).2) (by decide) (by decide) k) ?_
    refine Gl.st (B := (s₁.setTop (mkF m 7 L0 [(.int p1)]))) (fun t k => XS.iloadN X0.here hx rfl (hb hby d3_6) (ldAt hL0 rfl) k) ?_
    refine Gl.st (B := (s₁.setTop (mkF m 8 L0 [(.int (3 : Int32)), (.int p1)]))) (fun t k => XS.iconst X0.here hx rfl (hb hby d3_7) k) ?_
    by_cases hc8_2 : p1 = (3 : Int32)
    · skip
      refine Gl.st (B := (s₁.setTop (mkF m 11 L0 []))) (fun t k => XS.icmpNo X0.here hx rfl (hb hby d3_8) rfl (teq hc8_2).2 k) ?_
      refine Gl.st (B := (s₁.setTop (mkF m 12 L0 [(.int (0 : Int32))]))) (fun t k => XS.iconst X0.here hx rfl (hb hby d3_11) k) ?_
      obtain ⟨fs, hr, hrun, hended, hW, hsame⟩ := X0.leave (v := some (.int (nar .boolean (0 : Int32)))) (fun h => by rw [Bd.returns] at h; cases h)
      refine Gl.fin (retN X0 hx (t := .boolean) Bd.returns (by simp) (hb hby d3_12) hr) hrun hended ⟨_, _, rfl, ?_, ⟨_, rfl⟩, hW, hsame.mono (by decide) (by decide)⟩
      show Q3 Z p1 h0 n0 _ s₁.heap _
      rw [e0]
      exact ⟨(by rw [if_neg hc1_1, if_pos hc8_2]; rfl), N0, rfl⟩
    · skip
      refine Gl.st (B := (s₁.setTop (mkF m 13 L0 []))) (fun t k => XS.icmpYes X0.here hx rfl (pc0 := 8) (pc' := 13) rfl (hb hby d3_8) rfl (feq hc8_2).2 (by decide) (by decide) k) ?_
      refine Gl.st (B := (s₁.setTop (mkF m 14 L0 [(.int (1 : Int32))]))) (fun t k => XS.iconst X0.here hx rfl (hb hby d3_13) k) ?_
      obtain ⟨fs, hr, hrun, hended, hW, hsame⟩ := X0.leave (v := some (.int (nar .boolean (1 : Int32)))) (fun h => by rw [Bd.returns] at h; cases h)
      refine Gl.fin (retN X0 hx (t := .boolean) Bd.returns (by simp) (hb hby d3_14) hr) hrun hended ⟨_, _, rfl, ?_, ⟨_, rfl⟩, hW, hsame.mono (by decide) (by decide)⟩
      show Q3 Z p1 h0 n0 _ s₁.heap _
      rw [e0]
      exact ⟨(by rw [if_neg hc1_1, if_neg hc8_2]; rfl), N0, rfl⟩
theorem pn_0 : plainName "com/example/stale_to_safe/staletosafe/consistency/LevelServesPinLaw" = true := by first | (simp [plainName, overriddenIn]; done) | decide +kernel
theorem pd_0_0 : parseMethodDescriptor "(I)Lcom/example/stale_to_safe/staletosafe/consistency/Level;" = some ⟨[.int], some (.object "com/example/stale_to_safe/staletosafe/consistency/Level")⟩ := by decide +kernel
theorem pd_0_1 : parseMethodDescriptor "()Z" = some ⟨[], some .boolean⟩ := by decide +kernel
theorem pd_0_2 : parseMethodDescriptor "(I)Z" = some ⟨[.int], some .boolean⟩ := by decide +kernel
theorem ef_0 (m : MethodId) (p1 : Int32) : entryFrame m #[(.int p1)] maxLocals = mkF m 0 #[.val (.int p1), .unset, .unset] [] := by first | (simp [entryFrame, mkF, argsToLocals, Value.category, maxLocals]; done) | rfl
theorem own_0_hc17_11 (z_INTERVAL : Addr) (z_INTE0 : Addr) (z_FORW1 : Addr) (r10_7 : Int32) (hr10_7 : r10_7 = (if z_INTERVAL = z_INTE0 then (1 : Int32) else (if z_INTERVAL = z_FORW1 then (1 : Int32) else (0 : Int32)))) (nq9 : z_INTERVAL ≠ z_INTE0) (nq10 : z_INTERVAL ≠ z_FORW1) : r10_7 = (0 : Int32) := by
  rw [hr10_7]
  simp [nq9, nq10]
theorem own_0_hc17_18 (z_INTE0 : Addr) (z_FORW1 : Addr) (r10_15 : Int32) (hr10_15 : r10_15 = (if z_INTE0 = z_INTE0 then (1 : Int32) else (if z_INTE0 = z_FORW1 then (1 : Int32) else (0 : Int32)))) (nq17 : z_INTE0 ≠ z_FORW1) : r10_15 = (1 : Int32) := by
  rw [hr10_15]
  simp [nq17]
theorem own_0_hc17_24 (z_FORW1 : Addr) (z_INTE0 : Addr) (r10_22 : Int32) (hr10_22 : r10_22 = (if z_FORW1 = z_INTE0 then (1 : Int32) else (if z_FORW1 = z_FORW1 then (1 : Int32) else (0 : Int32)))) (ne_z_FORW1_z_INTE0 : z_FORW1 ≠ z_INTE0) : r10_22 = (1 : Int32) := by
  rw [hr10_22]
  simp [ne_z_FORW1_z_INTE0]
theorem own_0_hc17_32 (z_REVOCATION : Addr) (z_INTE0 : Addr) (z_FORW1 : Addr) (r10_28 : Int32) (hr10_28 : r10_28 = (if z_REVOCATION = z_INTE0 then (1 : Int32) else (if z_REVOCATION = z_FORW1 then (1 : Int32) else (0 : Int32)))) (nq30 : z_REVOCATION ≠ z_INTE0) (nq31 : z_REVOCATION ≠ z_FORW1) : r10_28 = (0 : Int32) := by
  rw [hr10_28]
  simp [nq30, nq31]
def Q0 (Z : State) (p1 : Int32) (z_INTERVAL : Addr) (z_INTE0 : Addr) (z_FORW1 : Addr) (z_REVOCATION : Addr) (h0 : Heap) (n0 : Nat) (v : Option Value) (h : Heap) (L : List Loc) : Prop := v = some (.int (1 : Int32)) ∧ Fr n0 L
set_option maxRecDepth 65536 in
set_option maxHeartbeats 40000000 in
theorem rm0 (l : Launch) (Z : State) (a0 : Array Value) (hw : ∀ d ∈ tables_1, d.before a0 Z = true) (ws : List Jvm.Cond) (p1 : Int32) (z_INTERVAL : Addr) (z_INTE0 : Addr) (z_FORW1 : Addr) (z_REVOCATION : Addr) (h0 : Heap) (n0 : Nat) (Z0 : n0 ≤ h0.size) (S_INTERVAL : Sta Z h0 "com/example/stale_to_safe/staletosafe/consistency/Level" "INTERVAL" "Lcom/example/stale_to_safe/staletosafe/consistency/Level;" (.ref z_INTERVAL)) (S_INTE0 : Sta Z h0 "com/example/stale_to_safe/staletosafe/consistency/Level" "INTERVAL_WITH_REQUEST" "Lcom/example/stale_to_safe/staletosafe/consistency/Level;" (.ref z_INTE0)) (S_FORW1 : Sta Z h0 "com/example/stale_to_safe/staletosafe/consistency/Level" "FORWARD_LOOKING" "Lcom/example/stale_to_safe/staletosafe/consistency/Level;" (.ref z_FORW1)) (S_REVOCATION : Sta Z h0 "com/example/stale_to_safe/staletosafe/consistency/Level" "REVOCATION" "Lcom/example/stale_to_safe/staletosafe/consistency/Level;" (.ref z_REVOCATION)) (E_z_INTERVAL : Exa Z h0 z_INTERVAL "com/example/stale_to_safe/staletosafe/consistency/Level") (ne_z_INTE0_z_INTERVAL : z_INTE0 ≠ z_INTERVAL) (ne_z_FORW1_z_INTERVAL : z_FORW1 ≠ z_INTERVAL) (E_z_INTE0 : Exa Z h0 z_INTE0 "com/example/stale_to_safe/staletosafe/consistency/Level") (ne_z_FORW1_z_INTE0 : z_FORW1 ≠ z_INTE0) (E_z_FORW1 : Exa Z h0 z_FORW1 "com/example/stale_to_safe/staletosafe/consistency/Level") (E_z_REVOCATION : Exa Z h0 z_REVOCATION "com/example/stale_to_safe/staletosafe/consistency/Level") (ne_z_INTE0_z_REVOCATION : z_INTE0 ≠ z_REVOCATION) (ne_z_FORW1_z_REVOCATION : z_FORW1 ≠ z_REVOCATION) :
    MetFree l x (head1 (Jvm.Cond.code x code maxLocals ret :: ws) room_1) (fun a U => a = #[(.int p1)] ∧ Z.Warmed39 U.vm ∧ U.heap = h0) (fun _ _ _ _ _ => True) (fun _ U o U' => ∃ v L, o = .returned v ∧ Q0 Z p1 z_INTERVAL z_INTE0 z_FORW1 z_REVOCATION h0 n0 v U'.heap L ∧ FrameEnd U o U' L room_1.cells room_1.slots) := by
  refine MetFree.of_bodySF (plainFor_of_name pn_0) hisR ?_
  intro p e s m args below meth c s₁ Bd hml0 hP hK
  obtain ⟨rfl, hZ, hh⟩ := hP
  have hx := Bd.exec
  have hby := Bd.bytes
  have hml : c.maxLocals = 3 := hml0
  have hown : s.vm.findClass "com/example/stale_to_safe/staletosafe/consistency/LevelServesPinLaw" = some m.cls := findClass_of_methodNamed Bd.named
  have hnm := (name_of_methodNamed Bd.named Bd.method).1
  have X0 : Stand p l e room_1 s m #[(.int p1)] below meth c s₁ [] 0 0 := Stand.of_body Bd
  have e0 : s₁.heap = h0 := by rw [← hh, Bd.state]; rfl
  have N0 := Fr.nil n0
  refine (show Gl p e below (fun o U' => ∃ v L, o = .returned v ∧ Q0 Z p1 z_INTERVAL z_INTE0 z_FORW1 z_REVOCATION h0 n0 v U'.heap L ∧ FrameEnd s o U' L room_1.cells room_1.slots) (s₁.setTop (entryFrame m #[(.int p1)] maxLocals)) from ?_)
  obtain ⟨L0, hL0⟩ : ∃ z : Array Slot, z = #[.val (.int p1), .unset, .unset] := ⟨_, rfl⟩
  refine Gl.st (B := (s₁.setTop (mkF m 0 L0 []))) (fun t k => castTop (efAt hL0 (ef_0 m p1)) k) ?_
  refine Gl.st (B := (s₁.setTop (mkF m 1 L0 [(.int p1)]))) (fun t k => XS.iloadN X0.here hx rfl (hb hby at_0) (ldAt hL0 rfl) k) ?_
  refine Gl.st (B := (s₁.setTop (mkF m 2 L0 [(.int (3 : Int32)), (.int p1)]))) (fun t k => XS.iconst X0.here hx rfl (hb hby at_1) k) ?_
  refine Gl.st (B := (s₁.setTop (mkF m 3 L0 [(.int (p1 &&& (3 : Int32)))]))) (fun t k => XS.iand X0.here hx rfl (hb hby at_2) rfl k) ?_
  obtain ⟨y1_3_1, hy1_3_1⟩ : ∃ z : Int32, z = (p1 &&& (3 : Int32)) := ⟨_, rfl⟩
  refine Gl.cast (B := (s₁.setTop (mkF m 3 L0 [(.int y1_3_1)]))) (by rw [hy1_3_1]) ?_
  obtain ⟨L2, hL2⟩ : ∃ z : Array Slot, z = #[.val (.int p1), .val (.int y1_3_1), .unset] := ⟨_, rfl⟩
  refine Gl.st (B := (s₁.setTop (mkF m 4 L2 []))) (fun t k => XS.istoreN X0.here hx rfl (hb hby at_3) rfl (l' := L2) (stAt hL0 hL2 rfl rfl) k) ?_
  have hs3 : y1_3_1 = (0 : Int32) ∨ y1_3_1 = (1 : Int32) ∨ y1_3_1 = (2 : Int32) ∨ y1_3_1 = (3 : Int32) := by
    exact own_and3 _ _ hy1_3_1
  rcases hs3 with hk | hk | hk | hk
  · skip
    subst hk
    refine Gl.st (B := (s₁.setTop (mkF m 5 L2 [(.int (0 : Int32))]))) (fun t k => XS.iloadN X0.here hx rfl (hb hby at_4) (ldAt hL2 rfl) k) ?_
    obtain ⟨_, _, ⟨T4, L4q, k4, n4⟩, -, X4, ⟨Lc4, hQ4, l4, y4, z4⟩, st4⟩ := Jvm.LawKit.callS X0 hx (y := (⟨"com/example/stale_to_safe/staletosafe/consistency/LevelServesPinLaw", "pick", "(I)Lcom/example/stale_to_safe/staletosafe/consistency/Level;"⟩ : MethodName)) hown (mvT hZ (tw hw 0 rfl)) (mvT hZ (tw hw 1 rfl)) (mvT hZ (tw hw 2 rfl)) (mvT hZ (tw hw 3 rfl)) (by decide) (backOf (W := 0) (rm1 l Z a0 hw [] (0 : Int32) z_INTERVAL z_INTE0 z_FORW1 z_REVOCATION h0 n0 Z0 S_INTERVAL S_INTE0 S_FORW1 S_REVOCATION) hZ (tw hw 3 rfl) (tw hw 2 rfl) (by decide) (by decide)) (g := (mkF m 5 L2 [(.int (0 : Int32))])) rfl (szAt hml hL2 rfl) (argsL := [(.int (0 : Int32))]) (rest := []) (lenOf pd_0_0 rfl) rfl (by show 2 * 0 + _ ≤ _; exact Nat.le_of_eq rfl) (hb hby at_5) (fun _ _ => ⟨rfl, e0, (by decide : 0 + 0 ≤ _), (by decide : 0 + 0 ≤ _)⟩)
    dsimp only [Pt.U, Pt.locs, Pt.cells, Pt.slots] at X4 l4 y4 z4 st4 hQ4
    subst l4 y4 z4
    obtain ⟨rfl, N4q, eh4⟩ := hQ4
    have N4 := Fr.app N0 N4q
    refine Gl.st (B := (T4.setTop (mkF m 8 L2 [(.ref (if (0 : Int32) = (0 : Int32) then z_INTERVAL else (if (0 : Int32) = (1 : Int32) then z_INTE0 else (if (0 : Int32) = (2 : Int32) then z_FORW1 else z_REVOCATION))))]))) (fun t k => st4 t k) ?_
    refine Gl.cast (B := (T4.setTop (mkF m 8 L2 [(.ref z_INTERVAL)]))) (by rw [if_pos (by decide : (0 : Int32) = (0 : Int32))]) ?_
    obtain ⟨L5, hL5⟩ : ∃ z : Array Slot, z = #[.val (.int p1), .val (.int (0 : Int32)), .val (.ref z_INTERVAL)] := ⟨_, rfl⟩
    refine Gl.st (B := (T4.setTop (mkF m 9 L5 []))) (fun t k => XS.astoreN X4.here hx rfl (hb hby at_8) rfl rfl (l' := L5) (stAt hL2 hL5 rfl rfl) k) ?_
    refine Gl.st (B := (T4.setTop (mkF m 10 L5 [(.ref z_INTERVAL)]))) (fun t k => XS.aloadN X4.here hx rfl (hb hby at_9) (ldAt hL5 rfl) rfl k) ?_
    obtain ⟨cq6, kq6, q6a, q6b, q6c⟩ := isOf hZ eh4 E_z_INTERVAL
    obtain ⟨_, _, ⟨T6, L6q, k6, n6⟩, -, X6, ⟨Lc6, hQ6, l6, y6, z6⟩, st6⟩ := X4.virtualBack hx (y := (⟨"com/example/stale_to_safe/staletosafe/consistency/Level", "serves", "()Z"⟩ : MethodName)) (z := (⟨"com/example/stale_to_safe/staletosafe/consistency/Level", "serves", "()Z"⟩ : MethodName)) hown (mvT hZ (tw hw 7 rfl)) (mvT hZ (tw hw 8 rfl)) (notFace_of_selects (args := #[]) (mvT hZ (tw hw 10 rfl))) (mvT hZ (tw hw 10 rfl)) (mvT hZ (tw hw 9 rfl)) (by decide) (backOf (W := 0) (rm2 l Z a0 hw [] z_INTERVAL z_INTE0 z_FORW1 h0 n0 Z0 S_INTE0 S_FORW1) hZ (tw hw 11 rfl) (tw hw 5 rfl) (by decide) (by decide)) q6a q6c (g := (mkF m 10 L5 [(.ref z_INTERVAL)])) rfl (szAt hml hL5 rfl) (Steps.refl _) (argsL := []) (rest := []) (lenOf pd_0_1 rfl) rfl (by show 2 * 0 + _ ≤ _; exact Nat.le_of_eq rfl) (hb hby at_10) (fun _ _ => ⟨rfl, eh4, (by decide : 0 + 0 ≤ _), (by decide : 0 + 0 ≤ _)⟩)
    dsimp only [Pt.U, Pt.locs, Pt.cells, Pt.slots] at X6 l6 y6 z6 st6 hQ6
    subst l6 y6 z6
    obtain ⟨rfl, N6q, eh6⟩ := hQ6
    have N6 := Fr.app N4 N6q
    refine Gl.st (B := (T6.setTop (mkF m 13 L5 [(.int (if z_INTERVAL = z_INTE0 then (1 : Int32) else (if z_INTERVAL = z_FORW1 then (1 : Int32) else (0 : Int32))))]))) (fun t k => st6.trans k) ?_
    obtain ⟨r10_7, hr10_7⟩ : ∃ z : Int32, z = (if z_INTERVAL = z_INTE0 then (1 : Int32) else (if z_INTERVAL = z_FORW1 then (1 : Int32) else (0 : Int32))) := ⟨_, rfl⟩
    refine Gl.cast (B := (T6.setTop (mkF m 13 L5 [(.int r10_7)]))) (by rw [hr10_7]) ?_
    refine Gl.st (B := (T6.setTop (mkF m 14 L5 [(.int (0 : Int32)), (.int r10_7)]))) (fun t k => XS.iloadN X6.here hx rfl (hb hby at_13) (ldAt hL5 rfl) k) ?_
    obtain ⟨_, _, ⟨T8, L8q, k8, n8⟩, -, X8, ⟨Lc8, hQ8, l8, y8, z8⟩, st8⟩ := Jvm.LawKit.callS X6 hx (y := (⟨"com/example/stale_to_safe/staletosafe/consistency/LevelServesPinLaw", "expected", "(I)Z"⟩ : MethodName)) hown (mvT hZ (tw hw 16 rfl)) (mvT hZ (tw hw 17 rfl)) (mvT hZ (tw hw 2 rfl)) (mvT hZ (tw hw 18 rfl)) (by decide) (backOf (W := 1) (rm3 l Z a0 hw [] (0 : Int32) h0 n0 Z0) hZ (tw hw 18 rfl) (tw hw 2 rfl) (by decide) (by decide)) (g := (mkF m 14 L5 [(.int (0 : Int32)), (.int r10_7)])) rfl (szAt hml hL5 rfl) (argsL := [(.int (0 : Int32))]) (rest := [(.int r10_7)]) (lenOf pd_0_2 rfl) rfl (by show 2 * 0 + _ ≤ _; exact Nat.le_of_eq rfl) (hb hby at_14) (fun _ _ => ⟨rfl, eh6, (by decide : 0 + 0 ≤ _), (by decide : 0 + 0 ≤ _)⟩)
    dsimp only [Pt.U, Pt.locs, Pt.cells, Pt.slots] at X8 l8 y8 z8 st8 hQ8
    subst l8 y8 z8
    obtain ⟨rfl, N8q, eh8⟩ := hQ8
    have N8 := Fr.app N6 N8q
    refine Gl.st (B := (T8.setTop (mkF m 17 L5 [(.int (if (0 : Int32) = (0 : Int32) then (0 : Int32) else (if (0 : Int32) = (3 : Int32) then (0 : Int32) else (1 : Int32)))), (.int r10_7)]))) (fun t k => st8 t k) ?_
    refine Gl.cast (B := (T8.setTop (mkF m 17 L5 [(.int (0 : Int32)), (.int r10_7)]))) (by rw [if_pos (by decide : (0 : Int32) = (0 : Int32))]) ?_
    have nq9 : z_INTERVAL ≠ z_INTE0 := (Ne.symm ne_z_INTE0_z_INTERVAL)
    have nq10 : z_INTERVAL ≠ z_FORW1 := (Ne.symm ne_z_FORW1_z_INTERVAL)
    have hc17_11 : r10_7 = (0 : Int32) := own_0_hc17_11 z_INTERVAL z_INTE0 z_FORW1 r10_7 hr10_7 nq9 nq10
    refine Gl.st (B := (T8.setTop (mkF m 20 L5 []))) (fun t k => XS.icmpNo X8.here hx rfl (hb hby at_17) rfl (teq hc17_11).2 k) ?_
    refine Gl.st (B := (T8.setTop (mkF m 21 L5 [(.int (1 : Int32))]))) (fun t k => XS.iconst X8.here hx rfl (hb hby at_20) k) ?_
    refine Gl.st (B := (T8.setTop (mkF m 25 L5 [(.int (1 : Int32))]))) (fun t k => XS.goto X8.here hx rfl (pc0 := 21) (pc' := 25) rfl (hb hby at_21) (by decide) (by decide) k) ?_
    obtain ⟨fs, hr, hrun, hended, hW, hsame⟩ := X8.leave (v := some (.int (nar .boolean (1 : Int32)))) (fun h => by rw [Bd.returns] at h; cases h)
    refine Gl.fin (retN X8 hx (t := .boolean) Bd.returns (by simp) (hb hby at_25) hr) hrun hended ⟨_, _, rfl, ?_, ⟨_, rfl⟩, hW, hsame.mono (by decide) (by decide)⟩
    show Q0 Z p1 z_INTERVAL z_INTE0 z_FORW1 z_REVOCATION h0 n0 _ T8.heap _
    rw [eh8]
    exact ⟨rfl, N8⟩
  · skip
    subst hk
    refine Gl.st (B := (s₁.setTop (mkF m 5 L2 [(.int (1 : Int32))]))) (fun t k => XS.iloadN X0.here hx rfl (hb hby at_4) (ldAt hL2 rfl) k) ?_
    obtain ⟨_, _, ⟨T12, L12q, k12, n12⟩, -, X12, ⟨Lc12, hQ12, l12, y12, z12⟩, st12⟩ := Jvm.LawKit.callS X0 hx (y := (⟨"com/example/stale_to_safe/staletosafe/consistency/LevelServesPinLaw", "pick", "(I)Lcom/example/stale_to_safe/staletosafe/consistency/Level;"⟩ : MethodName)) hown (mvT hZ (tw hw 0 rfl)) (mvT hZ (tw hw 1 rfl)) (mvT hZ (tw hw 2 rfl)) (mvT hZ (tw hw 3 rfl)) (by decide) (backOf (W := 0) (rm1 l Z a0 hw [] (1 : Int32) z_INTERVAL z_INTE0 z_FORW1 z_REVOCATION h0 n0 Z0 S_INTERVAL S_INTE0 S_FORW1 S_REVOCATION) hZ (tw hw 3 rfl) (tw hw 2 rfl) (by decide) (by decide)) (g := (mkF m 5 L2 [(.int (1 : Int32))])) rfl (szAt hml hL2 rfl) (argsL := [(.int (1 : Int32))]) (rest := []) (lenOf pd_0_0 rfl) rfl (by show 2 * 0 + _ ≤ _; exact Nat.le_of_eq rfl) (hb hby at_5) (fun _ _ => ⟨rfl, e0, (by decide : 0 + 0 ≤ _), (by decide : 0 + 0 ≤ _)⟩)
    dsimp only [Pt.U, Pt.locs, Pt.cells, Pt.slots] at X12 l12 y12 z12 st12 hQ12
    subst l12 y12 z12
    obtain ⟨rfl, N12q, eh12⟩ := hQ12
    have N12 := Fr.app N0 N12q
    refine Gl.st (B := (T12.setTop (mkF m 8 L2 [(.ref (if (1 : Int32) = (0 : Int32) then z_INTERVAL else (if (1 : Int32) = (1 : Int32) then z_INTE0 else (if (1 : Int32) = (2 : Int32) then z_FORW1 else z_REVOCATION))))]))) (fun t k => st12 t k) ?_
    refine Gl.cast (B := (T12.setTop (mkF m 8 L2 [(.ref z_INTE0)]))) (by rw [if_neg (by decide : ¬ ((1 : Int32) = (0 : Int32))), if_pos (by decide : (1 : Int32) = (1 : Int32))]) ?_
    obtain ⟨L13, hL13⟩ : ∃ z : Array Slot, z = #[.val (.int p1), .val (.int (1 : Int32)), .val (.ref z_INTE0)] := ⟨_, rfl⟩
    refine Gl.st (B := (T12.setTop (mkF m 9 L13 []))) (fun t k => XS.astoreN X12.here hx rfl (hb hby at_8) rfl rfl (l' := L13) (stAt hL2 hL13 rfl rfl) k) ?_
    refine Gl.st (B := (T12.setTop (mkF m 10 L13 [(.ref z_INTE0)]))) (fun t k => XS.aloadN X12.here hx rfl (hb hby at_9) (ldAt hL13 rfl) rfl k) ?_
    obtain ⟨cq14, kq14, q14a, q14b, q14c⟩ := isOf hZ eh12 E_z_INTE0
    obtain ⟨_, _, ⟨T14, L14q, k14, n14⟩, -, X14, ⟨Lc14, hQ14, l14, y14, z14⟩, st14⟩ := X12.virtualBack hx (y := (⟨"com/example/stale_to_safe/staletosafe/consistency/Level", "serves", "()Z"⟩ : MethodName)) (z := (⟨"com/example/stale_to_safe/staletosafe/consistency/Level", "serves", "()Z"⟩ : MethodName)) hown (mvT hZ (tw hw 7 rfl)) (mvT hZ (tw hw 8 rfl)) (notFace_of_selects (args := #[]) (mvT hZ (tw hw 10 rfl))) (mvT hZ (tw hw 10 rfl)) (mvT hZ (tw hw 9 rfl)) (by decide) (backOf (W := 0) (rm2 l Z a0 hw [] z_INTE0 z_INTE0 z_FORW1 h0 n0 Z0 S_INTE0 S_FORW1) hZ (tw hw 11 rfl) (tw hw 5 rfl) (by decide) (by decide)) q14a q14c (g := (mkF m 10 L13 [(.ref z_INTE0)])) rfl (szAt hml hL13 rfl) (Steps.refl _) (argsL := []) (rest := []) (lenOf pd_0_1 rfl) rfl (by show 2 * 0 + _ ≤ _; exact Nat.le_of_eq rfl) (hb hby at_10) (fun _ _ => ⟨rfl, eh12, (by decide : 0 + 0 ≤ _), (by decide : 0 + 0 ≤ _)⟩)
    dsimp only [Pt.U, Pt.locs, Pt.cells, Pt.slots] at X14 l14 y14 z14 st14 hQ14
    subst l14 y14 z14
    obtain ⟨rfl, N14q, eh14⟩ := hQ14
    have N14 := Fr.app N12 N14q
    refine Gl.st (B := (T14.setTop (mkF m 13 L13 [(.int (if z_INTE0 = z_INTE0 then (1 : Int32) else (if z_INTE0 = z_FORW1 then (1 : Int32) else (0 : Int32))))]))) (fun t k => st14.trans k) ?_
    obtain ⟨r10_15, hr10_15⟩ : ∃ z : Int32, z = (if z_INTE0 = z_INTE0 then (1 : Int32) else (if z_INTE0 = z_FORW1 then (1 : Int32) else (0 : Int32))) := ⟨_, rfl⟩
    refine Gl.cast (B := (T14.setTop (mkF m 13 L13 [(.int r10_15)]))) (by rw [hr10_15]) ?_
    refine Gl.st (B := (T14.setTop (mkF m 14 L13 [(.int (1 : Int32)), (.int r10_15)]))) (fun t k => XS.iloadN X14.here hx rfl (hb hby at_13) (ldAt hL13 rfl) k) ?_
    obtain ⟨_, _, ⟨T16, L16q, k16, n16⟩, -, X16, ⟨Lc16, hQ16, l16, y16, z16⟩, st16⟩ := Jvm.LawKit.callS X14 hx (y := (⟨"com/example/stale_to_safe/staletosafe/consistency/LevelServesPinLaw", "expected", "(I)Z"⟩ : MethodName)) hown (mvT hZ (tw hw 16 rfl)) (mvT hZ (tw hw 17 rfl)) (mvT hZ (tw hw 2 rfl)) (mvT hZ (tw hw 18 rfl)) (by decide) (backOf (W := 1) (rm3 l Z a0 hw [] (1 : Int32) h0 n0 Z0) hZ (tw hw 18 rfl) (tw hw 2 rfl) (by decide) (by decide)) (g := (mkF m 14 L13 [(.int (1 : Int32)), (.int r10_15)])) rfl (szAt hml hL13 rfl) (argsL := [(.int (1 : Int32))]) (rest := [(.int r10_15)]) (lenOf pd_0_2 rfl) rfl (by show 2 * 0 + _ ≤ _; exact Nat.le_of_eq rfl) (hb hby at_14) (fun _ _ => ⟨rfl, eh14, (by decide : 0 + 0 ≤ _), (by decide : 0 + 0 ≤ _)⟩)
    dsimp only [Pt.U, Pt.locs, Pt.cells, Pt.slots] at X16 l16 y16 z16 st16 hQ16
    subst l16 y16 z16
    obtain ⟨rfl, N16q, eh16⟩ := hQ16
    have N16 := Fr.app N14 N16q
    refine Gl.st (B := (T16.setTop (mkF m 17 L13 [(.int (if (1 : Int32) = (0 : Int32) then (0 : Int32) else (if (1 : Int32) = (3 : Int32) then (0 : Int32) else (1 : Int32)))), (.int r10_15)]))) (fun t k => st16 t k) ?_
    refine Gl.cast (B := (T16.setTop (mkF m 17 L13 [(.int (1 : Int32)), (.int r10_15)]))) (by rw [if_neg (by decide : ¬ ((1 : Int32) = (0 : Int32))), if_neg (by decide : ¬ ((1 : Int32) = (3 : Int32)))]) ?_
    have nq17 : z_INTE0 ≠ z_FORW1 := (Ne.symm ne_z_FORW1_z_INTE0)
    have hc17_18 : r10_15 = (1 : Int32) := own_0_hc17_18 z_INTE0 z_FORW1 r10_15 hr10_15 nq17
    refine Gl.st (B := (T16.setTop (mkF m 20 L13 []))) (fun t k => XS.icmpNo X16.here hx rfl (hb hby at_17) rfl (teq hc17_18).2 k) ?_
    refine Gl.st (B := (T16.setTop (mkF m 21 L13 [(.int (1 : Int32))]))) (fun t k => XS.iconst X16.here hx rfl (hb hby at_20) k) ?_
    refine Gl.st (B := (T16.setTop (mkF m 25 L13 [(.int (1 : Int32))]))) (fun t k => XS.goto X16.here hx rfl (pc0 := 21) (pc' := 25) rfl (hb hby at_21) (by decide) (by decide) k) ?_
    obtain ⟨fs, hr, hrun, hended, hW, hsame⟩ := X16.leave (v := some (.int (nar .boolean (1 : Int32)))) (fun h => by rw [Bd.returns] at h; cases h)
    refine Gl.fin (retN X16 hx (t := .boolean) Bd.returns (by simp) (hb hby at_25) hr) hrun hended ⟨_, _, rfl, ?_, ⟨_, rfl⟩, hW, hsame.mono (by decide) (by decide)⟩
    show Q0 Z p1 z_INTERVAL z_INTE0 z_FORW1 z_REVOCATION h0 n0 _ T16.heap _
    rw [eh16]
    exact ⟨rfl, N16⟩
  · skip
    subst hk
    refine Gl.st (B := (s₁.setTop (mkF m 5 L2 [(.int (2 : Int32))]))) (fun t k => XS.iloadN X0.here hx rfl (hb hby at_4) (ldAt hL2 rfl) k) ?_
    obtain ⟨_, _, ⟨T19, L19q, k19, n19⟩, -, X19, ⟨Lc19, hQ19, l19, y19, z19⟩, st19⟩ := Jvm.LawKit.callS X0 hx (y := (⟨"com/example/stale_to_safe/staletosafe/consistency/LevelServesPinLaw", "pick", "(I)Lcom/example/stale_to_safe/staletosafe/consistency/Level;"⟩ : MethodName)) hown (mvT hZ (tw hw 0 rfl)) (mvT hZ (tw hw 1 rfl)) (mvT hZ (tw hw 2 rfl)) (mvT hZ (tw hw 3 rfl)) (by decide) (backOf (W := 0) (rm1 l Z a0 hw [] (2 : Int32) z_INTERVAL z_INTE0 z_FORW1 z_REVOCATION h0 n0 Z0 S_INTERVAL S_INTE0 S_FORW1 S_REVOCATION) hZ (tw hw 3 rfl) (tw hw 2 rfl) (by decide) (by decide)) (g := (mkF m 5 L2 [(.int (2 : Int32))])) rfl (szAt hml hL2 rfl) (argsL := [(.int (2 : Int32))]) (rest := []) (lenOf pd_0_0 rfl) rfl (by show 2 * 0 + _ ≤ _; exact Nat.le_of_eq rfl) (hb hby at_5) (fun _ _ => ⟨rfl, e0, (by decide : 0 + 0 ≤ _), (by decide : 0 + 0 ≤ _)⟩)
    dsimp only [Pt.U, Pt.locs, Pt.cells, Pt.slots] at X19 l19 y19 z19 st19 hQ19
    subst l19 y19 z19
    obtain ⟨rfl, N19q, eh19⟩ := hQ19
    have N19 := Fr.app N0 N19q
    refine Gl.st (B := (T19.setTop (mkF m 8 L2 [(.ref (if (2 : Int32) = (0 : Int32) then z_INTERVAL else (if (2 : Int32) = (1 : Int32) then z_INTE0 else (if (2 : Int32) = (2 : Int32) then z_FORW1 else z_REVOCATION))))]))) (fun t k => st19 t k) ?_
    refine Gl.cast (B := (T19.setTop (mkF m 8 L2 [(.ref z_FORW1)]))) (by rw [if_neg (by decide : ¬ ((2 : Int32) = (0 : Int32))), if_neg (by decide : ¬ ((2 : Int32) = (1 : Int32))), if_pos (by decide : (2 : Int32) = (2 : Int32))]) ?_
    obtain ⟨L20, hL20⟩ : ∃ z : Array Slot, z = #[.val (.int p1), .val (.int (2 : Int32)), .val (.ref z_FORW1)] := ⟨_, rfl⟩
    refine Gl.st (B := (T19.setTop (mkF m 9 L20 []))) (fun t k => XS.astoreN X19.here hx rfl (hb hby at_8) rfl rfl (l' := L20) (stAt hL2 hL20 rfl rfl) k) ?_
    refine Gl.st (B := (T19.setTop (mkF m 10 L20 [(.ref z_FORW1)]))) (fun t k => XS.aloadN X19.here hx rfl (hb hby at_9) (ldAt hL20 rfl) rfl k) ?_
    obtain ⟨cq21, kq21, q21a, q21b, q21c⟩ := isOf hZ eh19 E_z_FORW1
    obtain ⟨_, _, ⟨T21, L21q, k21, n21⟩, -, X21, ⟨Lc21, hQ21, l21, y21, z21⟩, st21⟩ := X19.virtualBack hx (y := (⟨"com/example/stale_to_safe/staletosafe/consistency/Level", "serves", "()Z"⟩ : MethodName)) (z := (⟨"com/example/stale_to_safe/staletosafe/consistency/Level", "serves", "()Z"⟩ : MethodName)) hown (mvT hZ (tw hw 7 rfl)) (mvT hZ (tw hw 8 rfl)) (notFace_of_selects (args := #[]) (mvT hZ (tw hw 10 rfl))) (mvT hZ (tw hw 10 rfl)) (mvT hZ (tw hw 9 rfl)) (by decide) (backOf (W := 0) (rm2 l Z a0 hw [] z_FORW1 z_INTE0 z_FORW1 h0 n0 Z0 S_INTE0 S_FORW1) hZ (tw hw 11 rfl) (tw hw 5 rfl) (by decide) (by decide)) q21a q21c (g := (mkF m 10 L20 [(.ref z_FORW1)])) rfl (szAt hml hL20 rfl) (Steps.refl _) (argsL := []) (rest := []) (lenOf pd_0_1 rfl) rfl (by show 2 * 0 + _ ≤ _; exact Nat.le_of_eq rfl) (hb hby at_10) (fun _ _ => ⟨rfl, eh19, (by decide : 0 + 0 ≤ _), (by decide : 0 + 0 ≤ _)⟩)
    dsimp only [Pt.U, Pt.locs, Pt.cells, Pt.slots] at X21 l21 y21 z21 st21 hQ21
    subst l21 y21 z21
    obtain ⟨rfl, N21q, eh21⟩ := hQ21
    have N21 := Fr.app N19 N21q
    refine Gl.st (B := (T21.setTop (mkF m 13 L20 [(.int (if z_FORW1 = z_INTE0 then (1 : Int32) else (if z_FORW1 = z_FORW1 then (1 : Int32) else (0 : Int32))))]))) (fun t k => st21.trans k) ?_
    obtain ⟨r10_22, hr10_22⟩ : ∃ z : Int32, z = (if z_FORW1 = z_INTE0 then (1 : Int32) else (if z_FORW1 = z_FORW1 then (1 : Int32) else (0 : Int32))) := ⟨_, rfl⟩
    refine Gl.cast (B := (T21.setTop (mkF m 13 L20 [(.int r10_22)]))) (by rw [hr10_22]) ?_
    refine Gl.st (B := (T21.setTop (mkF m 14 L20 [(.int (2 : Int32)), (.int r10_22)]))) (fun t k => XS.iloadN X21.here hx rfl (hb hby at_13) (ldAt hL20 rfl) k) ?_
    obtain ⟨_, _, ⟨T23, L23q, k23, n23⟩, -, X23, ⟨Lc23, hQ23, l23, y23, z23⟩, st23⟩ := Jvm.LawKit.callS X21 hx (y := (⟨"com/example/stale_to_safe/staletosafe/consistency/LevelServesPinLaw", "expected", "(I)Z"⟩ : MethodName)) hown (mvT hZ (tw hw 16 rfl)) (mvT hZ (tw hw 17 rfl)) (mvT hZ (tw hw 2 rfl)) (mvT hZ (tw hw 18 rfl)) (by decide) (backOf (W := 1) (rm3 l Z a0 hw [] (2 : Int32) h0 n0 Z0) hZ (tw hw 18 rfl) (tw hw 2 rfl) (by decide) (by decide)) (g := (mkF m 14 L20 [(.int (2 : Int32)), (.int r10_22)])) rfl (szAt hml hL20 rfl) (argsL := [(.int (2 : Int32))]) (rest := [(.int r10_22)]) (lenOf pd_0_2 rfl) rfl (by show 2 * 0 + _ ≤ _; exact Nat.le_of_eq rfl) (hb hby at_14) (fun _ _ => ⟨rfl, eh21, (by decide : 0 + 0 ≤ _), (by decide : 0 + 0 ≤ _)⟩)
    dsimp only [Pt.U, Pt.locs, Pt.cells, Pt.slots] at X23 l23 y23 z23 st23 hQ23
    subst l23 y23 z23
    obtain ⟨rfl, N23q, eh23⟩ := hQ23
    have N23 := Fr.app N21 N23q
    refine Gl.st (B := (T23.setTop (mkF m 17 L20 [(.int (if (2 : Int32) = (0 : Int32) then (0 : Int32) else (if (2 : Int32) = (3 : Int32) then (0 : Int32) else (1 : Int32)))), (.int r10_22)]))) (fun t k => st23 t k) ?_
    refine Gl.cast (B := (T23.setTop (mkF m 17 L20 [(.int (1 : Int32)), (.int r10_22)]))) (by rw [if_neg (by decide : ¬ ((2 : Int32) = (0 : Int32))), if_neg (by decide : ¬ ((2 : Int32) = (3 : Int32)))]) ?_
    have hc17_24 : r10_22 = (1 : Int32) := own_0_hc17_24 z_FORW1 z_INTE0 r10_22 hr10_22 ne_z_FORW1_z_INTE0
    refine Gl.st (B := (T23.setTop (mkF m 20 L20 []))) (fun t k => XS.icmpNo X23.here hx rfl (hb hby at_17) rfl (teq hc17_24).2 k) ?_
    refine Gl.st (B := (T23.setTop (mkF m 21 L20 [(.int (1 : Int32))]))) (fun t k => XS.iconst X23.here hx rfl (hb hby at_20) k) ?_
    refine Gl.st (B := (T23.setTop (mkF m 25 L20 [(.int (1 : Int32))]))) (fun t k => XS.goto X23.here hx rfl (pc0 := 21) (pc' := 25) rfl (hb hby at_21) (by decide) (by decide) k) ?_
    obtain ⟨fs, hr, hrun, hended, hW, hsame⟩ := X23.leave (v := some (.int (nar .boolean (1 : Int32)))) (fun h => by rw [Bd.returns] at h; cases h)
    refine Gl.fin (retN X23 hx (t := .boolean) Bd.returns (by simp) (hb hby at_25) hr) hrun hended ⟨_, _, rfl, ?_, ⟨_, rfl⟩, hW, hsame.mono (by decide) (by decide)⟩
    show Q0 Z p1 z_INTERVAL z_INTE0 z_FORW1 z_REVOCATION h0 n0 _ T23.heap _
    rw [eh23]
    exact ⟨rfl, N23⟩
  · skip
    subst hk
    refine Gl.st (B := (s₁.setTop (mkF m 5 L2 [(.int (3 : Int32))]))) (fun t k => XS.iloadN X0.here hx rfl (hb hby at_4) (ldAt hL2 rfl) k) ?_
    obtain ⟨_, _, ⟨T25, L25q, k25, n25⟩, -, X25, ⟨Lc25, hQ25, l25, y25, z25⟩, st25⟩ := Jvm.LawKit.callS X0 hx (y := (⟨"com/example/stale_to_safe/staletosafe/consistency/LevelServesPinLaw", "pick", "(I)Lcom/example/stale_to_safe/staletosafe/consistency/Level;"⟩ : MethodName)) hown (mvT hZ (tw hw 0 rfl)) (mvT hZ (tw hw 1 rfl)) (mvT hZ (tw hw 2 rfl)) (mvT hZ (tw hw 3 rfl)) (by decide) (backOf (W := 0) (rm1 l Z a0 hw [] (3 : Int32) z_INTERVAL z_INTE0 z_FORW1 z_REVOCATION h0 n0 Z0 S_INTERVAL S_INTE0 S_FORW1 S_REVOCATION) hZ (tw hw 3 rfl) (tw hw 2 rfl) (by decide) (by decide)) (g := (mkF m 5 L2 [(.int (3 : Int32))])) rfl (szAt hml hL2 rfl) (argsL := [(.int (3 : Int32))]) (rest := []) (lenOf pd_0_0 rfl) rfl (by show 2 * 0 + _ ≤ _; exact Nat.le_of_eq rfl) (hb hby at_5) (fun _ _ => ⟨rfl, e0, (by decide : 0 + 0 ≤ _), (by decide : 0 + 0 ≤ _)⟩)
    dsimp only [Pt.U, Pt.locs, Pt.cells, Pt.slots] at X25 l25 y25 z25 st25 hQ25
    subst l25 y25 z25
    obtain ⟨rfl, N25q, eh25⟩ := hQ25
    have N25 := Fr.app N0 N25q
    refine Gl.st (B := (T25.setTop (mkF m 8 L2 [(.ref (if (3 : Int32) = (0 : Int32) then z_INTERVAL else (if (3 : Int32) = (1 : Int32) then z_INTE0 else (if (3 : Int32) = (2 : Int32) then z_FORW1 else z_REVOCATION))))]))) (fun t k => st25 t k) ?_
    refine Gl.cast (B := (T25.setTop (mkF m 8 L2 [(.ref z_REVOCATION)]))) (by rw [if_neg (by decide : ¬ ((3 : Int32) = (0 : Int32))), if_neg (by decide : ¬ ((3 : Int32) = (1 : Int32))), if_neg (by decide : ¬ ((3 : Int32) = (2 : Int32)))]) ?_
    obtain ⟨L26, hL26⟩ : ∃ z : Array Slot, z = #[.val (.int p1), .val (.int (3 : Int32)), .val (.ref z_REVOCATION)] := ⟨_, rfl⟩
    refine Gl.st (B := (T25.setTop (mkF m 9 L26 []))) (fun t k => XS.astoreN X25.here hx rfl (hb hby at_8) rfl rfl (l' := L26) (stAt hL2 hL26 rfl rfl) k) ?_
    refine Gl.st (B := (T25.setTop (mkF m 10 L26 [(.ref z_REVOCATION)]))) (fun t k => XS.aloadN X25.here hx rfl (hb hby at_9) (ldAt hL26 rfl) rfl k) ?_
    obtain ⟨cq27, kq27, q27a, q27b, q27c⟩ := isOf hZ eh25 E_z_REVOCATION
    obtain ⟨_, _, ⟨T27, L27q, k27, n27⟩, -, X27, ⟨Lc27, hQ27, l27, y27, z27⟩, st27⟩ := X25.virtualBack hx (y := (⟨"com/example/stale_to_safe/staletosafe/consistency/Level", "serves", "()Z"⟩ : MethodName)) (z := (⟨"com/example/stale_to_safe/staletosafe/consistency/Level", "serves", "()Z"⟩ : MethodName)) hown (mvT hZ (tw hw 7 rfl)) (mvT hZ (tw hw 8 rfl)) (notFace_of_selects (args := #[]) (mvT hZ (tw hw 10 rfl))) (mvT hZ (tw hw 10 rfl)) (mvT hZ (tw hw 9 rfl)) (by decide) (backOf (W := 0) (rm2 l Z a0 hw [] z_REVOCATION z_INTE0 z_FORW1 h0 n0 Z0 S_INTE0 S_FORW1) hZ (tw hw 11 rfl) (tw hw 5 rfl) (by decide) (by decide)) q27a q27c (g := (mkF m 10 L26 [(.ref z_REVOCATION)])) rfl (szAt hml hL26 rfl) (Steps.refl _) (argsL := []) (rest := []) (lenOf pd_0_1 rfl) rfl (by show 2 * 0 + _ ≤ _; exact Nat.le_of_eq rfl) (hb hby at_10) (fun _ _ => ⟨rfl, eh25, (by decide : 0 + 0 ≤ _), (by decide : 0 + 0 ≤ _)⟩)
    dsimp only [Pt.U, Pt.locs, Pt.cells, Pt.slots] at X27 l27 y27 z27 st27 hQ27
    subst l27 y27 z27
    obtain ⟨rfl, N27q, eh27⟩ := hQ27
    have N27 := Fr.app N25 N27q
    refine Gl.st (B := (T27.setTop (mkF m 13 L26 [(.int (if z_REVOCATION = z_INTE0 then (1 : Int32) else (if z_REVOCATION = z_FORW1 then (1 : Int32) else (0 : Int32))))]))) (fun t k => st27.trans k) ?_
    obtain ⟨r10_28, hr10_28⟩ : ∃ z : Int32, z = (if z_REVOCATION = z_INTE0 then (1 : Int32) else (if z_REVOCATION = z_FORW1 then (1 : Int32) else (0 : Int32))) := ⟨_, rfl⟩
    refine Gl.cast (B := (T27.setTop (mkF m 13 L26 [(.int r10_28)]))) (by rw [hr10_28]) ?_
    refine Gl.st (B := (T27.setTop (mkF m 14 L26 [(.int (3 : Int32)), (.int r10_28)]))) (fun t k => XS.iloadN X27.here hx rfl (hb hby at_13) (ldAt hL26 rfl) k) ?_
    obtain ⟨_, _, ⟨T29, L29q, k29, n29⟩, -, X29, ⟨Lc29, hQ29, l29, y29, z29⟩, st29⟩ := Jvm.LawKit.callS X27 hx (y := (⟨"com/example/stale_to_safe/staletosafe/consistency/LevelServesPinLaw", "expected", "(I)Z"⟩ : MethodName)) hown (mvT hZ (tw hw 16 rfl)) (mvT hZ (tw hw 17 rfl)) (mvT hZ (tw hw 2 rfl)) (mvT hZ (tw hw 18 rfl)) (by decide) (backOf (W := 1) (rm3 l Z a0 hw [] (3 : Int32) h0 n0 Z0) hZ (tw hw 18 rfl) (tw hw 2 rfl) (by decide) (by decide)) (g := (mkF m 14 L26 [(.int (3 : Int32)), (.int r10_28)])) rfl (szAt hml hL26 rfl) (argsL := [(.int (3 : Int32))]) (rest := [(.int r10_28)]) (lenOf pd_0_2 rfl) rfl (by show 2 * 0 + _ ≤ _; exact Nat.le_of_eq rfl) (hb hby at_14) (fun _ _ => ⟨rfl, eh27, (by decide : 0 + 0 ≤ _), (by decide : 0 + 0 ≤ _)⟩)
    dsimp only [Pt.U, Pt.locs, Pt.cells, Pt.slots] at X29 l29 y29 z29 st29 hQ29
    subst l29 y29 z29
    obtain ⟨rfl, N29q, eh29⟩ := hQ29
    have N29 := Fr.app N27 N29q
    refine Gl.st (B := (T29.setTop (mkF m 17 L26 [(.int (if (3 : Int32) = (0 : Int32) then (0 : Int32) else (if (3 : Int32) = (3 : Int32) then (0 : Int32) else (1 : Int32)))), (.int r10_28)]))) (fun t k => st29 t k) ?_
    refine Gl.cast (B := (T29.setTop (mkF m 17 L26 [(.int (0 : Int32)), (.int r10_28)]))) (by rw [if_neg (by decide : ¬ ((3 : Int32) = (0 : Int32))), if_pos (by decide : (3 : Int32) = (3 : Int32))]) ?_
    have nq30 : z_REVOCATION ≠ z_INTE0 := (Ne.symm ne_z_INTE0_z_REVOCATION)
    have nq31 : z_REVOCATION ≠ z_FORW1 := (Ne.symm ne_z_FORW1_z_REVOCATION)
    have hc17_32 : r10_28 = (0 : Int32) := own_0_hc17_32 z_REVOCATION z_INTE0 z_FORW1 r10_28 hr10_28 nq30 nq31
    refine Gl.st (B := (T29.setTop (mkF m 20 L26 []))) (fun t k => XS.icmpNo X29.here hx rfl (hb hby at_17) rfl (teq hc17_32).2 k) ?_
    refine Gl.st (B := (T29.setTop (mkF m 21 L26 [(.int (1 : Int32))]))) (fun t k => XS.iconst X29.here hx rfl (hb hby at_20) k) ?_
    refine Gl.st (B := (T29.setTop (mkF m 25 L26 [(.int (1 : Int32))]))) (fun t k => XS.goto X29.here hx rfl (pc0 := 21) (pc' := 25) rfl (hb hby at_21) (by decide) (by decide) k) ?_
    obtain ⟨fs, hr, hrun, hended, hW, hsame⟩ := X29.leave (v := some (.int (nar .boolean (1 : Int32)))) (fun h => by rw [Bd.returns] at h; cases h)
    refine Gl.fin (retN X29 hx (t := .boolean) Bd.returns (by simp) (hb hby at_25) hr) hrun hended ⟨_, _, rfl, ?_, ⟨_, rfl⟩, hW, hsame.mono (by decide) (by decide)⟩
    show Q0 Z p1 z_INTERVAL z_INTE0 z_FORW1 z_REVOCATION h0 n0 _ T29.heap _
    rw [eh29]
    exact ⟨rfl, N29⟩
set_option maxRecDepth 65536 in
set_option maxHeartbeats 40000000 in
theorem comes_1 {Post : Tables → Env → Array Value → State → Outcome → State → Prop} (hpost : ∀ tb e args s v u, (limb_1_1.after args s (.returned v) u = true ∧ limb_1_2.after args s (.returned v) u = true ∧ True) → FrameEnd s (.returned v) u (Jvm.fieldLocs frame_1_writes args s ++ Jvm.arrayLocs frame_1_arrays args s ++ Jvm.staticLocs frame_1_statics s) 0 0 → Post tb e args s (.returned v) u) :
    ArmFor flags0 classFile x code maxLocals ret World_1 tables_1 room_1 Calls_1 rest_1 Pre_1 Post := by
  intro l hfl _ _ p e ha hc hk s m args below hf hA hF happ hP
  obtain ⟨hcalls, hrest, hpre⟩ := hP
  obtain ⟨-, -, -, hnamed, -, -, -, hat⟩ := (Spec.applies_iff hf).mp happ
  obtain ⟨hg, hn⟩ := and_e (Cond.before_iff.mp (show (Jvm.Cond.and given_1 narrow_1).before args s = true from hpre))
  obtain ⟨g1, g2⟩ := and_e hg
  obtain ⟨w0, rfl⟩ : ∃ w0 : Value, args = #[w0] := by
    have hs : args.size = 1 := by simpa [Cond.value, given_1] using g1
    obtain ⟨L⟩ := args
    match L, hs with
    | [w0], _ => exact ⟨w0, rfl⟩
  have hw := fun d (hd : d ∈ tables_1) => atoms_spec (ws := Jvm.Cond.code x code maxLocals ret :: tables_1) hat d (List.mem_cons_of_mem _ hd)
  have hfit : Fit s := fun {y c} hc i hi => by
    obtain ⟨ha, rfl⟩ := Array.getElem?_eq_some_iff.mp hc
    have q := List.all_eq_true.mp ((Array.all_eq_true_iff_forall_mem.mp hF) _ (Array.getElem_mem ha)) i (List.mem_range.mpr hi)
    simpa [Array.getElem?_eq_getElem hi] using q
  obtain ⟨i0, ei0⟩ := is_v g2
  obtain rfl : w0 = (.int i0) := Option.some.inj ei0
  obtain ⟨g3, g4⟩ := and_e hn
  obtain ⟨g5, g6⟩ := and_e g4
  obtain ⟨g7, g8⟩ := and_e g6
  obtain ⟨g9, g10⟩ := and_e g8
  obtain ⟨g11, g12⟩ := and_e g10
  obtain ⟨g13, g14⟩ := and_e g12
  obtain ⟨g15, g16⟩ := and_e g14
  obtain ⟨z_INTERVAL, ez_INTERVAL⟩ := exa_v g3
  have Sz_INTERVAL : Sta s s.heap "com/example/stale_to_safe/staletosafe/consistency/Level" "INTERVAL" "Lcom/example/stale_to_safe/staletosafe/consistency/Level;" (.ref z_INTERVAL) := Sta.start ez_INTERVAL (Or.inr ⟨(tw hw 5 rfl), (tw hw 6 rfl)⟩)
  have Ez_INTERVAL : Exa s s.heap z_INTERVAL "com/example/stale_to_safe/staletosafe/consistency/Level" := Exa.start ez_INTERVAL g3
  obtain ⟨z_INTE0, ez_INTE0⟩ := exa_v g5
  have Sz_INTE0 : Sta s s.heap "com/example/stale_to_safe/staletosafe/consistency/Level" "INTERVAL_WITH_REQUEST" "Lcom/example/stale_to_safe/staletosafe/consistency/Level;" (.ref z_INTE0) := Sta.start ez_INTE0 (Or.inr ⟨(tw hw 5 rfl), (tw hw 13 rfl)⟩)
  have Ez_INTE0 : Exa s s.heap z_INTE0 "com/example/stale_to_safe/staletosafe/consistency/Level" := Exa.start ez_INTE0 g5
  have F_ordinal_z_INTERVAL : Fld s s.heap z_INTERVAL "java/lang/Enum" "ordinal" "I" (.int (0 : Int32)) := Fld.start ((fld_at ez_INTERVAL).symm.trans (own_eqI g7))
  have F_ordinal_z_INTE0 : Fld s s.heap z_INTE0 "java/lang/Enum" "ordinal" "I" (.int (1 : Int32)) := Fld.start ((fld_at ez_INTE0).symm.trans (own_eqI g9))
  obtain ⟨z_FORW1, ez_FORW1⟩ := exa_v g11
  have Sz_FORW1 : Sta s s.heap "com/example/stale_to_safe/staletosafe/consistency/Level" "FORWARD_LOOKING" "Lcom/example/stale_to_safe/staletosafe/consistency/Level;" (.ref z_FORW1) := Sta.start ez_FORW1 (Or.inr ⟨(tw hw 5 rfl), (tw hw 15 rfl)⟩)
  have Ez_FORW1 : Exa s s.heap z_FORW1 "com/example/stale_to_safe/staletosafe/consistency/Level" := Exa.start ez_FORW1 g11
  have F_ordinal_z_FORW1 : Fld s s.heap z_FORW1 "java/lang/Enum" "ordinal" "I" (.int (2 : Int32)) := Fld.start ((fld_at ez_FORW1).symm.trans (own_eqI g13))
  obtain ⟨z_REVOCATION, ez_REVOCATION⟩ := exa_v g15
  have Sz_REVOCATION : Sta s s.heap "com/example/stale_to_safe/staletosafe/consistency/Level" "REVOCATION" "Lcom/example/stale_to_safe/staletosafe/consistency/Level;" (.ref z_REVOCATION) := Sta.start ez_REVOCATION (Or.inr ⟨(tw hw 5 rfl), (tw hw 20 rfl)⟩)
  have Ez_REVOCATION : Exa s s.heap z_REVOCATION "com/example/stale_to_safe/staletosafe/consistency/Level" := Exa.start ez_REVOCATION g15
  have F_ordinal_z_REVOCATION : Fld s s.heap z_REVOCATION "java/lang/Enum" "ordinal" "I" (.int (3 : Int32)) := Fld.start ((fld_at ez_REVOCATION).symm.trans (own_eqI g16))
  have ne_z_INTE0_z_INTERVAL : z_INTE0 ≠ z_INTERVAL := Fld.ne F_ordinal_z_INTE0 F_ordinal_z_INTERVAL (fun q => absurd (Value.int.inj q) (by decide))
  have ne_z_FORW1_z_INTERVAL : z_FORW1 ≠ z_INTERVAL := Fld.ne F_ordinal_z_FORW1 F_ordinal_z_INTERVAL (fun q => absurd (Value.int.inj q) (by decide))
  have ne_z_FORW1_z_INTE0 : z_FORW1 ≠ z_INTE0 := Fld.ne F_ordinal_z_FORW1 F_ordinal_z_INTE0 (fun q => absurd (Value.int.inj q) (by decide))
  have ne_z_INTE0_z_REVOCATION : z_INTE0 ≠ z_REVOCATION := Fld.ne F_ordinal_z_INTE0 F_ordinal_z_REVOCATION (fun q => absurd (Value.int.inj q) (by decide))
  have ne_z_FORW1_z_REVOCATION : z_FORW1 ≠ z_REVOCATION := Fld.ne F_ordinal_z_FORW1 F_ordinal_z_REVOCATION (fun q => absurd (Value.int.inj q) (by decide))
  obtain ⟨n, o, h1, h2, h3, _, L, rfl, ⟨rfl, N⟩, hq⟩ := rm0 l s _ hw tables_1 i0 z_INTERVAL z_INTE0 z_FORW1 z_REVOCATION s.heap s.heap.size (Nat.le_refl _) Sz_INTERVAL Sz_INTE0 Sz_FORW1 Sz_REVOCATION Ez_INTERVAL ne_z_INTE0_z_INTERVAL ne_z_FORW1_z_INTERVAL Ez_INTE0 ne_z_FORW1_z_INTE0 Ez_FORW1 Ez_REVOCATION ne_z_INTE0_z_REVOCATION ne_z_FORW1_z_REVOCATION p e ha hc hk s m _ below hf ((Spec.applies_iff_loose hf).mp happ).1 ⟨rfl, State.Warmed39.refl s, rfl⟩ trivial
  refine ⟨n, _, h1, h2, h3, hpost _ _ _ _ _ _ ⟨Cond.after_iff.mpr rfl, Cond.after_iff.mpr (eq_i res_at (Term.int_eval (1)) rfl), trivial⟩ ⟨hq.1, hq.2.1, (hq.2.2.sift fun y hy => Or.inr (N y hy)).mono (by decide) (by decide)⟩⟩
theorem main_1_1 : Claimed_1_1 := comes_1 fun _ _ _ _ _ _ h hF => ⟨h.1, hF⟩
theorem main_1_2 : Claimed_1_2 := comes_1 fun _ _ _ _ _ _ h hF => ⟨h.2.1, hF⟩
end Jvm.Pilot.@@N@@
namespace Jvm.Pilot.@@N@@
open Jvm Jvm.ClassFile Sem Op Lib Jvm.Free Jvm.Stand Jvm.Pilot.@@N@@.Jvm.D
/-! MADE BY PROGRAM (witnessworld.py) out of the Statement's table words and the real class files: 12 classes; the members and pool entries that the words name. The judged class is class 1, her method 3. -/
namespace start1
open Jvm.ClassFile
def u (s : String) : CpInfo := .utf8 (stringToUtf16 s)
/-- a pool by its gaps: so many unusable entries, then the entry; so many at the end -/
def gap : Nat → List CpInfo → List CpInfo
  | 0, r => r
  | n + 1, r => .unusable :: gap n r
def poolList (es : List (Nat × CpInfo)) (last : Nat) : List CpInfo := es.foldr (fun e r => gap e.1 (e.2 :: r)) (gap last [])
def pool (es : List (Nat × CpInfo)) (last : Nat) : Array CpInfo := ⟨poolList es last⟩
def fileOf (pool : Array CpInfo) (this : Nat) (attrs : Array Attribute := #[]) (ms : Array MethodInfo := #[]) (fl : Nat := 33) (sup : Nat := 0) (ifs : Array Nat := #[]) (fds : Array FieldInfo := #[]) : ClassFile where
  minorVersion := 0
  majorVersion := 65
  constantPool := pool
  accessFlags := fl
  thisClass := this
  superClass := sup
  interfaces := ifs
  fields := fds
  methods := ms
  attributes := attrs
def plain (name : String) (sup : Option ClassId) : Class where
  name := name
  kind := .ordinary
  loader := none
  accessFlags := 33
  super := sup
  interfaces := #[]
  cf := none
  fields := #[]
  methods := #[]
  instanceTypes := #[]
  staticTypes := #[]
  resolved := #[]
  callSites := []
  init := .initialized
  statics := none
  mirror := none

def pool0 : Array CpInfo := pool [(5, u "<init>"), (0, u "()V"), (1, .class_ 10), (1, u "java/lang/Object")] 113

def k0m0 : Method := { name := "<init>", desc := "()V", sig := { parameters := [], returnType := none }, accessFlags := 1, code := none }
/-- java/lang/Object -/
def k0 : Class := { plain "java/lang/Object" none with
  accessFlags := 33
  interfaces := #[]
  cf := some (fileOf pool0 8 #[] #[{ accessFlags := 1, nameIndex := 5, descriptorIndex := 6, attributes := #[] }] 33 0 #[] #[])
  fields := #[]
  methods := #[k0m0]
  instanceTypes := #[]
  staticTypes := #[]
  resolved := Array.replicate 124 none
  statics := none }

def pool1 : Array CpInfo := pool [(2, .class_ 4), (1, u "java/lang/Object"), (0, u "<init>"), (0, u "()V"), (0, .fieldref 8 9), (0, .class_ 10), (0, .nameAndType 11 12), (0, u "com/example/stale_to_safe/staletosafe/consistency/Level"), (0, u "INTERVAL"), (0, u "Lcom/example/stale_to_safe/staletosafe/consistency/Level;"), (0, .fieldref 8 14), (0, .nameAndType 15 12), (0, u "INTERVAL_WITH_REQUEST"), (0, .fieldref 8 17), (0, .nameAndType 18 12), (0, u "FORWARD_LOOKING"), (0, .fieldref 8 20), (0, .nameAndType 21 12), (0, u "REVOCATION"), (0, .methodref 23 24), (0, .class_ 25), (0, .nameAndType 26 27), (0, u "com/example/stale_to_safe/staletosafe/consistency/LevelServesPinLaw"), (0, u "pick"), (0, u "(I)Lcom/example/stale_to_safe/staletosafe/consistency/Level;"), (0, .methodref 8 29), (0, .nameAndType 30 31), (0, u "serves"), (0, u "()Z"), (0, .methodref 23 33), (0, .nameAndType 34 35), (0, u "expected"), (0, u "(I)Z"), (3, u "law")] 2

def k1m0 : Method := { name := "<init>", desc := "()V", sig := { parameters := [], returnType := none }, accessFlags := 2, code := none }
def k1c1 : Code := { maxStack := 2, maxLocals := 1, code := method_2_code, exceptionTable := #[], attributes := #[] }
def k1m1 : Method := { name := "pick", desc := "(I)Lcom/example/stale_to_safe/staletosafe/consistency/Level;", sig := { parameters := [.int], returnType := some (.object "com/example/stale_to_safe/staletosafe/consistency/Level") }, accessFlags := 10, code := some k1c1 }
def k1c2 : Code := { maxStack := 2, maxLocals := 1, code := method_3_code, exceptionTable := #[], attributes := #[] }
def k1m2 : Method := { name := "expected", desc := "(I)Z", sig := { parameters := [.int], returnType := some .boolean }, accessFlags := 10, code := some k1c2 }
def k1c3 : Code := { maxStack := 2, maxLocals := 3, code := code, exceptionTable := #[], attributes := #[] }
def k1m3 : Method := { name := "law", desc := "(I)Z", sig := { parameters := [.int], returnType := some .boolean }, accessFlags := 9, code := some k1c3 }
/-- com/example/stale_to_safe/staletosafe/consistency/LevelServesPinLaw -/
def k1 : Class := { plain "com/example/stale_to_safe/staletosafe/consistency/LevelServesPinLaw" (some 0) with
  accessFlags := 49
  interfaces := #[]
  cf := some (fileOf pool1 23 #[] #[{ accessFlags := 2, nameIndex := 5, descriptorIndex := 6, attributes := #[] }, { accessFlags := 10, nameIndex := 26, descriptorIndex := 27, attributes := #[] }, { accessFlags := 10, nameIndex := 34, descriptorIndex := 35, attributes := #[] }, { accessFlags := 9, nameIndex := 39, descriptorIndex := 35, attributes := #[] }] 49 2 #[] #[])
  fields := #[]
  methods := #[k1m0, k1m1, k1m2, k1m3]
  instanceTypes := #[]
  staticTypes := #[]
  resolved := Array.replicate 42 none
  statics := none }

def pool2 : Array CpInfo := pool [(1, .class_ 2), (0, u "java/lang/constant/Constable"), (0, .class_ 4), (0, u "java/lang/Object")] 6

/-- java/lang/constant/Constable -/
def k2 : Class := { plain "java/lang/constant/Constable" (some 0) with
  accessFlags := 1537
  interfaces := #[]
  cf := some (fileOf pool2 1 #[] #[] 1537 3 #[] #[])
  fields := #[]
  methods := #[]
  instanceTypes := #[]
  staticTypes := #[]
  resolved := Array.replicate 11 none
  statics := none }

def pool3 : Array CpInfo := pool [(1, .class_ 2), (0, u "java/lang/Comparable"), (0, .class_ 4), (0, u "java/lang/Object")] 7

/-- java/lang/Comparable -/
def k3 : Class := { plain "java/lang/Comparable" (some 0) with
  accessFlags := 1537
  interfaces := #[]
  cf := some (fileOf pool3 1 #[] #[] 1537 3 #[] #[])
  fields := #[]
  methods := #[]
  instanceTypes := #[]
  staticTypes := #[]
  resolved := Array.replicate 12 none
  statics := none }

def pool4 : Array CpInfo := pool [(1, .class_ 2), (0, u "java/io/Serializable"), (0, .class_ 4), (0, u "java/lang/Object")] 2

/-- java/io/Serializable -/
def k4 : Class := { plain "java/io/Serializable" (some 0) with
  accessFlags := 1537
  interfaces := #[]
  cf := some (fileOf pool4 1 #[] #[] 1537 3 #[] #[])
  fields := #[]
  methods := #[]
  instanceTypes := #[]
  staticTypes := #[]
  resolved := Array.replicate 7 none
  statics := none }

def pool5 : Array CpInfo := pool [(2, .class_ 4), (1, u "java/lang/Enum"), (0, u "name"), (0, u "Ljava/lang/String;"), (2, u "ordinal"), (0, u "I"), (1, .class_ 14), (1, u "java/lang/Object"), (4, u "hash"), (86, .class_ 108), (1, u "java/lang/Enum$EnumDesc"), (2, .class_ 112), (0, u "java/lang/constant/Constable"), (0, .class_ 114), (0, u "java/lang/Comparable"), (0, .class_ 116), (0, u "java/io/Serializable")] 87

/-- java/lang/Enum -/
def k5 : Class := { plain "java/lang/Enum" (some 0) with
  accessFlags := 1057
  interfaces := #[2, 3, 4]
  cf := some (fileOf pool5 2 #[.nestMembers #[106]] #[] 1057 12 #[111, 113, 115] #[{ accessFlags := 18, nameIndex := 5, descriptorIndex := 6, attributes := #[] }, { accessFlags := 18, nameIndex := 9, descriptorIndex := 10, attributes := #[] }, { accessFlags := 2, nameIndex := 19, descriptorIndex := 10, attributes := #[] }])
  fields := #[{ name := "name", type := (.object "java/lang/String"), accessFlags := 18, slot := 0, constantValue := 0 }, { name := "ordinal", type := .int, accessFlags := 18, slot := 1, constantValue := 0 }, { name := "hash", type := .int, accessFlags := 2, slot := 2, constantValue := 0 }]
  methods := #[]
  instanceTypes := #[(.object "java/lang/String"), .int, .int]
  staticTypes := #[]
  resolved := Array.replicate 204 none
  statics := none }

def pool6 : Array CpInfo := pool [(1, .class_ 2), (0, u "com/example/stale_to_safe/staletosafe/consistency/Level"), (2, u "INTERVAL"), (0, u "Lcom/example/stale_to_safe/staletosafe/consistency/Level;"), (0, .fieldref 1 8), (0, .nameAndType 9 6), (0, u "INTERVAL_WITH_REQUEST"), (0, .fieldref 1 11), (0, .nameAndType 12 6), (0, u "FORWARD_LOOKING"), (2, u "REVOCATION"), (2, u "$VALUES"), (0, u "[Lcom/example/stale_to_safe/staletosafe/consistency/Level;"), (6, .class_ 28), (1, u "java/lang/Enum"), (8, u "label"), (0, u "Ljava/lang/String;"), (92, u "serves"), (0, u "()Z")] 27

def k6c0 : Code := { maxStack := 2, maxLocals := 1, code := prog_11_method_6_code, exceptionTable := #[], attributes := #[] }
def k6m0 : Method := { name := "serves", desc := "()Z", sig := { parameters := [], returnType := some .boolean }, accessFlags := 1, code := some k6c0 }
/-- com/example/stale_to_safe/staletosafe/consistency/Level -/
def k6 : Class := { plain "com/example/stale_to_safe/staletosafe/consistency/Level" (some 5) with
  accessFlags := 16433
  interfaces := #[]
  cf := some (fileOf pool6 1 #[] #[{ accessFlags := 1, nameIndex := 131, descriptorIndex := 132, attributes := #[] }] 16433 26 #[] #[{ accessFlags := 16409, nameIndex := 5, descriptorIndex := 6, attributes := #[] }, { accessFlags := 16409, nameIndex := 9, descriptorIndex := 6, attributes := #[] }, { accessFlags := 16409, nameIndex := 12, descriptorIndex := 6, attributes := #[] }, { accessFlags := 16409, nameIndex := 15, descriptorIndex := 6, attributes := #[] }, { accessFlags := 18, nameIndex := 37, descriptorIndex := 38, attributes := #[] }, { accessFlags := 4122, nameIndex := 18, descriptorIndex := 19, attributes := #[] }])
  fields := #[{ name := "INTERVAL", type := (.object "com/example/stale_to_safe/staletosafe/consistency/Level"), accessFlags := 16409, slot := 0, constantValue := 0 }, { name := "INTERVAL_WITH_REQUEST", type := (.object "com/example/stale_to_safe/staletosafe/consistency/Level"), accessFlags := 16409, slot := 1, constantValue := 0 }, { name := "FORWARD_LOOKING", type := (.object "com/example/stale_to_safe/staletosafe/consistency/Level"), accessFlags := 16409, slot := 2, constantValue := 0 }, { name := "REVOCATION", type := (.object "com/example/stale_to_safe/staletosafe/consistency/Level"), accessFlags := 16409, slot := 3, constantValue := 0 }, { name := "label", type := (.object "java/lang/String"), accessFlags := 18, slot := 3, constantValue := 0 }, { name := "$VALUES", type := (.array (.object "com/example/stale_to_safe/staletosafe/consistency/Level")), accessFlags := 4122, slot := 4, constantValue := 0 }]
  methods := #[k6m0]
  instanceTypes := #[(.object "java/lang/String"), .int, .int, (.object "java/lang/String")]
  staticTypes := #[(.object "com/example/stale_to_safe/staletosafe/consistency/Level"), (.object "com/example/stale_to_safe/staletosafe/consistency/Level"), (.object "com/example/stale_to_safe/staletosafe/consistency/Level"), (.object "com/example/stale_to_safe/staletosafe/consistency/Level"), (.array (.object "com/example/stale_to_safe/staletosafe/consistency/Level"))]
  resolved := Array.replicate 160 none
  statics := some 0 }

def pool7 : Array CpInfo := pool [(1, u "java/lang/Cloneable"), (0, .class_ 1), (0, u "java/lang/Object"), (0, .class_ 3)] 3

/-- java/lang/Cloneable -/
def k7 : Class := { plain "java/lang/Cloneable" (some 0) with
  accessFlags := 1537
  interfaces := #[]
  cf := some (fileOf pool7 2 #[] #[] 1537 4 #[] #[])
  fields := #[]
  methods := #[]
  instanceTypes := #[]
  staticTypes := #[]
  resolved := Array.replicate 8 none
  statics := none }

/-- the primitive byte -/
def k8 : Class := { plain "byte" none with kind := .primitive 'B', accessFlags := 0x411 }
/-- [B -/
def k9 : Class := { plain "[B" (some 0) with kind := .array 8 .byte, interfaces := #[7, 4], accessFlags := 1041 }

/-- the primitive int -/
def k10 : Class := { plain "int" none with kind := .primitive 'I', accessFlags := 0x411 }
/-- [I -/
def k11 : Class := { plain "[I" (some 0) with kind := .array 10 .int, interfaces := #[7, 4], accessFlags := 1041 }

def heap : Heap := #[{ cls := 6, slots := #[.ref 1, .ref 2, .ref 3, .ref 4, .null], vm := .statics 6 },
  { cls := 6, slots := #[.null, .int 0, .int 0, .null], vm := .none },
  { cls := 6, slots := #[.null, .int 1, .int 0, .null], vm := .none },
  { cls := 6, slots := #[.null, .int 2, .int 0, .null], vm := .none },
  { cls := 6, slots := #[.null, .int 3, .int 0, .null], vm := .none }]
def classes : Array Class := #[k0, k1, k2, k3, k4, k5, k6, k7, k8, k9, k10, k11]
def interned : List (Array UInt16 × Addr) := []
def slotsUsed : Nat := 21
def theMethod : MethodId := ⟨1, 3⟩
def args0 : Array Value := #[.int 5]
def aboutOver (below : List Frame) : State where
  vm := { classes := classes, interned := interned.toArray }
  heap := heap
  slotsUsed := slotsUsed
  threads := #[{ frames := .invoking theMethod args0 :: below }]
def below0 : List Frame := [.native { method := ⟨0, 0⟩, args := #[] }]
def about1 : State := aboutOver below0
def p0 : Program := .bare "" "" ""
def e0 : Env := launch0.env 0 0 0
theorem w_frames : about1.frames = Frame.invoking theMethod args0 :: below0 := rfl
set_option maxRecDepth 65536 in
theorem w_args : argsFit about1.vm theMethod args0 = true := by decide +kernel
set_option maxRecDepth 65536 in
theorem w_heap : heapFits about1 = true := by decide +kernel
set_option maxRecDepth 65536 in
theorem w_runnable : about1.curStatus? = some .runnable := by decide +kernel
set_option maxRecDepth 65536 in
theorem w_alone : about1.alone = true := by decide +kernel
set_option maxRecDepth 65536 in
theorem w_named : about1.methodNamed? x = some theMethod := by decide +kernel
set_option maxRecDepth 65536 in
theorem w_hears : about1.hears theMethod below0 = true := by decide +kernel
set_option maxRecDepth 65536 in
theorem w_ripe : about1.ripe theMethod args0 below0 = true := by decide +kernel
theorem w_running : about1.status = .running := rfl
set_option maxRecDepth 65536 in
theorem w_room : about1.hasRoom e0.platform room_1 = true :=
  launch0.hasRoom_least _ room_1 (by decide +kernel) (by decide +kernel) (by decide +kernel) (by decide +kernel) (by decide +kernel) (by decide +kernel)
theorem allAtoms_all (ts : List Jvm.Cond) (a : Array Jvm.Value) (st : Jvm.State) : (allAtoms ts).before a st = ts.all (fun c => c.before a st) := by
  induction ts with
  | nil => rfl
  | cons c t ih =>
    show (Jvm.Cond.and c (allAtoms t)).before a st = _
    rw [Jvm.Cond.before_and, ih, List.all_cons]
def words1 : List Jvm.Cond := Jvm.Cond.code x code maxLocals ret :: tables_1
/-- a 'code' word, met by the world's own term for the bytes: nothing is compared byte by byte -/
theorem code_word {y : MethodName} {bytes : ByteArray} {mx : Nat} {rt : Option FieldType} {a : Array Value} {s : State} {m : MethodId} {meth : Method} {c : Code} (h1 : s.methodNamed? y = some m) (h2 : s.vm.method? m = some meth) (h3 : meth.code = some c) (h4 : c.code = bytes)
    (h5 : (c.maxLocals == mx && c.exceptionTable.isEmpty && decide (c.maxStack ≤ mostOperands) && decide (meth.sig.returnType = rt) && !meth.locks && decide (parseMethodDescriptor y.desc = some meth.sig)) = true) : (Jvm.Cond.code y bytes mx rt).before a s = true := by
  simp only [Bool.and_eq_true, beq_iff_eq, Bool.not_eq_true', decide_eq_true_eq] at h5
  obtain ⟨⟨⟨⟨⟨g1, g2⟩, g3⟩, g4⟩, g5⟩, g6⟩ := h5
  simp [Cond.before, Cond.holds, Cond.value, h1, h2, h3, h4, g1, g2, g3, g4, g5, g6]
def isCode : Jvm.Cond → Bool
  | .code _ _ _ _ => true
  | _ => false
theorem all_split {L : List Jvm.Cond} {P : Jvm.Cond → Bool} (h1 : L.all (fun c => isCode c || P c) = true) (h2 : ∀ c ∈ L.filter isCode, P c = true) : L.all P = true := by
  refine List.all_eq_true.mpr fun c hc => ?_
  have h := List.all_eq_true.mp h1 c hc
  rcases Bool.eq_false_or_eq_true (isCode c) with hi | hi
  · exact h2 c (List.mem_filter.mpr ⟨hc, hi⟩)
  · simpa [hi] using h
set_option maxRecDepth 65536 in
theorem w_c0 : (Jvm.Cond.code x code maxLocals ret).before args0 about1 = true := code_word (m := ⟨1, 3⟩) (meth := k1m3) (c := k1c3) (by decide +kernel) rfl rfl rfl (by decide +kernel)
set_option maxRecDepth 65536 in
theorem w_c1 : (Jvm.Cond.code ({ cls := "com/example/stale_to_safe/staletosafe/consistency/LevelServesPinLaw", name := "pick", desc := "(I)Lcom/example/stale_to_safe/staletosafe/consistency/Level;" } : Jvm.MethodName) method_2_code (1 : Nat) (Option.some (Jvm.ClassFile.FieldType.object "com/example/stale_to_safe/staletosafe/consistency/Level"))).before args0 about1 = true := code_word (m := ⟨1, 1⟩) (meth := k1m1) (c := k1c1) (by decide +kernel) rfl rfl rfl (by decide +kernel)
set_option maxRecDepth 65536 in
theorem w_c2 : (Jvm.Cond.code ({ cls := "com/example/stale_to_safe/staletosafe/consistency/Level", name := "serves", desc := "()Z" } : Jvm.MethodName) prog_11_method_6_code (1 : Nat) (Option.some Jvm.ClassFile.FieldType.boolean)).before args0 about1 = true := code_word (m := ⟨6, 0⟩) (meth := k6m0) (c := k6c0) (by decide +kernel) rfl rfl rfl (by decide +kernel)
set_option maxRecDepth 65536 in
theorem w_c3 : (Jvm.Cond.code ({ cls := "com/example/stale_to_safe/staletosafe/consistency/LevelServesPinLaw", name := "expected", desc := "(I)Z" } : Jvm.MethodName) method_3_code (1 : Nat) (Option.some Jvm.ClassFile.FieldType.boolean)).before args0 about1 = true := code_word (m := ⟨1, 2⟩) (meth := k1m2) (c := k1c2) (by decide +kernel) rfl rfl rfl (by decide +kernel)
def codes1 : List Jvm.Cond := [Jvm.Cond.code x code maxLocals ret, Jvm.Cond.code ({ cls := "com/example/stale_to_safe/staletosafe/consistency/LevelServesPinLaw", name := "pick", desc := "(I)Lcom/example/stale_to_safe/staletosafe/consistency/Level;" } : Jvm.MethodName) method_2_code (1 : Nat) (Option.some (Jvm.ClassFile.FieldType.object "com/example/stale_to_safe/staletosafe/consistency/Level")), Jvm.Cond.code ({ cls := "com/example/stale_to_safe/staletosafe/consistency/Level", name := "serves", desc := "()Z" } : Jvm.MethodName) prog_11_method_6_code (1 : Nat) (Option.some Jvm.ClassFile.FieldType.boolean), Jvm.Cond.code ({ cls := "com/example/stale_to_safe/staletosafe/consistency/LevelServesPinLaw", name := "expected", desc := "(I)Z" } : Jvm.MethodName) method_3_code (1 : Nat) (Option.some Jvm.ClassFile.FieldType.boolean)]
set_option maxRecDepth 65536 in
theorem codes_eq : words1.filter isCode = codes1 := rfl
theorem w_codes : ∀ c ∈ words1.filter isCode, c.before args0 about1 = true := by
  rw [codes_eq]
  intro c hc
  simp only [codes1, List.mem_cons, List.not_mem_nil, or_false] at hc
  rcases hc with rfl | rfl | rfl | rfl
  · exact w_c0
  · exact w_c1
  · exact w_c2
  · exact w_c3
set_option maxRecDepth 65536 in
theorem w_t1 : words1.all (fun c => isCode c || c.before args0 about1) = true := by decide +kernel
theorem w_tables : (allAtoms (Jvm.Cond.code x code maxLocals ret :: tables_1)).before args0 about1 = true := by
  rw [allAtoms_all]
  show words1.all (fun c => c.before args0 about1) = true
  refine all_split ?_ w_codes
  rw [w_t1]
set_option maxRecDepth 65536 in
theorem w_case : (Jvm.Cond.and given_1 narrow_1).before args0 about1 = true := by decide +kernel
theorem w_applies : (headSpec (Jvm.Cond.code x code maxLocals ret :: tables_1) room_1).applies x e0.platform about1 = true :=
  (Spec.applies_iff w_frames).mpr ⟨w_running, w_runnable, w_alone, w_named, w_hears, w_ripe, w_room, w_tables⟩
theorem atStart : AtStart classFile x code maxLocals ret World_1 tables_1 room_1 Calls_1 rest_1 Pre_1 launch0 p0 e0 about1 theMethod args0 below0 :=
  ⟨lists_1, trivial, launch0.admits_env _ _ _, launch0.least_env, fairChoices_fair.cas, fairChoices_fair.clock, w_frames, w_args, w_heap, w_applies, trivial, trivial, w_case⟩
end start1
theorem witness_1 : WitnessClaimed_1 := ⟨start1.p0, start1.e0, start1.about1, start1.theMethod, start1.args0, start1.below0, start1.atStart⟩
end Jvm.Pilot.@@N@@
