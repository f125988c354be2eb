import JvmDerived
import JvmDerived.Pilot.@@N@@Statement
import JvmDerived.Pilot.@@N@@Code
set_option linter.unusedVariables false
set_option linter.unusedSimpArgs false
namespace Jvm.RoadKit
open Sem ClassFile Op Lib Jvm.Stand Jvm.Free Jvm.LawKit
section New
variable {p : Program} {l : Launch} {e : Env} {R : Room} {s : State} {m : MethodId} {args : Array Value} {below : List Frame} {meth : Method} {c : Code} {T : State} {locs : List Loc} {cells slots : Nat}
theorem retI (X : Stand p l e R s m args below meth c T locs cells slots) (hx : p.tables.exec = Jvm.exec) {pc : Nat} {Ls : Array Slot} {z : Int32} {rest : List Value} (hret : meth.sig.returnType = some .int) (hd : decode c.code pc = .ok (.ireturn, 1)) {fs : List Frame}
    (hl : ∀ (f : JFrame) (acts : List Action), f.method = m → f.locked = none → f.entered = [] → (doReturn e (T.setTop f) acts (some (.int z))).1 = T.setFrames fs) : Steps p.tables e below (T.setTop (mkF m pc Ls (.int z :: rest))) (T.setFrames fs) := by
  have hm' : T.vm.method? m = some meth := X.method'
  have hn : narrow .int (.int z) = .int z := rfl
  show Steps p.tables e below (T.setTop { method := m, pc := pc, locals := Ls, stack := _ :: rest, locked := none }) _
  jvm_step X.here [X.here.top, hx, hd, hm', hret, hn]
  first | (intro acts; rw [hl _ acts rfl rfl rfl]) | rw [hl _ _ rfl rfl rfl]
  exact Steps.refl _
end New
end Jvm.RoadKit
namespace Jvm.Pilot.@@N@@
open Jvm Jvm.ClassFile Sem Op Lib Jvm.Free Jvm.Stand Jvm.LawKit Jvm.RoadKit Bundle Jvm.Pilot.@@N@@.Jvm.D
def Gl (p : Program) (e : Env) (below : List Frame) (Q : Outcome → State → Prop) (A : State) : Prop := ∃ t o, Steps p.tables e below A t ∧ t.status = .running ∧ Ended t below o ∧ Q o t
theorem Gl.st {p : Program} {e : Env} {below : List Frame} {Q : Outcome → State → Prop} {A B : State} (k : ∀ t, Steps p.tables e below B t → Steps p.tables e below A t) (h : Gl p e below Q B) : Gl p e below Q A := by
  obtain ⟨t, o, h1, r⟩ := h
  exact ⟨t, o, k t h1, r⟩
theorem Gl.cast {p : Program} {e : Env} {below : List Frame} {Q : Outcome → State → Prop} {A B : State} (k : A = B) (h : Gl p e below Q B) : Gl p e below Q A := k ▸ h
theorem Gl.join {p : Program} {e : Env} {below : List Frame} {Q : Outcome → State → Prop} {A B : State} (k : Gl p e below Q A → Gl p e below Q B) (h : Gl p e below Q A) : Gl p e below Q B := k h
theorem Gl.fin {p : Program} {e : Env} {below : List Frame} {Q : Outcome → State → Prop} {A t : State} {o : Outcome} (h1 : Steps p.tables e below A t) (h2 : t.status = .running) (h3 : Ended t below o) (h4 : Q o t) : Gl p e below Q A := ⟨t, o, h1, h2, h3, h4⟩
theorem tw {a0 : Array Value} {Z : State} (hw : ∀ d ∈ tables_1, d.before a0 Z = true) (i : Nat) {d : Jvm.Cond} (h : tables_1[i]? = some d) : d.before a0 Z = true := hw _ (List.mem_of_getElem? h)
theorem ldAt {L M : Array Slot} (h : L = M) {k : Nat} {v : Slot} (q : M[k]? = some v) : L[k]? = some v := h ▸ q
theorem stAt {L M L' M' : Array Slot} {k : Nat} {v w : Value} (h : L = M) (h' : L' = M') (e : w = v) (q : storeLocals M k v = some M') : storeLocals L k w = some L' := by subst h h' e; exact q
theorem stAt' {L M L' M' : Array Slot} {k : Nat} {v w : Value} (h : L = M) (h' : L' = M') (e : w = v) (q : storeLocals M k v = some M') : storeLocals L k w = some L' := by subst h h' e; exact q
theorem szAt {L M : Array Slot} {k n : Nat} (h : k = n) (h' : L = M) (q : M.size = n) : L.size = k := by subst h h'; exact q
theorem efAt {m : MethodId} {L M : Array Slot} {f : JFrame} (h : L = M) (q : f = mkF m 0 M []) : f = mkF m 0 L [] := h ▸ q
theorem own_nb {c : Prop} [Decidable c] {a b : Int32} (ha : nar .boolean a = a) (hb : nar .boolean b = b) : nar .boolean (if c then a else b) = if c then a else b := by split <;> assumption
theorem own_eqL {args : Array Value} {s : State} {t : Term} {z : Int64} (h : (Jvm.Cond.eq t (.long z)).value args s none s [] = some true) : t.eval args s none [] s = some (.long z) := by
  obtain ⟨x, y, ha, hb, k1, k2⟩ := cmp_v (Or.inl h)
  obtain rfl : y = .long z := Option.some.inj (hb.symm.trans (long_at z))
  obtain ⟨w, rfl⟩ : ∃ w, x = .long w := k2
  rw [ha, gotT (eq_L ha hb) h]
theorem own_eqI {args : Array Value} {s : State} {t : Term} {z : Int32} (h : (Jvm.Cond.eq t (.int z)).value args s none s [] = some true) : t.eval args s none [] s = some (.int z) := by
  obtain ⟨x, y, ha, hb, k1, k2⟩ := cmp_v (Or.inl h)
  obtain rfl : y = .int z := Option.some.inj (hb.symm.trans (Term.int_eval z))
  obtain ⟨w, rfl⟩ : ∃ w, x = .int w := k2
  rw [ha, gotT (Cond.eq_ints ha hb) h]
theorem own_sta_keep {Z : State} {h h' : Heap} {C n d : String} {v : Value} {ws : List Addr} (F : Sta Z h C n d v) (K : Keep h h' ws) (q : ∀ x ∈ ws, ∀ cell : Cell, h[x]? = some cell → cell.vm.isStatics = false) : Sta Z h' C n d v := by
  obtain ⟨cf, i, k, f, a, cell, h1, h2, h3, h4, h5, h6, r⟩ := F
  exact ⟨cf, i, k, f, a, cell, h1, h2, h3, h4, K.2.1 a cell h5 (fun y => by have := q a y cell h5; rw [h6] at this; cases this), h6, r⟩
theorem own_exa_plain {Z : State} {h : Heap} {a : Addr} {C : String} (F : Exa Z h a C) : ∀ cell : Cell, h[a]? = some cell → cell.vm.isStatics = false := fun cell hc => by
  obtain ⟨c', k, h1, -, -, h4, -⟩ := F
  rw [h1] at hc; cases hc; exact h4
theorem own_arv_plain {Z : State} {h : Heap} {a : Addr} {k : ClassId} {ty : FieldType} {z : Int32} {vs : List Value} {dv : Value} (F : Arv Z h a k ty z vs dv) : ∀ cell : Cell, h[a]? = some cell → cell.vm.isStatics = false := fun cell hc => by
  obtain ⟨c', A, -⟩ := F
  have := A.1; rw [this] at hc; cases hc; exact A.plain
theorem d1_0 : decode prog_27_method_16_code 0 = .ok (.iload_n 0, 1) := by decide +kernel
theorem d1_1 : decode prog_27_method_16_code 1 = .ok (.bipush 32, 2) := by decide +kernel
theorem d1_3 : decode prog_27_method_16_code 3 = .ok (.if_icmp .eq 21, 3) := by decide +kernel
theorem d1_6 : decode prog_27_method_16_code 6 = .ok (.iload_n 0, 1) := by decide +kernel
theorem d1_7 : decode prog_27_method_16_code 7 = .ok (.bipush 9, 2) := by decide +kernel
theorem d1_9 : decode prog_27_method_16_code 9 = .ok (.if_icmp .eq 15, 3) := by decide +kernel
theorem d1_12 : decode prog_27_method_16_code 12 = .ok (.iload_n 0, 1) := by decide +kernel
theorem d1_13 : decode prog_27_method_16_code 13 = .ok (.bipush 10, 2) := by decide +kernel
theorem d1_15 : decode prog_27_method_16_code 15 = .ok (.if_icmp .eq 9, 3) := by decide +kernel
theorem d1_18 : decode prog_27_method_16_code 18 = .ok (.iload_n 0, 1) := by decide +kernel
theorem d1_19 : decode prog_27_method_16_code 19 = .ok (.bipush 13, 2) := by decide +kernel
theorem d1_21 : decode prog_27_method_16_code 21 = .ok (.if_icmp .ne 7, 3) := by decide +kernel
theorem d1_24 : decode prog_27_method_16_code 24 = .ok (.iconst 1, 1) := by decide +kernel
theorem d1_25 : decode prog_27_method_16_code 25 = .ok (.goto 4, 3) := by decide +kernel
theorem d1_28 : decode prog_27_method_16_code 28 = .ok (.iconst 0, 1) := by decide +kernel
theorem d1_29 : decode prog_27_method_16_code 29 = .ok (.ireturn, 1) := by decide +kernel
theorem pn_1 : plainName "com/example/outcomery/outcomery/Primitive" = true := by first | (simp [plainName, overriddenIn]; done) | decide +kernel
theorem ef_1 (m : MethodId) (p1 : Int32) : entryFrame m #[(.int p1)] 1 = mkF m 0 #[.val (.int p1)] [] := by first | (simp [entryFrame, mkF, argsToLocals, Value.category]; done) | rfl
def Q1 (Z : State) (p1 : Int32) (h0 : Heap) (n0 : Nat) (v : Option Value) (h : Heap) (L : List Loc) : Prop := v = some (.int ((if p1 = (32 : Int32) then (1 : Int32) else (if p1 = (9 : Int32) then (1 : Int32) else (if p1 = (10 : Int32) then (1 : Int32) else (if p1 = (13 : Int32) then (1 : Int32) else (0 : Int32))))))) ∧ Fr n0 L ∧ h = h0
set_option maxRecDepth 65536 in
set_option maxHeartbeats 40000000 in
theorem rm1 (l : Launch) (Z : State) (a0 : Array Value) (hw : ∀ d ∈ tables_1, d.before a0 Z = true) (ws : List Jvm.Cond) (p1 : Int32) (h0 : Heap) (n0 : Nat) (Z0 : n0 ≤ h0.size) :
    MetFree l (⟨"com/example/outcomery/outcomery/Primitive", "isXmlSpace", "(C)Z"⟩ : MethodName) (head1 (Jvm.Cond.code (⟨"com/example/outcomery/outcomery/Primitive", "isXmlSpace", "(C)Z"⟩ : MethodName) prog_27_method_16_code 1 (some .boolean) :: ws) ({ frames := 0, cells := 0, slots := 0, locals := 0 } : Room)) (fun a U => a = #[(.int p1)] ∧ Z.Warmed39 U.vm ∧ U.heap = h0) (fun _ _ _ _ _ => True) (fun _ U o U' => ∃ v L, o = .returned v ∧ Q1 Z p1 h0 n0 v U'.heap L ∧ FrameEnd U o U' L ({ frames := 0, cells := 0, slots := 0, locals := 0 } : Room).cells ({ frames := 0, cells := 0, slots := 0, locals := 0 } : Room).slots) := by
  refine MetFree.of_bodySF (plainFor_of_name pn_1) hisR ?_
  intro p e s m args below meth c s₁ Bd hml0 hP hK
  obtain ⟨rfl, hZ, hh⟩ := hP
  have hx := Bd.exec
  have hby := Bd.bytes
  have hml : c.maxLocals = 1 := hml0
  have hown : s.vm.findClass "com/example/outcomery/outcomery/Primitive" = some m.cls := findClass_of_methodNamed Bd.named
  have hnm := (name_of_methodNamed Bd.named Bd.method).1
  have X0 : Stand p l e ({ frames := 0, cells := 0, slots := 0, locals := 0 } : Room) s m #[(.int p1)] below meth c s₁ [] 0 0 := Stand.of_body Bd
  have e0 : s₁.heap = h0 := by rw [← hh, Bd.state]; rfl
  have N0 := Fr.nil n0
  have K0 : Keep h0 h0 [] := Keep.refl h0 _
  refine (show Gl p e below (fun o U' => ∃ v L, o = .returned v ∧ Q1 Z p1 h0 n0 v U'.heap L ∧ FrameEnd s o U' L ({ frames := 0, cells := 0, slots := 0, locals := 0 } : Room).cells ({ frames := 0, cells := 0, slots := 0, locals := 0 } : Room).slots) (s₁.setTop (entryFrame m #[(.int p1)] 1)) from ?_)
  obtain ⟨L0, hL0⟩ : ∃ z : Array Slot, z = #[.val (.int p1)] := ⟨_, rfl⟩
  refine Gl.st (B := (s₁.setTop (mkF m 0 L0 []))) (fun t k => castTop (efAt hL0 (ef_1 m p1)) k) ?_
  refine Gl.st (B := (s₁.setTop (mkF m 1 L0 [(.int p1)]))) (fun t k => XS.iloadN X0.here hx rfl (hb hby d1_0) (ldAt hL0 rfl) k) ?_
  refine Gl.st (B := (s₁.setTop (mkF m 3 L0 [(.int (32 : Int32)), (.int p1)]))) (fun t k => XS.bipush X0.here hx rfl (hb hby d1_1) k) ?_
  obtain ⟨v29_s0_5, hv29_s0_5⟩ : ∃ z : Int32, z = (if p1 = (32 : Int32) then (1 : Int32) else (if p1 = (9 : Int32) then (1 : Int32) else (if p1 = (10 : Int32) then (1 : Int32) else (if p1 = (13 : Int32) then (1 : Int32) else (0 : Int32))))) := ⟨_, rfl⟩
  refine Gl.join (A := (s₁.setTop (mkF m 29 L0 [(.int v29_s0_5)]))) (fun J3_5 => ?_) ?_
  · by_cases hc3_1 : p1 = (32 : Int32)
    · skip
      refine Gl.st (B := (s₁.setTop (mkF m 24 L0 []))) (fun t k => XS.icmpYes X0.here hx rfl (pc0 := 3) (pc' := 24) rfl (hb hby d1_3) rfl (teq hc3_1).1 (by decide) (by decide) k) ?_
      refine Gl.st (B := (s₁.setTop (mkF m 25 L0 [(.int (1 : Int32))]))) (fun t k => XS.iconst X0.here hx rfl (hb hby d1_24) k) ?_
      refine Gl.st (B := (s₁.setTop (mkF m 29 L0 [(.int (1 : Int32))]))) (fun t k => XS.goto X0.here hx rfl (pc0 := 25) (pc' := 29) rfl (hb hby d1_25) (by decide) (by decide) k) ?_
      have ev29_s0_5 : v29_s0_5 = (1 : Int32) := by rw [hv29_s0_5, if_pos hc3_1]
      rw [ev29_s0_5] at J3_5
      exact J3_5
    · skip
      refine Gl.st (B := (s₁.setTop (mkF m 6 L0 []))) (fun t k => XS.icmpNo X0.here hx rfl (hb hby d1_3) rfl (feq hc3_1).1 k) ?_
      refine Gl.st (B := (s₁.setTop (mkF m 7 L0 [(.int p1)]))) (fun t k => XS.iloadN X0.here hx rfl (hb hby d1_6) (ldAt hL0 rfl) k) ?_
      refine Gl.st (B := (s₁.setTop (mkF m 9 L0 [(.int (9 : Int32)), (.int p1)]))) (fun t k => XS.bipush X0.here hx rfl (hb hby d1_7) k) ?_
      by_cases hc9_6 : p1 = (9 : Int32)
      · skip
        refine Gl.st (B := (s₁.setTop (mkF m 24 L0 []))) (fun t k => XS.icmpYes X0.here hx rfl (pc0 := 9) (pc' := 24) rfl (hb hby d1_9) rfl (teq hc9_6).1 (by decide) (by decide) k) ?_
        refine Gl.st (B := (s₁.setTop (mkF m 25 L0 [(.int (1 : Int32))]))) (fun t k => XS.iconst X0.here hx rfl (hb hby d1_24) k) ?_
        refine Gl.st (B := (s₁.setTop (mkF m 29 L0 [(.int (1 : Int32))]))) (fun t k => XS.goto X0.here hx rfl (pc0 := 25) (pc' := 29) rfl (hb hby d1_25) (by decide) (by decide) k) ?_
        have ev29_s0_5 : v29_s0_5 = (1 : Int32) := by rw [hv29_s0_5, if_neg hc3_1, if_pos hc9_6]
        rw [ev29_s0_5] at J3_5
        exact J3_5
      · skip
        refine Gl.st (B := (s₁.setTop (mkF m 12 L0 []))) (fun t k => XS.icmpNo X0.here hx rfl (hb hby d1_9) rfl (feq hc9_6).1 k) ?_
        refine Gl.st (B := (s₁.setTop (mkF m 13 L0 [(.int p1)]))) (fun t k => XS.iloadN X0.here hx rfl (hb hby d1_12) (ldAt hL0 rfl) k) ?_
        refine Gl.st (B := (s₁.setTop (mkF m 15 L0 [(.int (10 : Int32)), (.int p1)]))) (fun t k => XS.bipush X0.here hx rfl (hb hby d1_13) k) ?_
        by_cases hc15_7 : p1 = (10 : Int32)
        · skip
          refine Gl.st (B := (s₁.setTop (mkF m 24 L0 []))) (fun t k => XS.icmpYes X0.here hx rfl (pc0 := 15) (pc' := 24) rfl (hb hby d1_15) rfl (teq hc15_7).1 (by decide) (by decide) k) ?_
          refine Gl.st (B := (s₁.setTop (mkF m 25 L0 [(.int (1 : Int32))]))) (fun t k => XS.iconst X0.here hx rfl (hb hby d1_24) k) ?_
          refine Gl.st (B := (s₁.setTop (mkF m 29 L0 [(.int (1 : Int32))]))) (fun t k => XS.goto X0.here hx rfl (pc0 := 25) (pc' := 29) rfl (hb hby d1_25) (by decide) (by decide) k) ?_
          have ev29_s0_5 : v29_s0_5 = (1 : Int32) := by rw [hv29_s0_5, if_neg hc3_1, if_neg hc9_6, if_pos hc15_7]
          rw [ev29_s0_5] at J3_5
          exact J3_5
        · skip
          refine Gl.st (B := (s₁.setTop (mkF m 18 L0 []))) (fun t k => XS.icmpNo X0.here hx rfl (hb hby d1_15) rfl (feq hc15_7).1 k) ?_
          refine Gl.st (B := (s₁.setTop (mkF m 19 L0 [(.int p1)]))) (fun t k => XS.iloadN X0.here hx rfl (hb hby d1_18) (ldAt hL0 rfl) k) ?_
          refine Gl.st (B := (s₁.setTop (mkF m 21 L0 [(.int (13 : Int32)), (.int p1)]))) (fun t k => XS.bipush X0.here hx rfl (hb hby d1_19) k) ?_
          by_cases hc21_8 : p1 = (13 : Int32)
          · skip
            refine Gl.st (B := (s₁.setTop (mkF m 24 L0 []))) (fun t k => XS.icmpNo X0.here hx rfl (hb hby d1_21) rfl (teq hc21_8).2 k) ?_
            refine Gl.st (B := (s₁.setTop (mkF m 25 L0 [(.int (1 : Int32))]))) (fun t k => XS.iconst X0.here hx rfl (hb hby d1_24) k) ?_
            refine Gl.st (B := (s₁.setTop (mkF m 29 L0 [(.int (1 : Int32))]))) (fun t k => XS.goto X0.here hx rfl (pc0 := 25) (pc' := 29) rfl (hb hby d1_25) (by decide) (by decide) k) ?_
            have ev29_s0_5 : v29_s0_5 = (1 : Int32) := by rw [hv29_s0_5, if_neg hc3_1, if_neg hc9_6, if_neg hc15_7, if_pos hc21_8]
            rw [ev29_s0_5] at J3_5
            exact J3_5
          · skip
            refine Gl.st (B := (s₁.setTop (mkF m 28 L0 []))) (fun t k => XS.icmpYes X0.here hx rfl (pc0 := 21) (pc' := 28) rfl (hb hby d1_21) rfl (feq hc21_8).2 (by decide) (by decide) k) ?_
            refine Gl.st (B := (s₁.setTop (mkF m 29 L0 [(.int (0 : Int32))]))) (fun t k => XS.iconst X0.here hx rfl (hb hby d1_28) k) ?_
            have ev29_s0_5 : v29_s0_5 = (0 : Int32) := by rw [hv29_s0_5, if_neg hc3_1, if_neg hc9_6, if_neg hc15_7, if_neg hc21_8]
            rw [ev29_s0_5] at J3_5
            exact J3_5
  obtain ⟨fs, hr, hrun, hended, hW, hsame⟩ := X0.leave (v := some (.int (nar .boolean v29_s0_5))) (fun h => by rw [Bd.returns] at h; cases h)
  refine Gl.fin (retN X0 hx (t := .boolean) Bd.returns (by simp) (hb hby d1_29) hr) hrun hended ⟨_, _, rfl, ?_, ⟨_, rfl⟩, hW, hsame.mono (by decide) (by decide)⟩
  show Q1 Z p1 h0 n0 _ s₁.heap _
  rw [e0]
  exact ⟨(by subst hv29_s0_5; exact congrArg (fun z => some (Value.int z)) (own_nb rfl (own_nb rfl (own_nb rfl (own_nb rfl rfl))))), N0, rfl⟩
theorem d2_0 : decode method_2_code 0 = .ok (.ldc2_w 7, 3) := by decide +kernel
theorem d2_3 : decode method_2_code 3 = .ok (.lstore_n 1, 1) := by decide +kernel
theorem d2_4 : decode method_2_code 4 = .ok (.iload_n 0, 1) := by decide +kernel
theorem d2_5 : decode method_2_code 5 = .ok (.bipush 32, 2) := by decide +kernel
theorem d2_7 : decode method_2_code 7 = .ok (.if_icmp .le 5, 3) := by decide +kernel
theorem d2_10 : decode method_2_code 10 = .ok (.iconst 0, 1) := by decide +kernel
theorem d2_11 : decode method_2_code 11 = .ok (.ireturn, 1) := by decide +kernel
theorem d2_12 : decode method_2_code 12 = .ok (.lload_n 1, 1) := by decide +kernel
theorem d2_13 : decode method_2_code 13 = .ok (.iload_n 0, 1) := by decide +kernel
theorem d2_14 : decode method_2_code 14 = .ok (.lushr, 1) := by decide +kernel
theorem d2_15 : decode method_2_code 15 = .ok (.lconst 1, 1) := by decide +kernel
theorem d2_16 : decode method_2_code 16 = .ok (.land, 1) := by decide +kernel
theorem d2_17 : decode method_2_code 17 = .ok (.lconst 0, 1) := by decide +kernel
theorem d2_18 : decode method_2_code 18 = .ok (.lcmp, 1) := by decide +kernel
theorem d2_19 : decode method_2_code 19 = .ok (.ifCond .eq 7, 3) := by decide +kernel
theorem d2_22 : decode method_2_code 22 = .ok (.iconst 1, 1) := by decide +kernel
theorem d2_23 : decode method_2_code 23 = .ok (.goto 4, 3) := by decide +kernel
theorem d2_26 : decode method_2_code 26 = .ok (.iconst 0, 1) := by decide +kernel
theorem d2_27 : decode method_2_code 27 = .ok (.ireturn, 1) := by decide +kernel
theorem pn_2 : plainName "com/example/outcomery/outcomery/PrimitiveIsXmlSpacePinLaw" = true := by first | (simp [plainName, overriddenIn]; done) | decide +kernel
theorem ef_2 (m : MethodId) (p1 : Int32) : entryFrame m #[(.int p1)] 3 = mkF m 0 #[.val (.int p1), .unset, .unset] [] := by first | (simp [entryFrame, mkF, argsToLocals, Value.category]; done) | rfl
def Q2 (Z : State) (p1 : Int32) (h0 : Heap) (n0 : Nat) (v : Option Value) (h : Heap) (L : List Loc) : Prop := v = some (.int (if (32 : Int32) < p1 then (0 : Int32) else ((if ((((4294977024 : Int64).toUInt64 >>> (p1 &&& 0x3f).toInt64.toUInt64).toInt64) &&& (1 : Int64)) = (0 : Int64) then (0 : Int32) else (1 : Int32))))) ∧ Fr n0 L ∧ h = h0
set_option maxRecDepth 65536 in
set_option maxHeartbeats 40000000 in
theorem rm2 (l : Launch) (Z : State) (a0 : Array Value) (hw : ∀ d ∈ tables_1, d.before a0 Z = true) (ws : List Jvm.Cond) (p1 : Int32) (h0 : Heap) (n0 : Nat) (Z0 : n0 ≤ h0.size) :
    MetFree l (⟨"com/example/outcomery/outcomery/PrimitiveIsXmlSpacePinLaw", "expected", "(C)Z"⟩ : MethodName) (head1 (Jvm.Cond.code (⟨"com/example/outcomery/outcomery/PrimitiveIsXmlSpacePinLaw", "expected", "(C)Z"⟩ : MethodName) method_2_code 3 (some .boolean) :: ws) ({ frames := 0, cells := 0, slots := 0, locals := 0 } : Room)) (fun a U => a = #[(.int p1)] ∧ Z.Warmed39 U.vm ∧ U.heap = h0) (fun _ _ _ _ _ => True) (fun _ U o U' => ∃ v L, o = .returned v ∧ Q2 Z p1 h0 n0 v U'.heap L ∧ FrameEnd U o U' L ({ frames := 0, cells := 0, slots := 0, locals := 0 } : Room).cells ({ frames := 0, cells := 0, slots := 0, locals := 0 } : Room).slots) := by
  refine MetFree.of_bodySF (plainFor_of_name pn_2) hisR ?_
  intro p e s m args below meth c s₁ Bd hml0 hP hK
  obtain ⟨rfl, hZ, hh⟩ := hP
  have hx := Bd.exec
  have hby := Bd.bytes
  have hml : c.maxLocals = 3 := hml0
  have hown : s.vm.findClass "com/example/outcomery/outcomery/PrimitiveIsXmlSpacePinLaw" = some m.cls := findClass_of_methodNamed Bd.named
  have hnm := (name_of_methodNamed Bd.named Bd.method).1
  have X0 : Stand p l e ({ frames := 0, cells := 0, slots := 0, locals := 0 } : Room) s m #[(.int p1)] below meth c s₁ [] 0 0 := Stand.of_body Bd
  have e0 : s₁.heap = h0 := by rw [← hh, Bd.state]; rfl
  have N0 := Fr.nil n0
  have K0 : Keep h0 h0 [] := Keep.refl h0 _
  refine (show Gl p e below (fun o U' => ∃ v L, o = .returned v ∧ Q2 Z p1 h0 n0 v U'.heap L ∧ FrameEnd s o U' L ({ frames := 0, cells := 0, slots := 0, locals := 0 } : Room).cells ({ frames := 0, cells := 0, slots := 0, locals := 0 } : Room).slots) (s₁.setTop (entryFrame m #[(.int p1)] 3)) from ?_)
  obtain ⟨L0, hL0⟩ : ∃ z : Array Slot, z = #[.val (.int p1), .unset, .unset] := ⟨_, rfl⟩
  refine Gl.st (B := (s₁.setTop (mkF m 0 L0 []))) (fun t k => castTop (efAt hL0 (ef_2 m p1)) k) ?_
  refine Gl.st (B := (s₁.setTop (mkF m 3 L0 [(.long (4294977024 : Int64))]))) (fun t k => X0.ldc2Long hx hown (mvT hZ (tw hw 8 rfl)) (g := (mkF m 0 L0 [])) rfl (hb hby d2_0) _ k) ?_
  obtain ⟨L1, hL1⟩ : ∃ z : Array Slot, z = #[.val (.int p1), .val (.long (4294977024 : Int64)), .second] := ⟨_, rfl⟩
  refine Gl.st (B := (s₁.setTop (mkF m 4 L1 []))) (fun t k => XS.lstoreN X0.here hx rfl (hb hby d2_3) rfl (l' := L1) (stAt hL0 hL1 rfl rfl) k) ?_
  refine Gl.st (B := (s₁.setTop (mkF m 5 L1 [(.int p1)]))) (fun t k => XS.iloadN X0.here hx rfl (hb hby d2_4) (ldAt hL1 rfl) k) ?_
  refine Gl.st (B := (s₁.setTop (mkF m 7 L1 [(.int (32 : Int32)), (.int p1)]))) (fun t k => XS.bipush X0.here hx rfl (hb hby d2_5) k) ?_
  by_cases hc7_2 : (32 : Int32) < p1
  · skip
    refine Gl.st (B := (s₁.setTop (mkF m 10 L1 []))) (fun t k => XS.icmpNo X0.here hx rfl (hb hby d2_7) rfl (tlt hc7_2).2.2.2 k) ?_
    refine Gl.st (B := (s₁.setTop (mkF m 11 L1 [(.int (0 : Int32))]))) (fun t k => XS.iconst X0.here hx rfl (hb hby d2_10) k) ?_
    obtain ⟨fs, hr, hrun, hended, hW, hsame⟩ := X0.leave (v := some (.int (nar .boolean (0 : Int32)))) (fun h => by rw [Bd.returns] at h; cases h)
    refine Gl.fin (retN X0 hx (t := .boolean) Bd.returns (by simp) (hb hby d2_11) hr) hrun hended ⟨_, _, rfl, ?_, ⟨_, rfl⟩, hW, hsame.mono (by decide) (by decide)⟩
    show Q2 Z p1 h0 n0 _ s₁.heap _
    rw [e0]
    exact ⟨(by rw [if_pos hc7_2]; rfl), N0, rfl⟩
  · skip
    refine Gl.st (B := (s₁.setTop (mkF m 12 L1 []))) (fun t k => XS.icmpYes X0.here hx rfl (pc0 := 7) (pc' := 12) rfl (hb hby d2_7) rfl (flt hc7_2).2.2.2 (by decide) (by decide) k) ?_
    refine Gl.st (B := (s₁.setTop (mkF m 13 L1 [(.long (4294977024 : Int64))]))) (fun t k => XS.lloadN X0.here hx rfl (hb hby d2_12) (ldAt hL1 rfl) k) ?_
    refine Gl.st (B := (s₁.setTop (mkF m 14 L1 [(.int p1), (.long (4294977024 : Int64))]))) (fun t k => XS.iloadN X0.here hx rfl (hb hby d2_13) (ldAt hL1 rfl) k) ?_
    refine Gl.st (B := (s₁.setTop (mkF m 15 L1 [(.long (((4294977024 : Int64).toUInt64 >>> (p1 &&& 0x3f).toInt64.toUInt64).toInt64))]))) (fun t k => XS.lushr X0.here hx rfl (hb hby d2_14) rfl k) ?_
    refine Gl.st (B := (s₁.setTop (mkF m 16 L1 [(.long (1 : Int64)), (.long (((4294977024 : Int64).toUInt64 >>> (p1 &&& 0x3f).toInt64.toUInt64).toInt64))]))) (fun t k => XS.lconst X0.here hx rfl (hb hby d2_15) k) ?_
    refine Gl.st (B := (s₁.setTop (mkF m 17 L1 [(.long ((((4294977024 : Int64).toUInt64 >>> (p1 &&& 0x3f).toInt64.toUInt64).toInt64) &&& (1 : Int64)))]))) (fun t k => XS.land X0.here hx rfl (hb hby d2_16) rfl k) ?_
    refine Gl.st (B := (s₁.setTop (mkF m 18 L1 [(.long (0 : Int64)), (.long ((((4294977024 : Int64).toUInt64 >>> (p1 &&& 0x3f).toInt64.toUInt64).toInt64) &&& (1 : Int64)))]))) (fun t k => XS.lconst X0.here hx rfl (hb hby d2_17) k) ?_
    refine Gl.st (B := (s₁.setTop (mkF m 19 L1 [(.int (lcmpW ((((4294977024 : Int64).toUInt64 >>> (p1 &&& 0x3f).toInt64.toUInt64).toInt64) &&& (1 : Int64)) (0 : Int64)))]))) (fun t k => XS.lcmp X0.here hx rfl (hb hby d2_18) rfl k) ?_
    obtain ⟨v27_s0_4, hv27_s0_4⟩ : ∃ z : Int32, z = (if ((((4294977024 : Int64).toUInt64 >>> (p1 &&& 0x3f).toInt64.toUInt64).toInt64) &&& (1 : Int64)) = (0 : Int64) then (0 : Int32) else (1 : Int32)) := ⟨_, rfl⟩
    refine Gl.join (A := (s₁.setTop (mkF m 27 L1 [(.int v27_s0_4)]))) (fun J19_4 => ?_) ?_
    · by_cases hc19_3 : ((((4294977024 : Int64).toUInt64 >>> (p1 &&& 0x3f).toInt64.toUInt64).toInt64) &&& (1 : Int64)) = (0 : Int64)
      · skip
        refine Gl.st (B := (s₁.setTop (mkF m 26 L1 []))) (fun t k => XS.ifYes X0.here hx rfl (pc0 := 19) (pc' := 26) rfl (hb hby d2_19) rfl ((if0 _ _).trans (teq ((lw_eq ((((4294977024 : Int64).toUInt64 >>> (p1 &&& 0x3f).toInt64.toUInt64).toInt64) &&& (1 : Int64)) (0 : Int64)).mpr hc19_3)).1) (by decide) (by decide) k) ?_
        refine Gl.st (B := (s₁.setTop (mkF m 27 L1 [(.int (0 : Int32))]))) (fun t k => XS.iconst X0.here hx rfl (hb hby d2_26) k) ?_
        have ev27_s0_4 : v27_s0_4 = (0 : Int32) := by rw [hv27_s0_4, if_pos hc19_3]
        rw [ev27_s0_4] at J19_4
        exact J19_4
      · skip
        refine Gl.st (B := (s₁.setTop (mkF m 22 L1 []))) (fun t k => XS.ifNo X0.here hx rfl (hb hby d2_19) rfl ((if0 _ _).trans (feq (mt (lw_eq ((((4294977024 : Int64).toUInt64 >>> (p1 &&& 0x3f).toInt64.toUInt64).toInt64) &&& (1 : Int64)) (0 : Int64)).mp hc19_3)).1) k) ?_
        refine Gl.st (B := (s₁.setTop (mkF m 23 L1 [(.int (1 : Int32))]))) (fun t k => XS.iconst X0.here hx rfl (hb hby d2_22) k) ?_
        refine Gl.st (B := (s₁.setTop (mkF m 27 L1 [(.int (1 : Int32))]))) (fun t k => XS.goto X0.here hx rfl (pc0 := 23) (pc' := 27) rfl (hb hby d2_23) (by decide) (by decide) k) ?_
        have ev27_s0_4 : v27_s0_4 = (1 : Int32) := by rw [hv27_s0_4, if_neg hc19_3]
        rw [ev27_s0_4] at J19_4
        exact J19_4
    obtain ⟨fs, hr, hrun, hended, hW, hsame⟩ := X0.leave (v := some (.int (nar .boolean v27_s0_4))) (fun h => by rw [Bd.returns] at h; cases h)
    refine Gl.fin (retN X0 hx (t := .boolean) Bd.returns (by simp) (hb hby d2_27) hr) hrun hended ⟨_, _, rfl, ?_, ⟨_, rfl⟩, hW, hsame.mono (by decide) (by decide)⟩
    show Q2 Z p1 h0 n0 _ s₁.heap _
    rw [e0]
    exact ⟨(by subst hv27_s0_4; rw [if_neg hc7_2]; exact congrArg (fun z => some (Value.int z)) (own_nb rfl rfl)), N0, rfl⟩
theorem pn_0 : plainName "com/example/outcomery/outcomery/PrimitiveIsXmlSpacePinLaw" = true := by first | (simp [plainName, overriddenIn]; done) | decide +kernel
theorem pd_0_0 : parseMethodDescriptor "(C)Z" = some ⟨[.char], some .boolean⟩ := by decide +kernel
theorem ef_0 (m : MethodId) (p1 : Int32) : entryFrame m #[(.int p1)] maxLocals = mkF m 0 #[.val (.int p1), .unset] [] := by first | (simp [entryFrame, mkF, argsToLocals, Value.category, maxLocals]; done) | rfl
theorem own_0_hc11_7 (p1 : Int32) (y1_2_1 : Int32) (r4_4 : Int32) (r8_6 : Int32) (hy1_2_1 : y1_2_1 = (p1.toUInt32.toUInt16.toUInt32.toInt32)) (hr4_4 : r4_4 = ((if y1_2_1 = (32 : Int32) then (1 : Int32) else (if y1_2_1 = (9 : Int32) then (1 : Int32) else (if y1_2_1 = (10 : Int32) then (1 : Int32) else (if y1_2_1 = (13 : Int32) then (1 : Int32) else (0 : Int32))))))) (hr8_6 : r8_6 = (if (32 : Int32) < y1_2_1 then (0 : Int32) else ((if ((((4294977024 : Int64).toUInt64 >>> (y1_2_1 &&& 0x3f).toInt64.toUInt64).toInt64) &&& (1 : Int64)) = (0 : Int64) then (0 : Int32) else (1 : Int32)))))  : r4_4 = r8_6 := by
  have b := c_i2c p1
  rw [← hy1_2_1] at b
  clear hy1_2_1
  by_cases h : (32 : Int32) < y1_2_1
  · rw [hr4_4, hr8_6, if_pos h]
    repeat' split
    all_goals first | rfl | (rename_i q; rw [q] at h; exact absurd h (by decide))
  · have h' : ¬ (32 : Int) < y1_2_1.toInt := fun q => h (Int32.lt_iff_toInt_lt.mpr q)
    obtain ⟨k, e⟩ : ∃ k : Fin 33, y1_2_1 = k.1.toInt32 := ⟨⟨y1_2_1.toInt.toNat, by omega⟩, by
      rw [← Int32.toInt_inj, len_toInt (show y1_2_1.toInt.toNat < 2 ^ 31 by omega)]
      show y1_2_1.toInt = ((y1_2_1.toInt.toNat : Nat) : Int)
      omega⟩
    rw [hr4_4, hr8_6, e]
    clear h h' b hr4_4 hr8_6 e
    revert k
    decide +kernel
def Q0 (Z : State) (p1 : Int32) (h0 : Heap) (n0 : Nat) (v : Option Value) (h : Heap) (L : List Loc) : Prop := v = some (.int (1 : Int32)) ∧ Fr n0 L
set_option maxRecDepth 65536 in
set_option maxHeartbeats 40000000 in
theorem rm0 (l : Launch) (Z : State) (a0 : Array Value) (hw : ∀ d ∈ tables_1, d.before a0 Z = true) (ws : List Jvm.Cond) (p1 : Int32) (h0 : Heap) (n0 : Nat) (Z0 : n0 ≤ h0.size) :
    MetFree l x (head1 (Jvm.Cond.code x code maxLocals ret :: ws) room_1) (fun a U => a = #[(.int p1)] ∧ Z.Warmed39 U.vm ∧ U.heap = h0) (fun _ _ _ _ _ => True) (fun _ U o U' => ∃ v L, o = .returned v ∧ Q0 Z p1 h0 n0 v U'.heap L ∧ FrameEnd U o U' L room_1.cells room_1.slots) := by
  refine MetFree.of_bodySF (plainFor_of_name pn_0) hisR ?_
  intro p e s m args below meth c s₁ Bd hml0 hP hK
  obtain ⟨rfl, hZ, hh⟩ := hP
  have hx := Bd.exec
  have hby := Bd.bytes
  have hml : c.maxLocals = 2 := hml0
  have hown : s.vm.findClass "com/example/outcomery/outcomery/PrimitiveIsXmlSpacePinLaw" = some m.cls := findClass_of_methodNamed Bd.named
  have hnm := (name_of_methodNamed Bd.named Bd.method).1
  have X0 : Stand p l e room_1 s m #[(.int p1)] below meth c s₁ [] 0 0 := Stand.of_body Bd
  have e0 : s₁.heap = h0 := by rw [← hh, Bd.state]; rfl
  have N0 := Fr.nil n0
  refine (show Gl p e below (fun o U' => ∃ v L, o = .returned v ∧ Q0 Z p1 h0 n0 v U'.heap L ∧ FrameEnd s o U' L room_1.cells room_1.slots) (s₁.setTop (entryFrame m #[(.int p1)] maxLocals)) from ?_)
  obtain ⟨L0, hL0⟩ : ∃ z : Array Slot, z = #[.val (.int p1), .unset] := ⟨_, rfl⟩
  refine Gl.st (B := (s₁.setTop (mkF m 0 L0 []))) (fun t k => castTop (efAt hL0 (ef_0 m p1)) k) ?_
  refine Gl.st (B := (s₁.setTop (mkF m 1 L0 [(.int p1)]))) (fun t k => XS.iloadN X0.here hx rfl (hb hby at_0) (ldAt hL0 rfl) k) ?_
  refine Gl.st (B := (s₁.setTop (mkF m 2 L0 [(.int (p1.toUInt32.toUInt16.toUInt32.toInt32))]))) (fun t k => XS.i2c X0.here hx rfl (hb hby at_1) rfl k) ?_
  obtain ⟨y1_2_1, hy1_2_1⟩ : ∃ z : Int32, z = (p1.toUInt32.toUInt16.toUInt32.toInt32) := ⟨_, rfl⟩
  refine Gl.cast (B := (s₁.setTop (mkF m 2 L0 [(.int y1_2_1)]))) (by rw [hy1_2_1]) ?_
  obtain ⟨L2, hL2⟩ : ∃ z : Array Slot, z = #[.val (.int p1), .val (.int y1_2_1)] := ⟨_, rfl⟩
  refine Gl.st (B := (s₁.setTop (mkF m 3 L2 []))) (fun t k => XS.istoreN X0.here hx rfl (hb hby at_2) rfl (l' := L2) (stAt hL0 hL2 rfl rfl) k) ?_
  refine Gl.st (B := (s₁.setTop (mkF m 4 L2 [(.int y1_2_1)]))) (fun t k => XS.iloadN X0.here hx rfl (hb hby at_3) (ldAt hL2 rfl) k) ?_
  obtain ⟨_, _, ⟨T3, L3q, k3, n3⟩, -, X3, ⟨Lc3, hQ3, l3, y3, z3⟩, st3⟩ := Jvm.LawKit.callS X0 hx (y := (⟨"com/example/outcomery/outcomery/Primitive", "isXmlSpace", "(C)Z"⟩ : MethodName)) hown (mvT hZ (tw hw 0 rfl)) (mvT hZ (tw hw 1 rfl)) (mvT hZ (tw hw 2 rfl)) (mvT hZ (tw hw 3 rfl)) (by decide) (backOf (W := 0) (rm1 l Z a0 hw [] y1_2_1 h0 n0 Z0) hZ (tw hw 3 rfl) (tw hw 2 rfl) (by decide) (by decide)) (g := (mkF m 4 L2 [(.int y1_2_1)])) rfl (szAt hml hL2 rfl) (argsL := [(.int y1_2_1)]) (rest := []) (lenOf pd_0_0 rfl) rfl (by show 2 * 0 + _ ≤ _; exact Nat.le_of_eq rfl) (hb hby at_4) (fun _ _ => ⟨rfl, e0, (by decide : 0 + 0 ≤ _), (by decide : 0 + 0 ≤ _)⟩)
  dsimp only [Pt.U, Pt.locs, Pt.cells, Pt.slots] at X3 l3 y3 z3 st3 hQ3
  subst l3 y3 z3
  obtain ⟨rfl, N3q, eh3⟩ := hQ3
  have N3 := Fr.app N0 N3q
  refine Gl.st (B := (T3.setTop (mkF m 7 L2 [(.int ((if y1_2_1 = (32 : Int32) then (1 : Int32) else (if y1_2_1 = (9 : Int32) then (1 : Int32) else (if y1_2_1 = (10 : Int32) then (1 : Int32) else (if y1_2_1 = (13 : Int32) then (1 : Int32) else (0 : Int32)))))))]))) (fun t k => st3 t k) ?_
  obtain ⟨r4_4, hr4_4⟩ : ∃ z : Int32, z = ((if y1_2_1 = (32 : Int32) then (1 : Int32) else (if y1_2_1 = (9 : Int32) then (1 : Int32) else (if y1_2_1 = (10 : Int32) then (1 : Int32) else (if y1_2_1 = (13 : Int32) then (1 : Int32) else (0 : Int32)))))) := ⟨_, rfl⟩
  refine Gl.cast (B := (T3.setTop (mkF m 7 L2 [(.int r4_4)]))) (by rw [hr4_4]) ?_
  refine Gl.st (B := (T3.setTop (mkF m 8 L2 [(.int y1_2_1), (.int r4_4)]))) (fun t k => XS.iloadN X3.here hx rfl (hb hby at_7) (ldAt hL2 rfl) k) ?_
  obtain ⟨_, _, ⟨T5, L5q, k5, n5⟩, -, X5, ⟨Lc5, hQ5, l5, y5, z5⟩, st5⟩ := Jvm.LawKit.callS X3 hx (y := (⟨"com/example/outcomery/outcomery/PrimitiveIsXmlSpacePinLaw", "expected", "(C)Z"⟩ : MethodName)) hown (mvT hZ (tw hw 4 rfl)) (mvT hZ (tw hw 5 rfl)) (mvT hZ (tw hw 6 rfl)) (mvT hZ (tw hw 7 rfl)) (by decide) (backOf (W := 1) (rm2 l Z a0 hw [] y1_2_1 h0 n0 Z0) hZ (tw hw 7 rfl) (tw hw 6 rfl) (by decide) (by decide)) (g := (mkF m 8 L2 [(.int y1_2_1), (.int r4_4)])) rfl (szAt hml hL2 rfl) (argsL := [(.int y1_2_1)]) (rest := [(.int r4_4)]) (lenOf pd_0_0 rfl) rfl (by show 2 * 0 + _ ≤ _; exact Nat.le_of_eq rfl) (hb hby at_8) (fun _ _ => ⟨rfl, eh3, (by decide : 0 + 0 ≤ _), (by decide : 0 + 0 ≤ _)⟩)
  dsimp only [Pt.U, Pt.locs, Pt.cells, Pt.slots] at X5 l5 y5 z5 st5 hQ5
  subst l5 y5 z5
  obtain ⟨rfl, N5q, eh5⟩ := hQ5
  have N5 := Fr.app N3 N5q
  refine Gl.st (B := (T5.setTop (mkF m 11 L2 [(.int (if (32 : Int32) < y1_2_1 then (0 : Int32) else ((if ((((4294977024 : Int64).toUInt64 >>> (y1_2_1 &&& 0x3f).toInt64.toUInt64).toInt64) &&& (1 : Int64)) = (0 : Int64) then (0 : Int32) else (1 : Int32))))), (.int r4_4)]))) (fun t k => st5 t k) ?_
  obtain ⟨r8_6, hr8_6⟩ : ∃ z : Int32, z = (if (32 : Int32) < y1_2_1 then (0 : Int32) else ((if ((((4294977024 : Int64).toUInt64 >>> (y1_2_1 &&& 0x3f).toInt64.toUInt64).toInt64) &&& (1 : Int64)) = (0 : Int64) then (0 : Int32) else (1 : Int32)))) := ⟨_, rfl⟩
  refine Gl.cast (B := (T5.setTop (mkF m 11 L2 [(.int r8_6), (.int r4_4)]))) (by rw [hr8_6]) ?_
  have hc11_7 : r4_4 = r8_6 := own_0_hc11_7 p1 y1_2_1 r4_4 r8_6 hy1_2_1 hr4_4 hr8_6 
  refine Gl.st (B := (T5.setTop (mkF m 14 L2 []))) (fun t k => XS.icmpNo X5.here hx rfl (hb hby at_11) rfl (teq hc11_7).2 k) ?_
  refine Gl.st (B := (T5.setTop (mkF m 15 L2 [(.int (1 : Int32))]))) (fun t k => XS.iconst X5.here hx rfl (hb hby at_14) k) ?_
  refine Gl.st (B := (T5.setTop (mkF m 19 L2 [(.int (1 : Int32))]))) (fun t k => XS.goto X5.here hx rfl (pc0 := 15) (pc' := 19) rfl (hb hby at_15) (by decide) (by decide) k) ?_
  obtain ⟨fs, hr, hrun, hended, hW, hsame⟩ := X5.leave (v := some (.int (nar .boolean (1 : Int32)))) (fun h => by rw [Bd.returns] at h; cases h)
  refine Gl.fin (retN X5 hx (t := .boolean) Bd.returns (by simp) (hb hby at_19) hr) hrun hended ⟨_, _, rfl, ?_, ⟨_, rfl⟩, hW, hsame.mono (by decide) (by decide)⟩
  show Q0 Z p1 h0 n0 _ T5.heap _
  rw [eh5]
  exact ⟨rfl, N5⟩
set_option maxRecDepth 65536 in
set_option maxHeartbeats 40000000 in
theorem comes_1 {Post : Tables → Env → Array Value → State → Outcome → State → Prop} (hpost : ∀ tb e args s v u, (limb_1_1.after args s (.returned v) u = true ∧ limb_1_2.after args s (.returned v) u = true ∧ True) → FrameEnd s (.returned v) u (Jvm.fieldLocs frame_1_writes args s ++ Jvm.arrayLocs frame_1_arrays args s ++ Jvm.staticLocs frame_1_statics s) 0 0 → Post tb e args s (.returned v) u) :
    ArmFor flags0 classFile x code maxLocals ret World_1 tables_1 room_1 Calls_1 rest_1 Pre_1 Post := by
  intro l hfl _ _ p e ha hc hk s m args below hf hA hF happ hP
  obtain ⟨hcalls, hrest, hpre⟩ := hP
  obtain ⟨-, -, -, hnamed, -, -, -, hat⟩ := (Spec.applies_iff hf).mp happ
  obtain ⟨hg, hn⟩ := and_e (Cond.before_iff.mp (show (Jvm.Cond.and given_1 narrow_1).before args s = true from hpre))
  obtain ⟨g1, g2⟩ := and_e hg
  obtain ⟨w0, rfl⟩ : ∃ w0 : Value, args = #[w0] := by
    have hs : args.size = 1 := by simpa [Cond.value, given_1] using g1
    obtain ⟨L⟩ := args
    match L, hs with
    | [w0], _ => exact ⟨w0, rfl⟩
  have hw := fun d (hd : d ∈ tables_1) => atoms_spec (ws := Jvm.Cond.code x code maxLocals ret :: tables_1) hat d (List.mem_cons_of_mem _ hd)
  have hfit : Fit s := fun {y c} hc i hi => by
    obtain ⟨ha, rfl⟩ := Array.getElem?_eq_some_iff.mp hc
    have q := List.all_eq_true.mp ((Array.all_eq_true_iff_forall_mem.mp hF) _ (Array.getElem_mem ha)) i (List.mem_range.mpr hi)
    simpa [Array.getElem?_eq_getElem hi] using q
  obtain ⟨i0, ei0⟩ := is_v g2
  obtain rfl : w0 = (.int i0) := Option.some.inj ei0
  obtain ⟨n, o, h1, h2, h3, _, L, rfl, ⟨rfl, N⟩, hq⟩ := rm0 l s _ hw tables_1 i0 s.heap s.heap.size (Nat.le_refl _) p e ha hc hk s m _ below hf ((Spec.applies_iff_loose hf).mp happ).1 ⟨rfl, State.Warmed39.refl s, rfl⟩ trivial
  refine ⟨n, _, h1, h2, h3, hpost _ _ _ _ _ _ ⟨Cond.after_iff.mpr rfl, Cond.after_iff.mpr (eq_i res_at (Term.int_eval (1)) rfl), trivial⟩ ⟨hq.1, hq.2.1, (hq.2.2.sift fun y hy => Or.inr (N y hy)).mono (by decide) (by decide)⟩⟩
theorem main_1_1 : Claimed_1_1 := comes_1 fun _ _ _ _ _ _ h hF => ⟨h.1, hF⟩
theorem main_1_2 : Claimed_1_2 := comes_1 fun _ _ _ _ _ _ h hF => ⟨h.2.1, hF⟩
end Jvm.Pilot.@@N@@
namespace Jvm.Pilot.@@N@@
open Jvm Jvm.ClassFile Sem Op Lib Jvm.Free Jvm.Stand Jvm.Pilot.@@N@@.Jvm.D
/-! MADE BY PROGRAM (witnessworld.py) out of the Statement's table words and the real class files: 12 classes; the members and pool entries that the words name. The judged class is class 1, her method 2. -/
namespace start1
open Jvm.ClassFile
def u (s : String) : CpInfo := .utf8 (stringToUtf16 s)
/-- a pool by its gaps: so many unusable entries, then the entry; so many at the end -/
def gap : Nat → List CpInfo → List CpInfo
  | 0, r => r
  | n + 1, r => .unusable :: gap n r
def poolList (es : List (Nat × CpInfo)) (last : Nat) : List CpInfo := es.foldr (fun e r => gap e.1 (e.2 :: r)) (gap last [])
def pool (es : List (Nat × CpInfo)) (last : Nat) : Array CpInfo := ⟨poolList es last⟩
def fileOf (pool : Array CpInfo) (this : Nat) (attrs : Array Attribute := #[]) (ms : Array MethodInfo := #[]) (fl : Nat := 33) (sup : Nat := 0) (ifs : Array Nat := #[]) (fds : Array FieldInfo := #[]) : ClassFile where
  minorVersion := 0
  majorVersion := 65
  constantPool := pool
  accessFlags := fl
  thisClass := this
  superClass := sup
  interfaces := ifs
  fields := fds
  methods := ms
  attributes := attrs
def plain (name : String) (sup : Option ClassId) : Class where
  name := name
  kind := .ordinary
  loader := none
  accessFlags := 33
  super := sup
  interfaces := #[]
  cf := none
  fields := #[]
  methods := #[]
  instanceTypes := #[]
  staticTypes := #[]
  resolved := #[]
  callSites := []
  init := .initialized
  statics := none
  mirror := none

def pool0 : Array CpInfo := pool [(5, u "<init>"), (0, u "()V"), (1, .class_ 10), (1, u "java/lang/Object")] 113

def k0m0 : Method := { name := "<init>", desc := "()V", sig := { parameters := [], returnType := none }, accessFlags := 1, code := none }
/-- java/lang/Object -/
def k0 : Class := { plain "java/lang/Object" none with
  accessFlags := 33
  interfaces := #[]
  cf := some (fileOf pool0 8 #[] #[{ accessFlags := 1, nameIndex := 5, descriptorIndex := 6, attributes := #[] }] 33 0 #[] #[])
  fields := #[]
  methods := #[k0m0]
  instanceTypes := #[]
  staticTypes := #[]
  resolved := Array.replicate 124 none
  statics := none }

def pool1 : Array CpInfo := pool [(2, .class_ 4), (1, u "java/lang/Object"), (0, u "<init>"), (0, u "()V"), (0, .long 4294977024), (1, .methodref 10 11), (0, .class_ 12), (0, .nameAndType 13 14), (0, u "com/example/outcomery/outcomery/Primitive"), (0, u "isXmlSpace"), (0, u "(C)Z"), (0, .methodref 16 17), (0, .class_ 18), (0, .nameAndType 19 14), (0, u "com/example/outcomery/outcomery/PrimitiveIsXmlSpacePinLaw"), (0, u "expected"), (3, u "law"), (0, u "(I)Z")] 2

def k1m0 : Method := { name := "<init>", desc := "()V", sig := { parameters := [], returnType := none }, accessFlags := 2, code := none }
def k1c1 : Code := { maxStack := 4, maxLocals := 3, code := method_2_code, exceptionTable := #[], attributes := #[] }
def k1m1 : Method := { name := "expected", desc := "(C)Z", sig := { parameters := [.char], returnType := some .boolean }, accessFlags := 10, code := some k1c1 }
def k1c2 : Code := { maxStack := 2, maxLocals := 2, code := code, exceptionTable := #[], attributes := #[] }
def k1m2 : Method := { name := "law", desc := "(I)Z", sig := { parameters := [.int], returnType := some .boolean }, accessFlags := 9, code := some k1c2 }
/-- com/example/outcomery/outcomery/PrimitiveIsXmlSpacePinLaw -/
def k1 : Class := { plain "com/example/outcomery/outcomery/PrimitiveIsXmlSpacePinLaw" (some 0) with
  accessFlags := 49
  interfaces := #[]
  cf := some (fileOf pool1 16 #[] #[{ accessFlags := 2, nameIndex := 5, descriptorIndex := 6, attributes := #[] }, { accessFlags := 10, nameIndex := 19, descriptorIndex := 14, attributes := #[] }, { accessFlags := 9, nameIndex := 23, descriptorIndex := 24, attributes := #[] }] 49 2 #[] #[])
  fields := #[]
  methods := #[k1m0, k1m1, k1m2]
  instanceTypes := #[]
  staticTypes := #[]
  resolved := Array.replicate 27 none
  statics := none }

def pool2 : Array CpInfo := pool [(1, .class_ 2), (0, u "java/lang/constant/Constable"), (0, .class_ 4), (0, u "java/lang/Object")] 6

/-- java/lang/constant/Constable -/
def k2 : Class := { plain "java/lang/constant/Constable" (some 0) with
  accessFlags := 1537
  interfaces := #[]
  cf := some (fileOf pool2 1 #[] #[] 1537 3 #[] #[])
  fields := #[]
  methods := #[]
  instanceTypes := #[]
  staticTypes := #[]
  resolved := Array.replicate 11 none
  statics := none }

def pool3 : Array CpInfo := pool [(1, .class_ 2), (0, u "java/lang/Comparable"), (0, .class_ 4), (0, u "java/lang/Object")] 7

/-- java/lang/Comparable -/
def k3 : Class := { plain "java/lang/Comparable" (some 0) with
  accessFlags := 1537
  interfaces := #[]
  cf := some (fileOf pool3 1 #[] #[] 1537 3 #[] #[])
  fields := #[]
  methods := #[]
  instanceTypes := #[]
  staticTypes := #[]
  resolved := Array.replicate 12 none
  statics := none }

def pool4 : Array CpInfo := pool [(1, .class_ 2), (0, u "java/io/Serializable"), (0, .class_ 4), (0, u "java/lang/Object")] 2

/-- java/io/Serializable -/
def k4 : Class := { plain "java/io/Serializable" (some 0) with
  accessFlags := 1537
  interfaces := #[]
  cf := some (fileOf pool4 1 #[] #[] 1537 3 #[] #[])
  fields := #[]
  methods := #[]
  instanceTypes := #[]
  staticTypes := #[]
  resolved := Array.replicate 7 none
  statics := none }

def pool5 : Array CpInfo := pool [(2, .class_ 4), (1, u "java/lang/Enum"), (0, u "name"), (0, u "Ljava/lang/String;"), (2, u "ordinal"), (0, u "I"), (1, .class_ 14), (1, u "java/lang/Object"), (4, u "hash"), (86, .class_ 108), (1, u "java/lang/Enum$EnumDesc"), (2, .class_ 112), (0, u "java/lang/constant/Constable"), (0, .class_ 114), (0, u "java/lang/Comparable"), (0, .class_ 116), (0, u "java/io/Serializable")] 87

/-- java/lang/Enum -/
def k5 : Class := { plain "java/lang/Enum" (some 0) with
  accessFlags := 1057
  interfaces := #[2, 3, 4]
  cf := some (fileOf pool5 2 #[.nestMembers #[106]] #[] 1057 12 #[111, 113, 115] #[{ accessFlags := 18, nameIndex := 5, descriptorIndex := 6, attributes := #[] }, { accessFlags := 18, nameIndex := 9, descriptorIndex := 10, attributes := #[] }, { accessFlags := 2, nameIndex := 19, descriptorIndex := 10, attributes := #[] }])
  fields := #[{ name := "name", type := (.object "java/lang/String"), accessFlags := 18, slot := 0, constantValue := 0 }, { name := "ordinal", type := .int, accessFlags := 18, slot := 1, constantValue := 0 }, { name := "hash", type := .int, accessFlags := 2, slot := 2, constantValue := 0 }]
  methods := #[]
  instanceTypes := #[(.object "java/lang/String"), .int, .int]
  staticTypes := #[]
  resolved := Array.replicate 204 none
  statics := none }

def pool6 : Array CpInfo := pool [(1, .class_ 2), (0, u "com/example/outcomery/outcomery/Primitive"), (2, u "BOOLEAN"), (0, u "Lcom/example/outcomery/outcomery/Primitive;"), (2, u "INTEGER"), (2, u "DECIMAL"), (2, u "POSITIVE_INT"), (2, u "UNSIGNED_INT"), (2, u "STRING"), (2, u "MARKDOWN"), (2, u "XHTML"), (2, u "CODE"), (2, u "ID"), (2, u "URI"), (2, u "CANONICAL"), (2, u "URL"), (2, u "UUID"), (2, u "ABSOLUTE_URI"), (2, u "OID"), (2, u "R4_OID"), (2, u "BASE64_BINARY"), (2, u "INSTANT"), (2, u "DATE"), (2, u "DATE_TIME"), (2, u "TIME"), (2, u "R4_TIME"), (2, u "$VALUES"), (0, u "[Lcom/example/outcomery/outcomery/Primitive;"), (6, .class_ 85), (1, u "java/lang/Enum"), (8, u "kind"), (0, u "Lcom/example/outcomery/outcomery/JsonValue$Kind;"), (2, u "expected"), (0, u "Ljava/lang/String;"), (11, u "INTEGER_FORM"), (0, u "Ljava/util/regex/Pattern;"), (18, u "DECIMAL_FORM"), (39, u "UUID_FORM"), (12, u "INSTANT_FORM"), (6, u "DATE_FORM"), (2, u "DATE_TIME_FORM"), (2, u "TIME_FORM"), (2, u "R4_TIME_FORM"), (24, u "(C)Z"), (25, u "isXmlSpace"), (155, u "YEAR"), (3, u "MONTH"), (2, u "DAY"), (2, u "TIME_ZONED"), (2, u "OID_SCHEME")] 21

def k6c0 : Code := { maxStack := 2, maxLocals := 1, code := prog_27_method_16_code, exceptionTable := #[], attributes := #[] }
def k6m0 : Method := { name := "isXmlSpace", desc := "(C)Z", sig := { parameters := [.char], returnType := some .boolean }, accessFlags := 8, code := some k6c0 }
/-- com/example/outcomery/outcomery/Primitive -/
def k6 : Class := { plain "com/example/outcomery/outcomery/Primitive" (some 5) with
  accessFlags := 16432
  interfaces := #[]
  cf := some (fileOf pool6 1 #[] #[{ accessFlags := 8, nameIndex := 251, descriptorIndex := 225, attributes := #[] }] 16432 83 #[] #[{ accessFlags := 16409, nameIndex := 5, descriptorIndex := 6, attributes := #[] }, { accessFlags := 16409, nameIndex := 9, descriptorIndex := 6, attributes := #[] }, { accessFlags := 16409, nameIndex := 12, descriptorIndex := 6, attributes := #[] }, { accessFlags := 16409, nameIndex := 15, descriptorIndex := 6, attributes := #[] }, { accessFlags := 16409, nameIndex := 18, descriptorIndex := 6, attributes := #[] }, { accessFlags := 16409, nameIndex := 21, descriptorIndex := 6, attributes := #[] }, { accessFlags := 16409, nameIndex := 24, descriptorIndex := 6, attributes := #[] }, { accessFlags := 16409, nameIndex := 27, descriptorIndex := 6, attributes := #[] }, { accessFlags := 16409, nameIndex := 30, descriptorIndex := 6, attributes := #[] }, { accessFlags := 16409, nameIndex := 33, descriptorIndex := 6, attributes := #[] }, { accessFlags := 16409, nameIndex := 36, descriptorIndex := 6, attributes := #[] }, { accessFlags := 16409, nameIndex := 39, descriptorIndex := 6, attributes := #[] }, { accessFlags := 16409, nameIndex := 42, descriptorIndex := 6, attributes := #[] }, { accessFlags := 16409, nameIndex := 45, descriptorIndex := 6, attributes := #[] }, { accessFlags := 16409, nameIndex := 48, descriptorIndex := 6, attributes := #[] }, { accessFlags := 16409, nameIndex := 51, descriptorIndex := 6, attributes := #[] }, { accessFlags := 16409, nameIndex := 54, descriptorIndex := 6, attributes := #[] }, { accessFlags := 16409, nameIndex := 57, descriptorIndex := 6, attributes := #[] }, { accessFlags := 16409, nameIndex := 60, descriptorIndex := 6, attributes := #[] }, { accessFlags := 16409, nameIndex := 63, descriptorIndex := 6, attributes := #[] }, { accessFlags := 16409, nameIndex := 66, descriptorIndex := 6, attributes := #[] }, { accessFlags := 16409, nameIndex := 69, descriptorIndex := 6, attributes := #[] }, { accessFlags := 16409, nameIndex := 72, descriptorIndex := 6, attributes := #[] }, { accessFlags := 26, nameIndex := 407, descriptorIndex := 99, attributes := #[] }, { accessFlags := 26, nameIndex := 411, descriptorIndex := 99, attributes := #[] }, { accessFlags := 26, nameIndex := 414, descriptorIndex := 99, attributes := #[] }, { accessFlags := 26, nameIndex := 417, descriptorIndex := 99, attributes := #[] }, { accessFlags := 26, nameIndex := 184, descriptorIndex := 112, attributes := #[] }, { accessFlags := 26, nameIndex := 191, descriptorIndex := 112, attributes := #[] }, { accessFlags := 26, nameIndex := 194, descriptorIndex := 112, attributes := #[] }, { accessFlags := 26, nameIndex := 197, descriptorIndex := 112, attributes := #[] }, { accessFlags := 26, nameIndex := 200, descriptorIndex := 112, attributes := #[] }, { accessFlags := 26, nameIndex := 171, descriptorIndex := 112, attributes := #[] }, { accessFlags := 26, nameIndex := 111, descriptorIndex := 112, attributes := #[] }, { accessFlags := 26, nameIndex := 131, descriptorIndex := 112, attributes := #[] }, { accessFlags := 26, nameIndex := 420, descriptorIndex := 99, attributes := #[] }, { accessFlags := 18, nameIndex := 94, descriptorIndex := 95, attributes := #[] }, { accessFlags := 18, nameIndex := 98, descriptorIndex := 99, attributes := #[] }, { accessFlags := 4122, nameIndex := 75, descriptorIndex := 76, attributes := #[] }])
  fields := #[{ name := "BOOLEAN", type := (.object "com/example/outcomery/outcomery/Primitive"), accessFlags := 16409, slot := 0, constantValue := 0 }, { name := "INTEGER", type := (.object "com/example/outcomery/outcomery/Primitive"), accessFlags := 16409, slot := 1, constantValue := 0 }, { name := "DECIMAL", type := (.object "com/example/outcomery/outcomery/Primitive"), accessFlags := 16409, slot := 2, constantValue := 0 }, { name := "POSITIVE_INT", type := (.object "com/example/outcomery/outcomery/Primitive"), accessFlags := 16409, slot := 3, constantValue := 0 }, { name := "UNSIGNED_INT", type := (.object "com/example/outcomery/outcomery/Primitive"), accessFlags := 16409, slot := 4, constantValue := 0 }, { name := "STRING", type := (.object "com/example/outcomery/outcomery/Primitive"), accessFlags := 16409, slot := 5, constantValue := 0 }, { name := "MARKDOWN", type := (.object "com/example/outcomery/outcomery/Primitive"), accessFlags := 16409, slot := 6, constantValue := 0 }, { name := "XHTML", type := (.object "com/example/outcomery/outcomery/Primitive"), accessFlags := 16409, slot := 7, constantValue := 0 }, { name := "CODE", type := (.object "com/example/outcomery/outcomery/Primitive"), accessFlags := 16409, slot := 8, constantValue := 0 }, { name := "ID", type := (.object "com/example/outcomery/outcomery/Primitive"), accessFlags := 16409, slot := 9, constantValue := 0 }, { name := "URI", type := (.object "com/example/outcomery/outcomery/Primitive"), accessFlags := 16409, slot := 10, constantValue := 0 }, { name := "CANONICAL", type := (.object "com/example/outcomery/outcomery/Primitive"), accessFlags := 16409, slot := 11, constantValue := 0 }, { name := "URL", type := (.object "com/example/outcomery/outcomery/Primitive"), accessFlags := 16409, slot := 12, constantValue := 0 }, { name := "UUID", type := (.object "com/example/outcomery/outcomery/Primitive"), accessFlags := 16409, slot := 13, constantValue := 0 }, { name := "ABSOLUTE_URI", type := (.object "com/example/outcomery/outcomery/Primitive"), accessFlags := 16409, slot := 14, constantValue := 0 }, { name := "OID", type := (.object "com/example/outcomery/outcomery/Primitive"), accessFlags := 16409, slot := 15, constantValue := 0 }, { name := "R4_OID", type := (.object "com/example/outcomery/outcomery/Primitive"), accessFlags := 16409, slot := 16, constantValue := 0 }, { name := "BASE64_BINARY", type := (.object "com/example/outcomery/outcomery/Primitive"), accessFlags := 16409, slot := 17, constantValue := 0 }, { name := "INSTANT", type := (.object "com/example/outcomery/outcomery/Primitive"), accessFlags := 16409, slot := 18, constantValue := 0 }, { name := "DATE", type := (.object "com/example/outcomery/outcomery/Primitive"), accessFlags := 16409, slot := 19, constantValue := 0 }, { name := "DATE_TIME", type := (.object "com/example/outcomery/outcomery/Primitive"), accessFlags := 16409, slot := 20, constantValue := 0 }, { name := "TIME", type := (.object "com/example/outcomery/outcomery/Primitive"), accessFlags := 16409, slot := 21, constantValue := 0 }, { name := "R4_TIME", type := (.object "com/example/outcomery/outcomery/Primitive"), accessFlags := 16409, slot := 22, constantValue := 0 }, { name := "YEAR", type := (.object "java/lang/String"), accessFlags := 26, slot := 23, constantValue := 0 }, { name := "MONTH", type := (.object "java/lang/String"), accessFlags := 26, slot := 24, constantValue := 0 }, { name := "DAY", type := (.object "java/lang/String"), accessFlags := 26, slot := 25, constantValue := 0 }, { name := "TIME_ZONED", type := (.object "java/lang/String"), accessFlags := 26, slot := 26, constantValue := 0 }, { name := "INSTANT_FORM", type := (.object "java/util/regex/Pattern"), accessFlags := 26, slot := 27, constantValue := 0 }, { name := "DATE_FORM", type := (.object "java/util/regex/Pattern"), accessFlags := 26, slot := 28, constantValue := 0 }, { name := "DATE_TIME_FORM", type := (.object "java/util/regex/Pattern"), accessFlags := 26, slot := 29, constantValue := 0 }, { name := "TIME_FORM", type := (.object "java/util/regex/Pattern"), accessFlags := 26, slot := 30, constantValue := 0 }, { name := "R4_TIME_FORM", type := (.object "java/util/regex/Pattern"), accessFlags := 26, slot := 31, constantValue := 0 }, { name := "UUID_FORM", type := (.object "java/util/regex/Pattern"), accessFlags := 26, slot := 32, constantValue := 0 }, { name := "INTEGER_FORM", type := (.object "java/util/regex/Pattern"), accessFlags := 26, slot := 33, constantValue := 0 }, { name := "DECIMAL_FORM", type := (.object "java/util/regex/Pattern"), accessFlags := 26, slot := 34, constantValue := 0 }, { name := "OID_SCHEME", type := (.object "java/lang/String"), accessFlags := 26, slot := 35, constantValue := 0 }, { name := "kind", type := (.object "com/example/outcomery/outcomery/JsonValue$Kind"), accessFlags := 18, slot := 3, constantValue := 0 }, { name := "expected", type := (.object "java/lang/String"), accessFlags := 18, slot := 4, constantValue := 0 }, { name := "$VALUES", type := (.array (.object "com/example/outcomery/outcomery/Primitive")), accessFlags := 4122, slot := 36, constantValue := 0 }]
  methods := #[k6m0]
  instanceTypes := #[(.object "java/lang/String"), .int, .int, (.object "com/example/outcomery/outcomery/JsonValue$Kind"), (.object "java/lang/String")]
  staticTypes := #[(.object "com/example/outcomery/outcomery/Primitive"), (.object "com/example/outcomery/outcomery/Primitive"), (.object "com/example/outcomery/outcomery/Primitive"), (.object "com/example/outcomery/outcomery/Primitive"), (.object "com/example/outcomery/outcomery/Primitive"), (.object "com/example/outcomery/outcomery/Primitive"), (.object "com/example/outcomery/outcomery/Primitive"), (.object "com/example/outcomery/outcomery/Primitive"), (.object "com/example/outcomery/outcomery/Primitive"), (.object "com/example/outcomery/outcomery/Primitive"), (.object "com/example/outcomery/outcomery/Primitive"), (.object "com/example/outcomery/outcomery/Primitive"), (.object "com/example/outcomery/outcomery/Primitive"), (.object "com/example/outcomery/outcomery/Primitive"), (.object "com/example/outcomery/outcomery/Primitive"), (.object "com/example/outcomery/outcomery/Primitive"), (.object "com/example/outcomery/outcomery/Primitive"), (.object "com/example/outcomery/outcomery/Primitive"), (.object "com/example/outcomery/outcomery/Primitive"), (.object "com/example/outcomery/outcomery/Primitive"), (.object "com/example/outcomery/outcomery/Primitive"), (.object "com/example/outcomery/outcomery/Primitive"), (.object "com/example/outcomery/outcomery/Primitive"), (.object "java/lang/String"), (.object "java/lang/String"), (.object "java/lang/String"), (.object "java/lang/String"), (.object "java/util/regex/Pattern"), (.object "java/util/regex/Pattern"), (.object "java/util/regex/Pattern"), (.object "java/util/regex/Pattern"), (.object "java/util/regex/Pattern"), (.object "java/util/regex/Pattern"), (.object "java/util/regex/Pattern"), (.object "java/util/regex/Pattern"), (.object "java/lang/String"), (.array (.object "com/example/outcomery/outcomery/Primitive"))]
  resolved := Array.replicate 442 none
  statics := none }

def pool7 : Array CpInfo := pool [(1, u "java/lang/Cloneable"), (0, .class_ 1), (0, u "java/lang/Object"), (0, .class_ 3)] 3

/-- java/lang/Cloneable -/
def k7 : Class := { plain "java/lang/Cloneable" (some 0) with
  accessFlags := 1537
  interfaces := #[]
  cf := some (fileOf pool7 2 #[] #[] 1537 4 #[] #[])
  fields := #[]
  methods := #[]
  instanceTypes := #[]
  staticTypes := #[]
  resolved := Array.replicate 8 none
  statics := none }

/-- the primitive byte -/
def k8 : Class := { plain "byte" none with kind := .primitive 'B', accessFlags := 0x411 }
/-- [B -/
def k9 : Class := { plain "[B" (some 0) with kind := .array 8 .byte, interfaces := #[7, 4], accessFlags := 1041 }

/-- the primitive int -/
def k10 : Class := { plain "int" none with kind := .primitive 'I', accessFlags := 0x411 }
/-- [I -/
def k11 : Class := { plain "[I" (some 0) with kind := .array 10 .int, interfaces := #[7, 4], accessFlags := 1041 }

def heap : Heap := #[]
def classes : Array Class := #[k0, k1, k2, k3, k4, k5, k6, k7, k8, k9, k10, k11]
def interned : List (Array UInt16 × Addr) := []
def slotsUsed : Nat := 0
def theMethod : MethodId := ⟨1, 2⟩
def args0 : Array Value := #[.int 5]
def aboutOver (below : List Frame) : State where
  vm := { classes := classes, interned := interned.toArray }
  heap := heap
  slotsUsed := slotsUsed
  threads := #[{ frames := .invoking theMethod args0 :: below }]
def below0 : List Frame := [.native { method := ⟨0, 0⟩, args := #[] }]
def about1 : State := aboutOver below0
def p0 : Program := .bare "" "" ""
def e0 : Env := launch0.env 0 0 0
theorem w_frames : about1.frames = Frame.invoking theMethod args0 :: below0 := rfl
set_option maxRecDepth 65536 in
theorem w_args : argsFit about1.vm theMethod args0 = true := by decide +kernel
set_option maxRecDepth 65536 in
theorem w_heap : heapFits about1 = true := by decide +kernel
set_option maxRecDepth 65536 in
theorem w_runnable : about1.curStatus? = some .runnable := by decide +kernel
set_option maxRecDepth 65536 in
theorem w_alone : about1.alone = true := by decide +kernel
set_option maxRecDepth 65536 in
theorem w_named : about1.methodNamed? x = some theMethod := by decide +kernel
set_option maxRecDepth 65536 in
theorem w_hears : about1.hears theMethod below0 = true := by decide +kernel
set_option maxRecDepth 65536 in
theorem w_ripe : about1.ripe theMethod args0 below0 = true := by decide +kernel
theorem w_running : about1.status = .running := rfl
set_option maxRecDepth 65536 in
theorem w_room : about1.hasRoom e0.platform room_1 = true :=
  launch0.hasRoom_least _ room_1 (by decide +kernel) (by decide +kernel) (by decide +kernel) (by decide +kernel) (by decide +kernel) (by decide +kernel)
theorem allAtoms_all (ts : List Jvm.Cond) (a : Array Jvm.Value) (st : Jvm.State) : (allAtoms ts).before a st = ts.all (fun c => c.before a st) := by
  induction ts with
  | nil => rfl
  | cons c t ih =>
    show (Jvm.Cond.and c (allAtoms t)).before a st = _
    rw [Jvm.Cond.before_and, ih, List.all_cons]
def words1 : List Jvm.Cond := Jvm.Cond.code x code maxLocals ret :: tables_1
/-- a 'code' word, met by the world's own term for the bytes: nothing is compared byte by byte -/
theorem code_word {y : MethodName} {bytes : ByteArray} {mx : Nat} {rt : Option FieldType} {a : Array Value} {s : State} {m : MethodId} {meth : Method} {c : Code} (h1 : s.methodNamed? y = some m) (h2 : s.vm.method? m = some meth) (h3 : meth.code = some c) (h4 : c.code = bytes)
    (h5 : (c.maxLocals == mx && c.exceptionTable.isEmpty && decide (c.maxStack ≤ mostOperands) && decide (meth.sig.returnType = rt) && !meth.locks && decide (parseMethodDescriptor y.desc = some meth.sig)) = true) : (Jvm.Cond.code y bytes mx rt).before a s = true := by
  simp only [Bool.and_eq_true, beq_iff_eq, Bool.not_eq_true', decide_eq_true_eq] at h5
  obtain ⟨⟨⟨⟨⟨g1, g2⟩, g3⟩, g4⟩, g5⟩, g6⟩ := h5
  simp [Cond.before, Cond.holds, Cond.value, h1, h2, h3, h4, g1, g2, g3, g4, g5, g6]
def isCode : Jvm.Cond → Bool
  | .code _ _ _ _ => true
  | _ => false
theorem all_split {L : List Jvm.Cond} {P : Jvm.Cond → Bool} (h1 : L.all (fun c => isCode c || P c) = true) (h2 : ∀ c ∈ L.filter isCode, P c = true) : L.all P = true := by
  refine List.all_eq_true.mpr fun c hc => ?_
  have h := List.all_eq_true.mp h1 c hc
  rcases Bool.eq_false_or_eq_true (isCode c) with hi | hi
  · exact h2 c (List.mem_filter.mpr ⟨hc, hi⟩)
  · simpa [hi] using h
set_option maxRecDepth 65536 in
theorem w_c0 : (Jvm.Cond.code x code maxLocals ret).before args0 about1 = true := code_word (m := ⟨1, 2⟩) (meth := k1m2) (c := k1c2) (by decide +kernel) rfl rfl rfl (by decide +kernel)
set_option maxRecDepth 65536 in
theorem w_c1 : (Jvm.Cond.code ({ cls := "com/example/outcomery/outcomery/Primitive", name := "isXmlSpace", desc := "(C)Z" } : Jvm.MethodName) prog_27_method_16_code (1 : Nat) (Option.some Jvm.ClassFile.FieldType.boolean)).before args0 about1 = true := code_word (m := ⟨6, 0⟩) (meth := k6m0) (c := k6c0) (by decide +kernel) rfl rfl rfl (by decide +kernel)
set_option maxRecDepth 65536 in
theorem w_c2 : (Jvm.Cond.code ({ cls := "com/example/outcomery/outcomery/PrimitiveIsXmlSpacePinLaw", name := "expected", desc := "(C)Z" } : Jvm.MethodName) method_2_code (3 : Nat) (Option.some Jvm.ClassFile.FieldType.boolean)).before args0 about1 = true := code_word (m := ⟨1, 1⟩) (meth := k1m1) (c := k1c1) (by decide +kernel) rfl rfl rfl (by decide +kernel)
def codes1 : List Jvm.Cond := [Jvm.Cond.code x code maxLocals ret, Jvm.Cond.code ({ cls := "com/example/outcomery/outcomery/Primitive", name := "isXmlSpace", desc := "(C)Z" } : Jvm.MethodName) prog_27_method_16_code (1 : Nat) (Option.some Jvm.ClassFile.FieldType.boolean), Jvm.Cond.code ({ cls := "com/example/outcomery/outcomery/PrimitiveIsXmlSpacePinLaw", name := "expected", desc := "(C)Z" } : Jvm.MethodName) method_2_code (3 : Nat) (Option.some Jvm.ClassFile.FieldType.boolean)]
set_option maxRecDepth 65536 in
theorem codes_eq : words1.filter isCode = codes1 := rfl
theorem w_codes : ∀ c ∈ words1.filter isCode, c.before args0 about1 = true := by
  rw [codes_eq]
  intro c hc
  simp only [codes1, List.mem_cons, List.not_mem_nil, or_false] at hc
  rcases hc with rfl | rfl | rfl
  · exact w_c0
  · exact w_c1
  · exact w_c2
set_option maxRecDepth 65536 in
theorem w_t1 : words1.all (fun c => isCode c || c.before args0 about1) = true := by decide +kernel
theorem w_tables : (allAtoms (Jvm.Cond.code x code maxLocals ret :: tables_1)).before args0 about1 = true := by
  rw [allAtoms_all]
  show words1.all (fun c => c.before args0 about1) = true
  refine all_split ?_ w_codes
  rw [w_t1]
set_option maxRecDepth 65536 in
theorem w_case : (Jvm.Cond.and given_1 narrow_1).before args0 about1 = true := by decide +kernel
theorem w_applies : (headSpec (Jvm.Cond.code x code maxLocals ret :: tables_1) room_1).applies x e0.platform about1 = true :=
  (Spec.applies_iff w_frames).mpr ⟨w_running, w_runnable, w_alone, w_named, w_hears, w_ripe, w_room, w_tables⟩
theorem atStart : AtStart classFile x code maxLocals ret World_1 tables_1 room_1 Calls_1 rest_1 Pre_1 launch0 p0 e0 about1 theMethod args0 below0 :=
  ⟨lists_1, trivial, launch0.admits_env _ _ _, launch0.least_env, fairChoices_fair.cas, fairChoices_fair.clock, w_frames, w_args, w_heap, w_applies, trivial, trivial, w_case⟩
end start1
theorem witness_1 : WitnessClaimed_1 := ⟨start1.p0, start1.e0, start1.about1, start1.theMethod, start1.args0, start1.below0, start1.atStart⟩
end Jvm.Pilot.@@N@@
