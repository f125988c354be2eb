import JvmDerived
import JvmDerived.Pilot.@@N@@Statement
import JvmDerived.Pilot.@@N@@Code
set_option linter.unusedVariables false
set_option linter.unusedSimpArgs false
namespace Jvm.RoadKit
open Sem ClassFile Op Lib Jvm.Stand Jvm.Free Jvm.LawKit
section New
variable {p : Program} {l : Launch} {e : Env} {R : Room} {s : State} {m : MethodId} {args : Array Value} {below : List Frame} {meth : Method} {c : Code} {T : State} {locs : List Loc} {cells slots : Nat}
theorem retI (X : Stand p l e R s m args below meth c T locs cells slots) (hx : p.tables.exec = Jvm.exec) {pc : Nat} {Ls : Array Slot} {z : Int32} {rest : List Value} (hret : meth.sig.returnType = some .int) (hd : decode c.code pc = .ok (.ireturn, 1)) {fs : List Frame}
    (hl : ∀ (f : JFrame) (acts : List Action), f.method = m → f.locked = none → f.entered = [] → (doReturn e (T.setTop f) acts (some (.int z))).1 = T.setFrames fs) : Steps p.tables e below (T.setTop (mkF m pc Ls (.int z :: rest))) (T.setFrames fs) := by
  have hm' : T.vm.method? m = some meth := X.method'
  have hn : narrow .int (.int z) = .int z := rfl
  show Steps p.tables e below (T.setTop { method := m, pc := pc, locals := Ls, stack := _ :: rest, locked := none }) _
  jvm_step X.here [X.here.top, hx, hd, hm', hret, hn]
  first | (intro acts; rw [hl _ acts rfl rfl rfl]) | rw [hl _ _ rfl rfl rfl]
  exact Steps.refl _
end New
end Jvm.RoadKit
namespace Jvm.Pilot.@@N@@
open Jvm Jvm.ClassFile Sem Op Lib Jvm.Free Jvm.Stand Jvm.LawKit Jvm.RoadKit Bundle Jvm.Pilot.@@N@@.Jvm.D
def Gl (p : Program) (e : Env) (below : List Frame) (Q : Outcome → State → Prop) (A : State) : Prop := ∃ t o, Steps p.tables e below A t ∧ t.status = .running ∧ Ended t below o ∧ Q o t
theorem Gl.st {p : Program} {e : Env} {below : List Frame} {Q : Outcome → State → Prop} {A B : State} (k : ∀ t, Steps p.tables e below B t → Steps p.tables e below A t) (h : Gl p e below Q B) : Gl p e below Q A := by
  obtain ⟨t, o, h1, r⟩ := h
  exact ⟨t, o, k t h1, r⟩
theorem Gl.cast {p : Program} {e : Env} {below : List Frame} {Q : Outcome → State → Prop} {A B : State} (k : A = B) (h : Gl p e below Q B) : Gl p e below Q A := k ▸ h
theorem Gl.join {p : Program} {e : Env} {below : List Frame} {Q : Outcome → State → Prop} {A B : State} (k : Gl p e below Q A → Gl p e below Q B) (h : Gl p e below Q A) : Gl p e below Q B := k h
theorem Gl.fin {p : Program} {e : Env} {below : List Frame} {Q : Outcome → State → Prop} {A t : State} {o : Outcome} (h1 : Steps p.tables e below A t) (h2 : t.status = .running) (h3 : Ended t below o) (h4 : Q o t) : Gl p e below Q A := ⟨t, o, h1, h2, h3, h4⟩
theorem tw {a0 : Array Value} {Z : State} (hw : ∀ d ∈ tables_1, d.before a0 Z = true) (i : Nat) {d : Jvm.Cond} (h : tables_1[i]? = some d) : d.before a0 Z = true := hw _ (List.mem_of_getElem? h)
theorem ldAt {L M : Array Slot} (h : L = M) {k : Nat} {v : Slot} (q : M[k]? = some v) : L[k]? = some v := h ▸ q
theorem stAt {L M L' M' : Array Slot} {k : Nat} {v w : Value} (h : L = M) (h' : L' = M') (e : w = v) (q : storeLocals M k v = some M') : storeLocals L k w = some L' := by subst h h' e; exact q
theorem stAt' {L M L' M' : Array Slot} {k : Nat} {v w : Value} (h : L = M) (h' : L' = M') (e : w = v) (q : storeLocals M k v = some M') : storeLocals L k w = some L' := by subst h h' e; exact q
theorem szAt {L M : Array Slot} {k n : Nat} (h : k = n) (h' : L = M) (q : M.size = n) : L.size = k := by subst h h'; exact q
theorem efAt {m : MethodId} {L M : Array Slot} {f : JFrame} (h : L = M) (q : f = mkF m 0 M []) : f = mkF m 0 L [] := h ▸ q
theorem own_nb {c : Prop} [Decidable c] {a b : Int32} (ha : nar .boolean a = a) (hb : nar .boolean b = b) : nar .boolean (if c then a else b) = if c then a else b := by split <;> assumption
theorem own_eqL {args : Array Value} {s : State} {t : Term} {z : Int64} (h : (Jvm.Cond.eq t (.long z)).value args s none s [] = some true) : t.eval args s none [] s = some (.long z) := by
  obtain ⟨x, y, ha, hb, k1, k2⟩ := cmp_v (Or.inl h)
  obtain rfl : y = .long z := Option.some.inj (hb.symm.trans (long_at z))
  obtain ⟨w, rfl⟩ : ∃ w, x = .long w := k2
  rw [ha, gotT (eq_L ha hb) h]
theorem own_eqI {args : Array Value} {s : State} {t : Term} {z : Int32} (h : (Jvm.Cond.eq t (.int z)).value args s none s [] = some true) : t.eval args s none [] s = some (.int z) := by
  obtain ⟨x, y, ha, hb, k1, k2⟩ := cmp_v (Or.inl h)
  obtain rfl : y = .int z := Option.some.inj (hb.symm.trans (Term.int_eval z))
  obtain ⟨w, rfl⟩ : ∃ w, x = .int w := k2
  rw [ha, gotT (Cond.eq_ints ha hb) h]
theorem own_sta_keep {Z : State} {h h' : Heap} {C n d : String} {v : Value} {ws : List Addr} (F : Sta Z h C n d v) (K : Keep h h' ws) (q : ∀ x ∈ ws, ∀ cell : Cell, h[x]? = some cell → cell.vm.isStatics = false) : Sta Z h' C n d v := by
  obtain ⟨cf, i, k, f, a, cell, h1, h2, h3, h4, h5, h6, r⟩ := F
  exact ⟨cf, i, k, f, a, cell, h1, h2, h3, h4, K.2.1 a cell h5 (fun y => by have := q a y cell h5; rw [h6] at this; cases this), h6, r⟩
theorem own_exa_plain {Z : State} {h : Heap} {a : Addr} {C : String} (F : Exa Z h a C) : ∀ cell : Cell, h[a]? = some cell → cell.vm.isStatics = false := fun cell hc => by
  obtain ⟨c', k, h1, -, -, h4, -⟩ := F
  rw [h1] at hc; cases hc; exact h4
theorem own_arv_plain {Z : State} {h : Heap} {a : Addr} {k : ClassId} {ty : FieldType} {z : Int32} {vs : List Value} {dv : Value} (F : Arv Z h a k ty z vs dv) : ∀ cell : Cell, h[a]? = some cell → cell.vm.isStatics = false := fun cell hc => by
  obtain ⟨c', A, -⟩ := F
  have := A.1; rw [this] at hc; cases hc; exact A.plain
theorem d1_0 : decode prog_194_method_3_code 0 = .ok (.iload_n 0, 1) := by decide +kernel
theorem d1_1 : decode prog_194_method_3_code 1 = .ok (.bipush 10, 2) := by decide +kernel
theorem d1_3 : decode prog_194_method_3_code 3 = .ok (.if_icmp .eq 29, 3) := by decide +kernel
theorem d1_6 : decode prog_194_method_3_code 6 = .ok (.iload_n 0, 1) := by decide +kernel
theorem d1_7 : decode prog_194_method_3_code 7 = .ok (.bipush 13, 2) := by decide +kernel
theorem d1_9 : decode prog_194_method_3_code 9 = .ok (.if_icmp .eq 23, 3) := by decide +kernel
theorem d1_12 : decode prog_194_method_3_code 12 = .ok (.iload_n 0, 1) := by decide +kernel
theorem d1_13 : decode prog_194_method_3_code 13 = .ok (.bipush 12, 2) := by decide +kernel
theorem d1_15 : decode prog_194_method_3_code 15 = .ok (.if_icmp .eq 17, 3) := by decide +kernel
theorem d1_18 : decode prog_194_method_3_code 18 = .ok (.iload_n 0, 1) := by decide +kernel
theorem d1_19 : decode prog_194_method_3_code 19 = .ok (.sipush 8232, 3) := by decide +kernel
theorem d1_22 : decode prog_194_method_3_code 22 = .ok (.if_icmp .eq 10, 3) := by decide +kernel
theorem d1_25 : decode prog_194_method_3_code 25 = .ok (.iload_n 0, 1) := by decide +kernel
theorem d1_26 : decode prog_194_method_3_code 26 = .ok (.sipush 8233, 3) := by decide +kernel
theorem d1_29 : decode prog_194_method_3_code 29 = .ok (.if_icmp .ne 7, 3) := by decide +kernel
theorem d1_32 : decode prog_194_method_3_code 32 = .ok (.iconst 1, 1) := by decide +kernel
theorem d1_33 : decode prog_194_method_3_code 33 = .ok (.goto 4, 3) := by decide +kernel
theorem d1_36 : decode prog_194_method_3_code 36 = .ok (.iconst 0, 1) := by decide +kernel
theorem d1_37 : decode prog_194_method_3_code 37 = .ok (.ireturn, 1) := by decide +kernel
theorem pn_1 : plainName "com/example/covenant_atlas/covenantatlas/service/Spaces" = true := by first | (simp [plainName, overriddenIn]; done) | decide +kernel
theorem ef_1 (m : MethodId) (p1 : Int32) : entryFrame m #[(.int p1)] 1 = mkF m 0 #[.val (.int p1)] [] := by first | (simp [entryFrame, mkF, argsToLocals, Value.category]; done) | rfl
def Q1 (Z : State) (p1 : Int32) (h0 : Heap) (n0 : Nat) (v : Option Value) (h : Heap) (L : List Loc) : Prop := v = some (.int ((if p1 = (10 : Int32) then (1 : Int32) else (if p1 = (13 : Int32) then (1 : Int32) else (if p1 = (12 : Int32) then (1 : Int32) else (if p1 = (8232 : Int32) then (1 : Int32) else (if p1 = (8233 : Int32) then (1 : Int32) else (0 : Int32)))))))) ∧ Fr n0 L ∧ h = h0
set_option maxRecDepth 65536 in
set_option maxHeartbeats 40000000 in
theorem rm1 (l : Launch) (Z : State) (a0 : Array Value) (hw : ∀ d ∈ tables_1, d.before a0 Z = true) (ws : List Jvm.Cond) (p1 : Int32) (h0 : Heap) (n0 : Nat) (Z0 : n0 ≤ h0.size) :
    MetFree l (⟨"com/example/covenant_atlas/covenantatlas/service/Spaces", "isLineBreak", "(C)Z"⟩ : MethodName) (head1 (Jvm.Cond.code (⟨"com/example/covenant_atlas/covenantatlas/service/Spaces", "isLineBreak", "(C)Z"⟩ : MethodName) prog_194_method_3_code 1 (some .boolean) :: ws) ({ frames := 0, cells := 0, slots := 0, locals := 0 } : Room)) (fun a U => a = #[(.int p1)] ∧ Z.Warmed39 U.vm ∧ U.heap = h0) (fun _ _ _ _ _ => True) (fun _ U o U' => ∃ v L, o = .returned v ∧ Q1 Z p1 h0 n0 v U'.heap L ∧ FrameEnd U o U' L ({ frames := 0, cells := 0, slots := 0, locals := 0 } : Room).cells ({ frames := 0, cells := 0, slots := 0, locals := 0 } : Room).slots) := by
  refine MetFree.of_bodySF (plainFor_of_name pn_1) hisR ?_
  intro p e s m args below meth c s₁ Bd hml0 hP hK
  obtain ⟨rfl, hZ, hh⟩ := hP
  have hx := Bd.exec
  have hby := Bd.bytes
  have hml : c.maxLocals = 1 := hml0
  have hown : s.vm.findClass "com/example/covenant_atlas/covenantatlas/service/Spaces" = some m.cls := findClass_of_methodNamed Bd.named
  have hnm := (name_of_methodNamed Bd.named Bd.method).1
  have X0 : Stand p l e ({ frames := 0, cells := 0, slots := 0, locals := 0 } : Room) s m #[(.int p1)] below meth c s₁ [] 0 0 := Stand.of_body Bd
  have e0 : s₁.heap = h0 := by rw [← hh, Bd.state]; rfl
  have N0 := Fr.nil n0
  have K0 : Keep h0 h0 [] := Keep.refl h0 _
  refine (show Gl p e below (fun o U' => ∃ v L, o = .returned v ∧ Q1 Z p1 h0 n0 v U'.heap L ∧ FrameEnd s o U' L ({ frames := 0, cells := 0, slots := 0, locals := 0 } : Room).cells ({ frames := 0, cells := 0, slots := 0, locals := 0 } : Room).slots) (s₁.setTop (entryFrame m #[(.int p1)] 1)) from ?_)
  obtain ⟨L0, hL0⟩ : ∃ z : Array Slot, z = #[.val (.int p1)] := ⟨_, rfl⟩
  refine Gl.st (B := (s₁.setTop (mkF m 0 L0 []))) (fun t k => castTop (efAt hL0 (ef_1 m p1)) k) ?_
  refine Gl.st (B := (s₁.setTop (mkF m 1 L0 [(.int p1)]))) (fun t k => XS.iloadN X0.here hx rfl (hb hby d1_0) (ldAt hL0 rfl) k) ?_
  refine Gl.st (B := (s₁.setTop (mkF m 3 L0 [(.int (10 : Int32)), (.int p1)]))) (fun t k => XS.bipush X0.here hx rfl (hb hby d1_1) k) ?_
  obtain ⟨v37_s0_6, hv37_s0_6⟩ : ∃ z : Int32, z = (if p1 = (10 : Int32) then (1 : Int32) else (if p1 = (13 : Int32) then (1 : Int32) else (if p1 = (12 : Int32) then (1 : Int32) else (if p1 = (8232 : Int32) then (1 : Int32) else (if p1 = (8233 : Int32) then (1 : Int32) else (0 : Int32)))))) := ⟨_, rfl⟩
  refine Gl.join (A := (s₁.setTop (mkF m 37 L0 [(.int v37_s0_6)]))) (fun J3_6 => ?_) ?_
  · by_cases hc3_1 : p1 = (10 : Int32)
    · skip
      refine Gl.st (B := (s₁.setTop (mkF m 32 L0 []))) (fun t k => XS.icmpYes X0.here hx rfl (pc0 := 3) (pc' := 32) rfl (hb hby d1_3) rfl (teq hc3_1).1 (by decide) (by decide) k) ?_
      refine Gl.st (B := (s₁.setTop (mkF m 33 L0 [(.int (1 : Int32))]))) (fun t k => XS.iconst X0.here hx rfl (hb hby d1_32) k) ?_
      refine Gl.st (B := (s₁.setTop (mkF m 37 L0 [(.int (1 : Int32))]))) (fun t k => XS.goto X0.here hx rfl (pc0 := 33) (pc' := 37) rfl (hb hby d1_33) (by decide) (by decide) k) ?_
      have ev37_s0_6 : v37_s0_6 = (1 : Int32) := by rw [hv37_s0_6, if_pos hc3_1]
      rw [ev37_s0_6] at J3_6
      exact J3_6
    · skip
      refine Gl.st (B := (s₁.setTop (mkF m 6 L0 []))) (fun t k => XS.icmpNo X0.here hx rfl (hb hby d1_3) rfl (feq hc3_1).1 k) ?_
      refine Gl.st (B := (s₁.setTop (mkF m 7 L0 [(.int p1)]))) (fun t k => XS.iloadN X0.here hx rfl (hb hby d1_6) (ldAt hL0 rfl) k) ?_
      refine Gl.st (B := (s₁.setTop (mkF m 9 L0 [(.int (13 : Int32)), (.int p1)]))) (fun t k => XS.bipush X0.here hx rfl (hb hby d1_7) k) ?_
      by_cases hc9_7 : p1 = (13 : Int32)
      · skip
        refine Gl.st (B := (s₁.setTop (mkF m 32 L0 []))) (fun t k => XS.icmpYes X0.here hx rfl (pc0 := 9) (pc' := 32) rfl (hb hby d1_9) rfl (teq hc9_7).1 (by decide) (by decide) k) ?_
        refine Gl.st (B := (s₁.setTop (mkF m 33 L0 [(.int (1 : Int32))]))) (fun t k => XS.iconst X0.here hx rfl (hb hby d1_32) k) ?_
        refine Gl.st (B := (s₁.setTop (mkF m 37 L0 [(.int (1 : Int32))]))) (fun t k => XS.goto X0.here hx rfl (pc0 := 33) (pc' := 37) rfl (hb hby d1_33) (by decide) (by decide) k) ?_
        have ev37_s0_6 : v37_s0_6 = (1 : Int32) := by rw [hv37_s0_6, if_neg hc3_1, if_pos hc9_7]
        rw [ev37_s0_6] at J3_6
        exact J3_6
      · skip
        refine Gl.st (B := (s₁.setTop (mkF m 12 L0 []))) (fun t k => XS.icmpNo X0.here hx rfl (hb hby d1_9) rfl (feq hc9_7).1 k) ?_
        refine Gl.st (B := (s₁.setTop (mkF m 13 L0 [(.int p1)]))) (fun t k => XS.iloadN X0.here hx rfl (hb hby d1_12) (ldAt hL0 rfl) k) ?_
        refine Gl.st (B := (s₁.setTop (mkF m 15 L0 [(.int (12 : Int32)), (.int p1)]))) (fun t k => XS.bipush X0.here hx rfl (hb hby d1_13) k) ?_
        by_cases hc15_8 : p1 = (12 : Int32)
        · skip
          refine Gl.st (B := (s₁.setTop (mkF m 32 L0 []))) (fun t k => XS.icmpYes X0.here hx rfl (pc0 := 15) (pc' := 32) rfl (hb hby d1_15) rfl (teq hc15_8).1 (by decide) (by decide) k) ?_
          refine Gl.st (B := (s₁.setTop (mkF m 33 L0 [(.int (1 : Int32))]))) (fun t k => XS.iconst X0.here hx rfl (hb hby d1_32) k) ?_
          refine Gl.st (B := (s₁.setTop (mkF m 37 L0 [(.int (1 : Int32))]))) (fun t k => XS.goto X0.here hx rfl (pc0 := 33) (pc' := 37) rfl (hb hby d1_33) (by decide) (by decide) k) ?_
          have ev37_s0_6 : v37_s0_6 = (1 : Int32) := by rw [hv37_s0_6, if_neg hc3_1, if_neg hc9_7, if_pos hc15_8]
          rw [ev37_s0_6] at J3_6
          exact J3_6
        · skip
          refine Gl.st (B := (s₁.setTop (mkF m 18 L0 []))) (fun t k => XS.icmpNo X0.here hx rfl (hb hby d1_15) rfl (feq hc15_8).1 k) ?_
          refine Gl.st (B := (s₁.setTop (mkF m 19 L0 [(.int p1)]))) (fun t k => XS.iloadN X0.here hx rfl (hb hby d1_18) (ldAt hL0 rfl) k) ?_
          refine Gl.st (B := (s₁.setTop (mkF m 22 L0 [(.int (8232 : Int32)), (.int p1)]))) (fun t k => XS.sipush X0.here hx rfl (hb hby d1_19) k) ?_
          by_cases hc22_9 : p1 = (8232 : Int32)
          · skip
            refine Gl.st (B := (s₁.setTop (mkF m 32 L0 []))) (fun t k => XS.icmpYes X0.here hx rfl (pc0 := 22) (pc' := 32) rfl (hb hby d1_22) rfl (teq hc22_9).1 (by decide) (by decide) k) ?_
            refine Gl.st (B := (s₁.setTop (mkF m 33 L0 [(.int (1 : Int32))]))) (fun t k => XS.iconst X0.here hx rfl (hb hby d1_32) k) ?_
            refine Gl.st (B := (s₁.setTop (mkF m 37 L0 [(.int (1 : Int32))]))) (fun t k => XS.goto X0.here hx rfl (pc0 := 33) (pc' := 37) rfl (hb hby d1_33) (by decide) (by decide) k) ?_
            have ev37_s0_6 : v37_s0_6 = (1 : Int32) := by rw [hv37_s0_6, if_neg hc3_1, if_neg hc9_7, if_neg hc15_8, if_pos hc22_9]
            rw [ev37_s0_6] at J3_6
            exact J3_6
          · skip
            refine Gl.st (B := (s₁.setTop (mkF m 25 L0 []))) (fun t k => XS.icmpNo X0.here hx rfl (hb hby d1_22) rfl (feq hc22_9).1 k) ?_
            refine Gl.st (B := (s₁.setTop (mkF m 26 L0 [(.int p1)]))) (fun t k => XS.iloadN X0.here hx rfl (hb hby d1_25) (ldAt hL0 rfl) k) ?_
            refine Gl.st (B := (s₁.setTop (mkF m 29 L0 [(.int (8233 : Int32)), (.int p1)]))) (fun t k => XS.sipush X0.here hx rfl (hb hby d1_26) k) ?_
            by_cases hc29_10 : p1 = (8233 : Int32)
            · skip
              refine Gl.st (B := (s₁.setTop (mkF m 32 L0 []))) (fun t k => XS.icmpNo X0.here hx rfl (hb hby d1_29) rfl (teq hc29_10).2 k) ?_
              refine Gl.st (B := (s₁.setTop (mkF m 33 L0 [(.int (1 : Int32))]))) (fun t k => XS.iconst X0.here hx rfl (hb hby d1_32) k) ?_
              refine Gl.st (B := (s₁.setTop (mkF m 37 L0 [(.int (1 : Int32))]))) (fun t k => XS.goto X0.here hx rfl (pc0 := 33) (pc' := 37) rfl (hb hby d1_33) (by decide) (by decide) k) ?_
              have ev37_s0_6 : v37_s0_6 = (1 : Int32) := by rw [hv37_s0_6, if_neg hc3_1, if_neg hc9_7, if_neg hc15_8, if_neg hc22_9, if_pos hc29_10]
              rw [ev37_s0_6] at J3_6
              exact J3_6
            · skip
              refine Gl.st (B := (s₁.setTop (mkF m 36 L0 []))) (fun t k => XS.icmpYes X0.here hx rfl (pc0 := 29) (pc' := 36) rfl (hb hby d1_29) rfl (feq hc29_10).2 (by decide) (by decide) k) ?_
              refine Gl.st (B := (s₁.setTop (mkF m 37 L0 [(.int (0 : Int32))]))) (fun t k => XS.iconst X0.here hx rfl (hb hby d1_36) k) ?_
              have ev37_s0_6 : v37_s0_6 = (0 : Int32) := by rw [hv37_s0_6, if_neg hc3_1, if_neg hc9_7, if_neg hc15_8, if_neg hc22_9, if_neg hc29_10]
              rw [ev37_s0_6] at J3_6
              exact J3_6
  obtain ⟨fs, hr, hrun, hended, hW, hsame⟩ := X0.leave (v := some (.int (nar .boolean v37_s0_6))) (fun h => by rw [Bd.returns] at h; cases h)
  refine Gl.fin (retN X0 hx (t := .boolean) Bd.returns (by simp) (hb hby d1_37) hr) hrun hended ⟨_, _, rfl, ?_, ⟨_, rfl⟩, hW, hsame.mono (by decide) (by decide)⟩
  show Q1 Z p1 h0 n0 _ s₁.heap _
  rw [e0]
  exact ⟨(by subst hv37_s0_6; exact congrArg (fun z => some (Value.int z)) (own_nb rfl (own_nb rfl (own_nb rfl (own_nb rfl (own_nb rfl rfl)))))), N0, rfl⟩
theorem pn_0 : plainName "com/example/covenant_atlas/covenantatlas/service/SpacesIsLineBreakPinLaw" = true := by first | (simp [plainName, overriddenIn]; done) | decide +kernel
theorem pd_0_0 : parseMethodDescriptor "(C)Z" = some ⟨[.char], some .boolean⟩ := by decide +kernel
theorem ef_0 (m : MethodId) (p1 : Int32) : entryFrame m #[(.int p1)] maxLocals = mkF m 0 #[.val (.int p1), .unset, .unset, .unset, .unset, .unset] [] := by first | (simp [entryFrame, mkF, argsToLocals, Value.category, maxLocals]; done) | rfl
theorem own_0_hc70_21 (p1 : Int32) (y1_5_1 : Int32) (r65_20 : Int32) (v31_s0_7 : Int32) (v46_s0_12 : Int32) (v62_s0_16 : Int32) (hy1_5_1 : y1_5_1 = ((p1 &&& (65535 : Int32)).toUInt32.toUInt16.toUInt32.toInt32)) (hr65_20 : r65_20 = ((if y1_5_1 = (10 : Int32) then (1 : Int32) else (if y1_5_1 = (13 : Int32) then (1 : Int32) else (if y1_5_1 = (12 : Int32) then (1 : Int32) else (if y1_5_1 = (8232 : Int32) then (1 : Int32) else (if y1_5_1 = (8233 : Int32) then (1 : Int32) else (0 : Int32)))))))) (hv31_s0_7 : v31_s0_7 = (if y1_5_1 < (10 : Int32) then (0 : Int32) else (if (13 : Int32) < y1_5_1 then (0 : Int32) else (if y1_5_1 = (11 : Int32) then (0 : Int32) else (1 : Int32))))) (hv46_s0_12 : v46_s0_12 = (if (y1_5_1 >>> ((1 : Int32) &&& 31)) = (4116 : Int32) then (1 : Int32) else (0 : Int32))) (hv62_s0_16 : v62_s0_16 = (if v31_s0_7 = (0 : Int32) then (if v46_s0_12 = (0 : Int32) then (0 : Int32) else (1 : Int32)) else (1 : Int32)))  : r65_20 = v62_s0_16 := by
  have a1 := c_ishr y1_5_1 (1 : Int32) 1 (by decide)
  clear hy1_5_1
  generalize y1_5_1 >>> ((1 : Int32) &&& 31) = q at *
  repeat' split at hv31_s0_7
  all_goals repeat' split at hv46_s0_12
  all_goals repeat' split at hv62_s0_16
  all_goals repeat' split at hr65_20
  all_goals (simp only [← Int32.toInt_inj, Int32.lt_iff_toInt_lt, Int32.reduceToInt] at * <;> omega)
def Q0 (Z : State) (p1 : Int32) (h0 : Heap) (n0 : Nat) (v : Option Value) (h : Heap) (L : List Loc) : Prop := v = some (.int (1 : Int32)) ∧ Fr n0 L
set_option maxRecDepth 65536 in
set_option maxHeartbeats 40000000 in
theorem rm0 (l : Launch) (Z : State) (a0 : Array Value) (hw : ∀ d ∈ tables_1, d.before a0 Z = true) (ws : List Jvm.Cond) (p1 : Int32) (h0 : Heap) (n0 : Nat) (Z0 : n0 ≤ h0.size) :
    MetFree l x (head1 (Jvm.Cond.code x code maxLocals ret :: ws) room_1) (fun a U => a = #[(.int p1)] ∧ Z.Warmed39 U.vm ∧ U.heap = h0) (fun _ _ _ _ _ => True) (fun _ U o U' => ∃ v L, o = .returned v ∧ Q0 Z p1 h0 n0 v U'.heap L ∧ FrameEnd U o U' L room_1.cells room_1.slots) := by
  refine MetFree.of_bodySF (plainFor_of_name pn_0) hisR ?_
  intro p e s m args below meth c s₁ Bd hml0 hP hK
  obtain ⟨rfl, hZ, hh⟩ := hP
  have hx := Bd.exec
  have hby := Bd.bytes
  have hml : c.maxLocals = 6 := hml0
  have hown : s.vm.findClass "com/example/covenant_atlas/covenantatlas/service/SpacesIsLineBreakPinLaw" = some m.cls := findClass_of_methodNamed Bd.named
  have hnm := (name_of_methodNamed Bd.named Bd.method).1
  have X0 : Stand p l e room_1 s m #[(.int p1)] below meth c s₁ [] 0 0 := Stand.of_body Bd
  have e0 : s₁.heap = h0 := by rw [← hh, Bd.state]; rfl
  have N0 := Fr.nil n0
  refine (show Gl p e below (fun o U' => ∃ v L, o = .returned v ∧ Q0 Z p1 h0 n0 v U'.heap L ∧ FrameEnd s o U' L room_1.cells room_1.slots) (s₁.setTop (entryFrame m #[(.int p1)] maxLocals)) from ?_)
  obtain ⟨L0, hL0⟩ : ∃ z : Array Slot, z = #[.val (.int p1), .unset, .unset, .unset, .unset, .unset] := ⟨_, rfl⟩
  refine Gl.st (B := (s₁.setTop (mkF m 0 L0 []))) (fun t k => castTop (efAt hL0 (ef_0 m p1)) k) ?_
  refine Gl.st (B := (s₁.setTop (mkF m 1 L0 [(.int p1)]))) (fun t k => XS.iloadN X0.here hx rfl (hb hby at_0) (ldAt hL0 rfl) k) ?_
  refine Gl.st (B := (s₁.setTop (mkF m 3 L0 [(.int (65535 : Int32)), (.int p1)]))) (fun t k => X0.ldcInt hx hown (mvT hZ (tw hw 0 rfl)) (g := (mkF m 1 L0 [(.int p1)])) rfl (hb hby at_1) _ k) ?_
  refine Gl.st (B := (s₁.setTop (mkF m 4 L0 [(.int (p1 &&& (65535 : Int32)))]))) (fun t k => XS.iand X0.here hx rfl (hb hby at_3) rfl k) ?_
  refine Gl.st (B := (s₁.setTop (mkF m 5 L0 [(.int ((p1 &&& (65535 : Int32)).toUInt32.toUInt16.toUInt32.toInt32))]))) (fun t k => XS.i2c X0.here hx rfl (hb hby at_4) rfl k) ?_
  obtain ⟨y1_5_1, hy1_5_1⟩ : ∃ z : Int32, z = ((p1 &&& (65535 : Int32)).toUInt32.toUInt16.toUInt32.toInt32) := ⟨_, rfl⟩
  refine Gl.cast (B := (s₁.setTop (mkF m 5 L0 [(.int y1_5_1)]))) (by rw [hy1_5_1]) ?_
  obtain ⟨L2, hL2⟩ : ∃ z : Array Slot, z = #[.val (.int p1), .val (.int y1_5_1), .unset, .unset, .unset, .unset] := ⟨_, rfl⟩
  refine Gl.st (B := (s₁.setTop (mkF m 6 L2 []))) (fun t k => XS.istoreN X0.here hx rfl (hb hby at_5) rfl (l' := L2) (stAt hL0 hL2 rfl rfl) k) ?_
  refine Gl.st (B := (s₁.setTop (mkF m 7 L2 [(.int y1_5_1)]))) (fun t k => XS.iloadN X0.here hx rfl (hb hby at_6) (ldAt hL2 rfl) k) ?_
  obtain ⟨L3, hL3⟩ : ∃ z : Array Slot, z = #[.val (.int p1), .val (.int y1_5_1), .val (.int y1_5_1), .unset, .unset, .unset] := ⟨_, rfl⟩
  refine Gl.st (B := (s₁.setTop (mkF m 8 L3 []))) (fun t k => XS.istoreN X0.here hx rfl (hb hby at_7) rfl (l' := L3) (stAt hL2 hL3 rfl rfl) k) ?_
  refine Gl.st (B := (s₁.setTop (mkF m 9 L3 [(.int y1_5_1)]))) (fun t k => XS.iloadN X0.here hx rfl (hb hby at_8) (ldAt hL3 rfl) k) ?_
  refine Gl.st (B := (s₁.setTop (mkF m 11 L3 [(.int (10 : Int32)), (.int y1_5_1)]))) (fun t k => XS.bipush X0.here hx rfl (hb hby at_9) k) ?_
  obtain ⟨v31_s0_7, hv31_s0_7⟩ : ∃ z : Int32, z = (if y1_5_1 < (10 : Int32) then (0 : Int32) else (if (13 : Int32) < y1_5_1 then (0 : Int32) else (if y1_5_1 = (11 : Int32) then (0 : Int32) else (1 : Int32)))) := ⟨_, rfl⟩
  refine Gl.join (A := (s₁.setTop (mkF m 31 L3 [(.int v31_s0_7)]))) (fun J11_7 => ?_) ?_
  · by_cases hc11_4 : y1_5_1 < (10 : Int32)
    · skip
      refine Gl.st (B := (s₁.setTop (mkF m 30 L3 []))) (fun t k => XS.icmpYes X0.here hx rfl (pc0 := 11) (pc' := 30) rfl (hb hby at_11) rfl (tlt hc11_4).1 (by decide) (by decide) k) ?_
      refine Gl.st (B := (s₁.setTop (mkF m 31 L3 [(.int (0 : Int32))]))) (fun t k => XS.iconst X0.here hx rfl (hb hby at_30) k) ?_
      have ev31_s0_7 : v31_s0_7 = (0 : Int32) := by rw [hv31_s0_7, if_pos hc11_4]
      rw [ev31_s0_7] at J11_7
      exact J11_7
    · skip
      refine Gl.st (B := (s₁.setTop (mkF m 14 L3 []))) (fun t k => XS.icmpNo X0.here hx rfl (hb hby at_11) rfl (flt hc11_4).1 k) ?_
      refine Gl.st (B := (s₁.setTop (mkF m 15 L3 [(.int y1_5_1)]))) (fun t k => XS.iloadN X0.here hx rfl (hb hby at_14) (ldAt hL3 rfl) k) ?_
      refine Gl.st (B := (s₁.setTop (mkF m 17 L3 [(.int (13 : Int32)), (.int y1_5_1)]))) (fun t k => XS.bipush X0.here hx rfl (hb hby at_15) k) ?_
      by_cases hc17_8 : (13 : Int32) < y1_5_1
      · skip
        refine Gl.st (B := (s₁.setTop (mkF m 30 L3 []))) (fun t k => XS.icmpYes X0.here hx rfl (pc0 := 17) (pc' := 30) rfl (hb hby at_17) rfl (tlt hc17_8).2.2.1 (by decide) (by decide) k) ?_
        refine Gl.st (B := (s₁.setTop (mkF m 31 L3 [(.int (0 : Int32))]))) (fun t k => XS.iconst X0.here hx rfl (hb hby at_30) k) ?_
        have ev31_s0_7 : v31_s0_7 = (0 : Int32) := by rw [hv31_s0_7, if_neg hc11_4, if_pos hc17_8]
        rw [ev31_s0_7] at J11_7
        exact J11_7
      · skip
        refine Gl.st (B := (s₁.setTop (mkF m 20 L3 []))) (fun t k => XS.icmpNo X0.here hx rfl (hb hby at_17) rfl (flt hc17_8).2.2.1 k) ?_
        refine Gl.st (B := (s₁.setTop (mkF m 21 L3 [(.int y1_5_1)]))) (fun t k => XS.iloadN X0.here hx rfl (hb hby at_20) (ldAt hL3 rfl) k) ?_
        refine Gl.st (B := (s₁.setTop (mkF m 23 L3 [(.int (11 : Int32)), (.int y1_5_1)]))) (fun t k => XS.bipush X0.here hx rfl (hb hby at_21) k) ?_
        by_cases hc23_9 : y1_5_1 = (11 : Int32)
        · skip
          refine Gl.st (B := (s₁.setTop (mkF m 30 L3 []))) (fun t k => XS.icmpYes X0.here hx rfl (pc0 := 23) (pc' := 30) rfl (hb hby at_23) rfl (teq hc23_9).1 (by decide) (by decide) k) ?_
          refine Gl.st (B := (s₁.setTop (mkF m 31 L3 [(.int (0 : Int32))]))) (fun t k => XS.iconst X0.here hx rfl (hb hby at_30) k) ?_
          have ev31_s0_7 : v31_s0_7 = (0 : Int32) := by rw [hv31_s0_7, if_neg hc11_4, if_neg hc17_8, if_pos hc23_9]
          rw [ev31_s0_7] at J11_7
          exact J11_7
        · skip
          refine Gl.st (B := (s₁.setTop (mkF m 26 L3 []))) (fun t k => XS.icmpNo X0.here hx rfl (hb hby at_23) rfl (feq hc23_9).1 k) ?_
          refine Gl.st (B := (s₁.setTop (mkF m 27 L3 [(.int (1 : Int32))]))) (fun t k => XS.iconst X0.here hx rfl (hb hby at_26) k) ?_
          refine Gl.st (B := (s₁.setTop (mkF m 31 L3 [(.int (1 : Int32))]))) (fun t k => XS.goto X0.here hx rfl (pc0 := 27) (pc' := 31) rfl (hb hby at_27) (by decide) (by decide) k) ?_
          have ev31_s0_7 : v31_s0_7 = (1 : Int32) := by rw [hv31_s0_7, if_neg hc11_4, if_neg hc17_8, if_neg hc23_9]
          rw [ev31_s0_7] at J11_7
          exact J11_7
  obtain ⟨L10, hL10⟩ : ∃ z : Array Slot, z = #[.val (.int p1), .val (.int y1_5_1), .val (.int y1_5_1), .val (.int v31_s0_7), .unset, .unset] := ⟨_, rfl⟩
  refine Gl.st (B := (s₁.setTop (mkF m 32 L10 []))) (fun t k => XS.istoreN X0.here hx rfl (hb hby at_31) rfl (l' := L10) (stAt hL3 hL10 rfl rfl) k) ?_
  refine Gl.st (B := (s₁.setTop (mkF m 33 L10 [(.int y1_5_1)]))) (fun t k => XS.iloadN X0.here hx rfl (hb hby at_32) (ldAt hL10 rfl) k) ?_
  refine Gl.st (B := (s₁.setTop (mkF m 34 L10 [(.int (1 : Int32)), (.int y1_5_1)]))) (fun t k => XS.iconst X0.here hx rfl (hb hby at_33) k) ?_
  refine Gl.st (B := (s₁.setTop (mkF m 35 L10 [(.int (y1_5_1 >>> ((1 : Int32) &&& 31)))]))) (fun t k => XS.ishr X0.here hx rfl (hb hby at_34) rfl k) ?_
  refine Gl.st (B := (s₁.setTop (mkF m 38 L10 [(.int (4116 : Int32)), (.int (y1_5_1 >>> ((1 : Int32) &&& 31)))]))) (fun t k => XS.sipush X0.here hx rfl (hb hby at_35) k) ?_
  obtain ⟨v46_s0_12, hv46_s0_12⟩ : ∃ z : Int32, z = (if (y1_5_1 >>> ((1 : Int32) &&& 31)) = (4116 : Int32) then (1 : Int32) else (0 : Int32)) := ⟨_, rfl⟩
  refine Gl.join (A := (s₁.setTop (mkF m 46 L10 [(.int v46_s0_12)]))) (fun J38_12 => ?_) ?_
  · by_cases hc38_11 : (y1_5_1 >>> ((1 : Int32) &&& 31)) = (4116 : Int32)
    · skip
      refine Gl.st (B := (s₁.setTop (mkF m 41 L10 []))) (fun t k => XS.icmpNo X0.here hx rfl (hb hby at_38) rfl (teq hc38_11).2 k) ?_
      refine Gl.st (B := (s₁.setTop (mkF m 42 L10 [(.int (1 : Int32))]))) (fun t k => XS.iconst X0.here hx rfl (hb hby at_41) k) ?_
      refine Gl.st (B := (s₁.setTop (mkF m 46 L10 [(.int (1 : Int32))]))) (fun t k => XS.goto X0.here hx rfl (pc0 := 42) (pc' := 46) rfl (hb hby at_42) (by decide) (by decide) k) ?_
      have ev46_s0_12 : v46_s0_12 = (1 : Int32) := by rw [hv46_s0_12, if_pos hc38_11]
      rw [ev46_s0_12] at J38_12
      exact J38_12
    · skip
      refine Gl.st (B := (s₁.setTop (mkF m 45 L10 []))) (fun t k => XS.icmpYes X0.here hx rfl (pc0 := 38) (pc' := 45) rfl (hb hby at_38) rfl (feq hc38_11).2 (by decide) (by decide) k) ?_
      refine Gl.st (B := (s₁.setTop (mkF m 46 L10 [(.int (0 : Int32))]))) (fun t k => XS.iconst X0.here hx rfl (hb hby at_45) k) ?_
      have ev46_s0_12 : v46_s0_12 = (0 : Int32) := by rw [hv46_s0_12, if_neg hc38_11]
      rw [ev46_s0_12] at J38_12
      exact J38_12
  obtain ⟨L13, hL13⟩ : ∃ z : Array Slot, z = #[.val (.int p1), .val (.int y1_5_1), .val (.int y1_5_1), .val (.int v31_s0_7), .val (.int v46_s0_12), .unset] := ⟨_, rfl⟩
  refine Gl.st (B := (s₁.setTop (mkF m 48 L13 []))) (fun t k => XS.istore X0.here hx rfl (hb hby at_46) rfl (l' := L13) (stAt hL10 hL13 rfl rfl) k) ?_
  refine Gl.st (B := (s₁.setTop (mkF m 49 L13 [(.int v31_s0_7)]))) (fun t k => XS.iloadN X0.here hx rfl (hb hby at_48) (ldAt hL13 rfl) k) ?_
  obtain ⟨v62_s0_16, hv62_s0_16⟩ : ∃ z : Int32, z = (if v31_s0_7 = (0 : Int32) then (if v46_s0_12 = (0 : Int32) then (0 : Int32) else (1 : Int32)) else (1 : Int32)) := ⟨_, rfl⟩
  refine Gl.join (A := (s₁.setTop (mkF m 62 L13 [(.int v62_s0_16)]))) (fun J49_16 => ?_) ?_
  · by_cases hc49_14 : v31_s0_7 = (0 : Int32)
    · skip
      refine Gl.st (B := (s₁.setTop (mkF m 52 L13 []))) (fun t k => XS.ifNo X0.here hx rfl (hb hby at_49) rfl ((if0 _ _).trans (teq hc49_14).2) k) ?_
      refine Gl.st (B := (s₁.setTop (mkF m 54 L13 [(.int v46_s0_12)]))) (fun t k => XS.iload X0.here hx rfl (hb hby at_52) (ldAt hL13 rfl) k) ?_
      by_cases hc54_17 : v46_s0_12 = (0 : Int32)
      · skip
        refine Gl.st (B := (s₁.setTop (mkF m 61 L13 []))) (fun t k => XS.ifYes X0.here hx rfl (pc0 := 54) (pc' := 61) rfl (hb hby at_54) rfl ((if0 _ _).trans (teq hc54_17).1) (by decide) (by decide) k) ?_
        refine Gl.st (B := (s₁.setTop (mkF m 62 L13 [(.int (0 : Int32))]))) (fun t k => XS.iconst X0.here hx rfl (hb hby at_61) k) ?_
        have ev62_s0_16 : v62_s0_16 = (0 : Int32) := by rw [hv62_s0_16, if_pos hc49_14, if_pos hc54_17]
        rw [ev62_s0_16] at J49_16
        exact J49_16
      · skip
        refine Gl.st (B := (s₁.setTop (mkF m 57 L13 []))) (fun t k => XS.ifNo X0.here hx rfl (hb hby at_54) rfl ((if0 _ _).trans (feq hc54_17).1) k) ?_
        refine Gl.st (B := (s₁.setTop (mkF m 58 L13 [(.int (1 : Int32))]))) (fun t k => XS.iconst X0.here hx rfl (hb hby at_57) k) ?_
        refine Gl.st (B := (s₁.setTop (mkF m 62 L13 [(.int (1 : Int32))]))) (fun t k => XS.goto X0.here hx rfl (pc0 := 58) (pc' := 62) rfl (hb hby at_58) (by decide) (by decide) k) ?_
        have ev62_s0_16 : v62_s0_16 = (1 : Int32) := by rw [hv62_s0_16, if_pos hc49_14, if_neg hc54_17]
        rw [ev62_s0_16] at J49_16
        exact J49_16
    · skip
      refine Gl.st (B := (s₁.setTop (mkF m 57 L13 []))) (fun t k => XS.ifYes X0.here hx rfl (pc0 := 49) (pc' := 57) rfl (hb hby at_49) rfl ((if0 _ _).trans (feq hc49_14).2) (by decide) (by decide) k) ?_
      refine Gl.st (B := (s₁.setTop (mkF m 58 L13 [(.int (1 : Int32))]))) (fun t k => XS.iconst X0.here hx rfl (hb hby at_57) k) ?_
      refine Gl.st (B := (s₁.setTop (mkF m 62 L13 [(.int (1 : Int32))]))) (fun t k => XS.goto X0.here hx rfl (pc0 := 58) (pc' := 62) rfl (hb hby at_58) (by decide) (by decide) k) ?_
      have ev62_s0_16 : v62_s0_16 = (1 : Int32) := by rw [hv62_s0_16, if_neg hc49_14]
      rw [ev62_s0_16] at J49_16
      exact J49_16
  obtain ⟨L18, hL18⟩ : ∃ z : Array Slot, z = #[.val (.int p1), .val (.int y1_5_1), .val (.int y1_5_1), .val (.int v31_s0_7), .val (.int v46_s0_12), .val (.int v62_s0_16)] := ⟨_, rfl⟩
  refine Gl.st (B := (s₁.setTop (mkF m 64 L18 []))) (fun t k => XS.istore X0.here hx rfl (hb hby at_62) rfl (l' := L18) (stAt hL13 hL18 rfl rfl) k) ?_
  refine Gl.st (B := (s₁.setTop (mkF m 65 L18 [(.int y1_5_1)]))) (fun t k => XS.iloadN X0.here hx rfl (hb hby at_64) (ldAt hL18 rfl) k) ?_
  obtain ⟨_, _, ⟨T19, L19q, k19, n19⟩, -, X19, ⟨Lc19, hQ19, l19, y19, z19⟩, st19⟩ := Jvm.LawKit.callS X0 hx (y := (⟨"com/example/covenant_atlas/covenantatlas/service/Spaces", "isLineBreak", "(C)Z"⟩ : MethodName)) hown (mvT hZ (tw hw 1 rfl)) (mvT hZ (tw hw 2 rfl)) (mvT hZ (tw hw 3 rfl)) (mvT hZ (tw hw 4 rfl)) (by decide) (backOf (W := 0) (rm1 l Z a0 hw [] y1_5_1 h0 n0 Z0) hZ (tw hw 4 rfl) (tw hw 3 rfl) (by decide) (by decide)) (g := (mkF m 65 L18 [(.int y1_5_1)])) rfl (szAt hml hL18 rfl) (argsL := [(.int y1_5_1)]) (rest := []) (lenOf pd_0_0 rfl) rfl (by show 2 * 0 + _ ≤ _; exact Nat.le_of_eq rfl) (hb hby at_65) (fun _ _ => ⟨rfl, e0, (by decide : 0 + 0 ≤ _), (by decide : 0 + 0 ≤ _)⟩)
  dsimp only [Pt.U, Pt.locs, Pt.cells, Pt.slots] at X19 l19 y19 z19 st19 hQ19
  subst l19 y19 z19
  obtain ⟨rfl, N19q, eh19⟩ := hQ19
  have N19 := Fr.app N0 N19q
  refine Gl.st (B := (T19.setTop (mkF m 68 L18 [(.int ((if y1_5_1 = (10 : Int32) then (1 : Int32) else (if y1_5_1 = (13 : Int32) then (1 : Int32) else (if y1_5_1 = (12 : Int32) then (1 : Int32) else (if y1_5_1 = (8232 : Int32) then (1 : Int32) else (if y1_5_1 = (8233 : Int32) then (1 : Int32) else (0 : Int32))))))))]))) (fun t k => st19 t k) ?_
  obtain ⟨r65_20, hr65_20⟩ : ∃ z : Int32, z = ((if y1_5_1 = (10 : Int32) then (1 : Int32) else (if y1_5_1 = (13 : Int32) then (1 : Int32) else (if y1_5_1 = (12 : Int32) then (1 : Int32) else (if y1_5_1 = (8232 : Int32) then (1 : Int32) else (if y1_5_1 = (8233 : Int32) then (1 : Int32) else (0 : Int32))))))) := ⟨_, rfl⟩
  refine Gl.cast (B := (T19.setTop (mkF m 68 L18 [(.int r65_20)]))) (by rw [hr65_20]) ?_
  refine Gl.st (B := (T19.setTop (mkF m 70 L18 [(.int v62_s0_16), (.int r65_20)]))) (fun t k => XS.iload X19.here hx rfl (hb hby at_68) (ldAt hL18 rfl) k) ?_
  have hc70_21 : r65_20 = v62_s0_16 := own_0_hc70_21 p1 y1_5_1 r65_20 v31_s0_7 v46_s0_12 v62_s0_16 hy1_5_1 hr65_20 hv31_s0_7 hv46_s0_12 hv62_s0_16 
  refine Gl.st (B := (T19.setTop (mkF m 73 L18 []))) (fun t k => XS.icmpNo X19.here hx rfl (hb hby at_70) rfl (teq hc70_21).2 k) ?_
  refine Gl.st (B := (T19.setTop (mkF m 74 L18 [(.int (1 : Int32))]))) (fun t k => XS.iconst X19.here hx rfl (hb hby at_73) k) ?_
  refine Gl.st (B := (T19.setTop (mkF m 78 L18 [(.int (1 : Int32))]))) (fun t k => XS.goto X19.here hx rfl (pc0 := 74) (pc' := 78) rfl (hb hby at_74) (by decide) (by decide) k) ?_
  obtain ⟨fs, hr, hrun, hended, hW, hsame⟩ := X19.leave (v := some (.int (nar .boolean (1 : Int32)))) (fun h => by rw [Bd.returns] at h; cases h)
  refine Gl.fin (retN X19 hx (t := .boolean) Bd.returns (by simp) (hb hby at_78) hr) hrun hended ⟨_, _, rfl, ?_, ⟨_, rfl⟩, hW, hsame.mono (by decide) (by decide)⟩
  show Q0 Z p1 h0 n0 _ T19.heap _
  rw [eh19]
  exact ⟨rfl, N19⟩
set_option maxRecDepth 65536 in
set_option maxHeartbeats 40000000 in
theorem comes_1 {Post : Tables → Env → Array Value → State → Outcome → State → Prop} (hpost : ∀ tb e args s v u, (limb_1_1.after args s (.returned v) u = true ∧ limb_1_2.after args s (.returned v) u = true ∧ True) → FrameEnd s (.returned v) u (Jvm.fieldLocs frame_1_writes args s ++ Jvm.arrayLocs frame_1_arrays args s ++ Jvm.staticLocs frame_1_statics s) 0 0 → Post tb e args s (.returned v) u) :
    ArmFor flags0 classFile x code maxLocals ret World_1 tables_1 room_1 Calls_1 rest_1 Pre_1 Post := by
  intro l hfl _ _ p e ha hc hk s m args below hf hA hF happ hP
  obtain ⟨hcalls, hrest, hpre⟩ := hP
  obtain ⟨-, -, -, hnamed, -, -, -, hat⟩ := (Spec.applies_iff hf).mp happ
  obtain ⟨hg, hn⟩ := and_e (Cond.before_iff.mp (show (Jvm.Cond.and given_1 narrow_1).before args s = true from hpre))
  obtain ⟨g1, g2⟩ := and_e hg
  obtain ⟨w0, rfl⟩ : ∃ w0 : Value, args = #[w0] := by
    have hs : args.size = 1 := by simpa [Cond.value, given_1] using g1
    obtain ⟨L⟩ := args
    match L, hs with
    | [w0], _ => exact ⟨w0, rfl⟩
  have hw := fun d (hd : d ∈ tables_1) => atoms_spec (ws := Jvm.Cond.code x code maxLocals ret :: tables_1) hat d (List.mem_cons_of_mem _ hd)
  have hfit : Fit s := fun {y c} hc i hi => by
    obtain ⟨ha, rfl⟩ := Array.getElem?_eq_some_iff.mp hc
    have q := List.all_eq_true.mp ((Array.all_eq_true_iff_forall_mem.mp hF) _ (Array.getElem_mem ha)) i (List.mem_range.mpr hi)
    simpa [Array.getElem?_eq_getElem hi] using q
  obtain ⟨i0, ei0⟩ := is_v g2
  obtain rfl : w0 = (.int i0) := Option.some.inj ei0
  obtain ⟨n, o, h1, h2, h3, _, L, rfl, ⟨rfl, N⟩, hq⟩ := rm0 l s _ hw tables_1 i0 s.heap s.heap.size (Nat.le_refl _) p e ha hc hk s m _ below hf ((Spec.applies_iff_loose hf).mp happ).1 ⟨rfl, State.Warmed39.refl s, rfl⟩ trivial
  refine ⟨n, _, h1, h2, h3, hpost _ _ _ _ _ _ ⟨Cond.after_iff.mpr rfl, Cond.after_iff.mpr (eq_i res_at (Term.int_eval (1)) rfl), trivial⟩ ⟨hq.1, hq.2.1, (hq.2.2.sift fun y hy => Or.inr (N y hy)).mono (by decide) (by decide)⟩⟩
theorem main_1_1 : Claimed_1_1 := comes_1 fun _ _ _ _ _ _ h hF => ⟨h.1, hF⟩
theorem main_1_2 : Claimed_1_2 := comes_1 fun _ _ _ _ _ _ h hF => ⟨h.2.1, hF⟩
end Jvm.Pilot.@@N@@
namespace Jvm.Pilot.@@N@@
open Jvm Jvm.ClassFile Sem Op Lib Jvm.Free Jvm.Stand Jvm.Pilot.@@N@@.Jvm.D
/-! MADE BY PROGRAM (witnessworld.py) out of the Statement's table words and the real class files: 9 classes; the members and pool entries that the words name. The judged class is class 1, her method 1. -/
namespace start1
open Jvm.ClassFile
def u (s : String) : CpInfo := .utf8 (stringToUtf16 s)
/-- a pool by its gaps: so many unusable entries, then the entry; so many at the end -/
def gap : Nat → List CpInfo → List CpInfo
  | 0, r => r
  | n + 1, r => .unusable :: gap n r
def poolList (es : List (Nat × CpInfo)) (last : Nat) : List CpInfo := es.foldr (fun e r => gap e.1 (e.2 :: r)) (gap last [])
def pool (es : List (Nat × CpInfo)) (last : Nat) : Array CpInfo := ⟨poolList es last⟩
def fileOf (pool : Array CpInfo) (this : Nat) (attrs : Array Attribute := #[]) (ms : Array MethodInfo := #[]) (fl : Nat := 33) (sup : Nat := 0) (ifs : Array Nat := #[]) (fds : Array FieldInfo := #[]) : ClassFile where
  minorVersion := 0
  majorVersion := 65
  constantPool := pool
  accessFlags := fl
  thisClass := this
  superClass := sup
  interfaces := ifs
  fields := fds
  methods := ms
  attributes := attrs
def plain (name : String) (sup : Option ClassId) : Class where
  name := name
  kind := .ordinary
  loader := none
  accessFlags := 33
  super := sup
  interfaces := #[]
  cf := none
  fields := #[]
  methods := #[]
  instanceTypes := #[]
  staticTypes := #[]
  resolved := #[]
  callSites := []
  init := .initialized
  statics := none
  mirror := none

def pool0 : Array CpInfo := pool [(5, u "<init>"), (0, u "()V"), (1, .class_ 10), (1, u "java/lang/Object")] 113

def k0m0 : Method := { name := "<init>", desc := "()V", sig := { parameters := [], returnType := none }, accessFlags := 1, code := none }
/-- java/lang/Object -/
def k0 : Class := { plain "java/lang/Object" none with
  accessFlags := 33
  interfaces := #[]
  cf := some (fileOf pool0 8 #[] #[{ accessFlags := 1, nameIndex := 5, descriptorIndex := 6, attributes := #[] }] 33 0 #[] #[])
  fields := #[]
  methods := #[k0m0]
  instanceTypes := #[]
  staticTypes := #[]
  resolved := Array.replicate 124 none
  statics := none }

def pool1 : Array CpInfo := pool [(2, .class_ 4), (1, u "java/lang/Object"), (0, u "<init>"), (0, u "()V"), (0, .integer 65535), (0, .methodref 9 10), (0, .class_ 11), (0, .nameAndType 12 13), (0, u "com/example/covenant_atlas/covenantatlas/service/Spaces"), (0, u "isLineBreak"), (0, u "(C)Z"), (0, .class_ 15), (0, u "com/example/covenant_atlas/covenantatlas/service/SpacesIsLineBreakPinLaw"), (2, u "law"), (0, u "(I)Z")] 3

def k1m0 : Method := { name := "<init>", desc := "()V", sig := { parameters := [], returnType := none }, accessFlags := 2, code := none }
def k1c1 : Code := { maxStack := 2, maxLocals := 6, code := code, exceptionTable := #[], attributes := #[] }
def k1m1 : Method := { name := "law", desc := "(I)Z", sig := { parameters := [.int], returnType := some .boolean }, accessFlags := 9, code := some k1c1 }
/-- com/example/covenant_atlas/covenantatlas/service/SpacesIsLineBreakPinLaw -/
def k1 : Class := { plain "com/example/covenant_atlas/covenantatlas/service/SpacesIsLineBreakPinLaw" (some 0) with
  accessFlags := 49
  interfaces := #[]
  cf := some (fileOf pool1 14 #[] #[{ accessFlags := 2, nameIndex := 5, descriptorIndex := 6, attributes := #[] }, { accessFlags := 9, nameIndex := 18, descriptorIndex := 19, attributes := #[] }] 49 2 #[] #[])
  fields := #[]
  methods := #[k1m0, k1m1]
  instanceTypes := #[]
  staticTypes := #[]
  resolved := Array.replicate 23 none
  statics := none }

def pool2 : Array CpInfo := pool [(2, .class_ 4), (1, u "java/lang/Object"), (0, u "<init>"), (0, u "()V"), (5, u "(C)Z"), (10, .class_ 25), (1, u "com/example/covenant_atlas/covenantatlas/service/Spaces"), (3, u "isLineBreak")] 7

def k2m0 : Method := { name := "<init>", desc := "()V", sig := { parameters := [], returnType := none }, accessFlags := 2, code := none }
def k2c1 : Code := { maxStack := 2, maxLocals := 1, code := prog_194_method_3_code, exceptionTable := #[], attributes := #[] }
def k2m1 : Method := { name := "isLineBreak", desc := "(C)Z", sig := { parameters := [.char], returnType := some .boolean }, accessFlags := 8, code := some k2c1 }
/-- com/example/covenant_atlas/covenantatlas/service/Spaces -/
def k2 : Class := { plain "com/example/covenant_atlas/covenantatlas/service/Spaces" (some 0) with
  accessFlags := 48
  interfaces := #[]
  cf := some (fileOf pool2 23 #[] #[{ accessFlags := 2, nameIndex := 5, descriptorIndex := 6, attributes := #[] }, { accessFlags := 8, nameIndex := 29, descriptorIndex := 12, attributes := #[] }] 48 2 #[] #[])
  fields := #[]
  methods := #[k2m0, k2m1]
  instanceTypes := #[]
  staticTypes := #[]
  resolved := Array.replicate 37 none
  statics := none }

def pool3 : Array CpInfo := pool [(1, u "java/lang/Cloneable"), (0, .class_ 1), (0, u "java/lang/Object"), (0, .class_ 3)] 3

/-- java/lang/Cloneable -/
def k3 : Class := { plain "java/lang/Cloneable" (some 0) with
  accessFlags := 1537
  interfaces := #[]
  cf := some (fileOf pool3 2 #[] #[] 1537 4 #[] #[])
  fields := #[]
  methods := #[]
  instanceTypes := #[]
  staticTypes := #[]
  resolved := Array.replicate 8 none
  statics := none }

def pool4 : Array CpInfo := pool [(1, u "java/io/Serializable"), (0, .class_ 1), (0, u "java/lang/Object"), (0, .class_ 3)] 3

/-- java/io/Serializable -/
def k4 : Class := { plain "java/io/Serializable" (some 0) with
  accessFlags := 1537
  interfaces := #[]
  cf := some (fileOf pool4 2 #[] #[] 1537 4 #[] #[])
  fields := #[]
  methods := #[]
  instanceTypes := #[]
  staticTypes := #[]
  resolved := Array.replicate 8 none
  statics := none }

/-- the primitive byte -/
def k5 : Class := { plain "byte" none with kind := .primitive 'B', accessFlags := 0x411 }
/-- [B -/
def k6 : Class := { plain "[B" (some 0) with kind := .array 5 .byte, interfaces := #[3, 4], accessFlags := 1041 }

/-- the primitive int -/
def k7 : Class := { plain "int" none with kind := .primitive 'I', accessFlags := 0x411 }
/-- [I -/
def k8 : Class := { plain "[I" (some 0) with kind := .array 7 .int, interfaces := #[3, 4], accessFlags := 1041 }

def heap : Heap := #[]
def classes : Array Class := #[k0, k1, k2, k3, k4, k5, k6, k7, k8]
def interned : List (Array UInt16 × Addr) := []
def slotsUsed : Nat := 0
def theMethod : MethodId := ⟨1, 1⟩
def args0 : Array Value := #[.int 5]
def aboutOver (below : List Frame) : State where
  vm := { classes := classes, interned := interned.toArray }
  heap := heap
  slotsUsed := slotsUsed
  threads := #[{ frames := .invoking theMethod args0 :: below }]
def below0 : List Frame := [.native { method := ⟨0, 0⟩, args := #[] }]
def about1 : State := aboutOver below0
def p0 : Program := .bare "" "" ""
def e0 : Env := launch0.env 0 0 0
theorem w_frames : about1.frames = Frame.invoking theMethod args0 :: below0 := rfl
set_option maxRecDepth 65536 in
theorem w_args : argsFit about1.vm theMethod args0 = true := by decide +kernel
set_option maxRecDepth 65536 in
theorem w_heap : heapFits about1 = true := by decide +kernel
set_option maxRecDepth 65536 in
theorem w_runnable : about1.curStatus? = some .runnable := by decide +kernel
set_option maxRecDepth 65536 in
theorem w_alone : about1.alone = true := by decide +kernel
set_option maxRecDepth 65536 in
theorem w_named : about1.methodNamed? x = some theMethod := by decide +kernel
set_option maxRecDepth 65536 in
theorem w_hears : about1.hears theMethod below0 = true := by decide +kernel
set_option maxRecDepth 65536 in
theorem w_ripe : about1.ripe theMethod args0 below0 = true := by decide +kernel
theorem w_running : about1.status = .running := rfl
set_option maxRecDepth 65536 in
theorem w_room : about1.hasRoom e0.platform room_1 = true :=
  launch0.hasRoom_least _ room_1 (by decide +kernel) (by decide +kernel) (by decide +kernel) (by decide +kernel) (by decide +kernel) (by decide +kernel)
theorem allAtoms_all (ts : List Jvm.Cond) (a : Array Jvm.Value) (st : Jvm.State) : (allAtoms ts).before a st = ts.all (fun c => c.before a st) := by
  induction ts with
  | nil => rfl
  | cons c t ih =>
    show (Jvm.Cond.and c (allAtoms t)).before a st = _
    rw [Jvm.Cond.before_and, ih, List.all_cons]
def words1 : List Jvm.Cond := Jvm.Cond.code x code maxLocals ret :: tables_1
/-- a 'code' word, met by the world's own term for the bytes: nothing is compared byte by byte -/
theorem code_word {y : MethodName} {bytes : ByteArray} {mx : Nat} {rt : Option FieldType} {a : Array Value} {s : State} {m : MethodId} {meth : Method} {c : Code} (h1 : s.methodNamed? y = some m) (h2 : s.vm.method? m = some meth) (h3 : meth.code = some c) (h4 : c.code = bytes)
    (h5 : (c.maxLocals == mx && c.exceptionTable.isEmpty && decide (c.maxStack ≤ mostOperands) && decide (meth.sig.returnType = rt) && !meth.locks && decide (parseMethodDescriptor y.desc = some meth.sig)) = true) : (Jvm.Cond.code y bytes mx rt).before a s = true := by
  simp only [Bool.and_eq_true, beq_iff_eq, Bool.not_eq_true', decide_eq_true_eq] at h5
  obtain ⟨⟨⟨⟨⟨g1, g2⟩, g3⟩, g4⟩, g5⟩, g6⟩ := h5
  simp [Cond.before, Cond.holds, Cond.value, h1, h2, h3, h4, g1, g2, g3, g4, g5, g6]
def isCode : Jvm.Cond → Bool
  | .code _ _ _ _ => true
  | _ => false
theorem all_split {L : List Jvm.Cond} {P : Jvm.Cond → Bool} (h1 : L.all (fun c => isCode c || P c) = true) (h2 : ∀ c ∈ L.filter isCode, P c = true) : L.all P = true := by
  refine List.all_eq_true.mpr fun c hc => ?_
  have h := List.all_eq_true.mp h1 c hc
  rcases Bool.eq_false_or_eq_true (isCode c) with hi | hi
  · exact h2 c (List.mem_filter.mpr ⟨hc, hi⟩)
  · simpa [hi] using h
set_option maxRecDepth 65536 in
theorem w_c0 : (Jvm.Cond.code x code maxLocals ret).before args0 about1 = true := code_word (m := ⟨1, 1⟩) (meth := k1m1) (c := k1c1) (by decide +kernel) rfl rfl rfl (by decide +kernel)
set_option maxRecDepth 65536 in
theorem w_c1 : (Jvm.Cond.code ({ cls := "com/example/covenant_atlas/covenantatlas/service/Spaces", name := "isLineBreak", desc := "(C)Z" } : Jvm.MethodName) prog_194_method_3_code (1 : Nat) (Option.some Jvm.ClassFile.FieldType.boolean)).before args0 about1 = true := code_word (m := ⟨2, 1⟩) (meth := k2m1) (c := k2c1) (by decide +kernel) rfl rfl rfl (by decide +kernel)
def codes1 : List Jvm.Cond := [Jvm.Cond.code x code maxLocals ret, Jvm.Cond.code ({ cls := "com/example/covenant_atlas/covenantatlas/service/Spaces", name := "isLineBreak", desc := "(C)Z" } : Jvm.MethodName) prog_194_method_3_code (1 : Nat) (Option.some Jvm.ClassFile.FieldType.boolean)]
set_option maxRecDepth 65536 in
theorem codes_eq : words1.filter isCode = codes1 := rfl
theorem w_codes : ∀ c ∈ words1.filter isCode, c.before args0 about1 = true := by
  rw [codes_eq]
  intro c hc
  simp only [codes1, List.mem_cons, List.not_mem_nil, or_false] at hc
  rcases hc with rfl | rfl
  · exact w_c0
  · exact w_c1
set_option maxRecDepth 65536 in
theorem w_t1 : words1.all (fun c => isCode c || c.before args0 about1) = true := by decide +kernel
theorem w_tables : (allAtoms (Jvm.Cond.code x code maxLocals ret :: tables_1)).before args0 about1 = true := by
  rw [allAtoms_all]
  show words1.all (fun c => c.before args0 about1) = true
  refine all_split ?_ w_codes
  rw [w_t1]
set_option maxRecDepth 65536 in
theorem w_case : (Jvm.Cond.and given_1 narrow_1).before args0 about1 = true := by decide +kernel
theorem w_applies : (headSpec (Jvm.Cond.code x code maxLocals ret :: tables_1) room_1).applies x e0.platform about1 = true :=
  (Spec.applies_iff w_frames).mpr ⟨w_running, w_runnable, w_alone, w_named, w_hears, w_ripe, w_room, w_tables⟩
theorem atStart : AtStart classFile x code maxLocals ret World_1 tables_1 room_1 Calls_1 rest_1 Pre_1 launch0 p0 e0 about1 theMethod args0 below0 :=
  ⟨lists_1, trivial, launch0.admits_env _ _ _, launch0.least_env, fairChoices_fair.cas, fairChoices_fair.clock, w_frames, w_args, w_heap, w_applies, trivial, trivial, w_case⟩
end start1
theorem witness_1 : WitnessClaimed_1 := ⟨start1.p0, start1.e0, start1.about1, start1.theMethod, start1.args0, start1.below0, start1.atStart⟩
end Jvm.Pilot.@@N@@
