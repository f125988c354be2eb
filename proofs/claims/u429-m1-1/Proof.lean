import JvmDerived
import JvmDerived.Pilot.@@N@@Statement
import JvmDerived.Pilot.@@N@@Code
set_option linter.unusedVariables false
set_option linter.unusedSimpArgs false
namespace Jvm.RoadKit
open Sem ClassFile Op Lib Jvm.Stand Jvm.Free Jvm.LawKit
section New
variable {p : Program} {l : Launch} {e : Env} {R : Room} {s : State} {m : MethodId} {args : Array Value} {below : List Frame} {meth : Method} {c : Code} {T : State} {locs : List Loc} {cells slots : Nat}
theorem retI (X : Stand p l e R s m args below meth c T locs cells slots) (hx : p.tables.exec = Jvm.exec) {pc : Nat} {Ls : Array Slot} {z : Int32} {rest : List Value} (hret : meth.sig.returnType = some .int) (hd : decode c.code pc = .ok (.ireturn, 1)) {fs : List Frame}
    (hl : ∀ (f : JFrame) (acts : List Action), f.method = m → f.locked = none → f.entered = [] → (doReturn e (T.setTop f) acts (some (.int z))).1 = T.setFrames fs) : Steps p.tables e below (T.setTop (mkF m pc Ls (.int z :: rest))) (T.setFrames fs) := by
  have hm' : T.vm.method? m = some meth := X.method'
  have hn : narrow .int (.int z) = .int z := rfl
  show Steps p.tables e below (T.setTop { method := m, pc := pc, locals := Ls, stack := _ :: rest, locked := none }) _
  jvm_step X.here [X.here.top, hx, hd, hm', hret, hn]
  first | (intro acts; rw [hl _ acts rfl rfl rfl]) | rw [hl _ _ rfl rfl rfl]
  exact Steps.refl _
end New
end Jvm.RoadKit
namespace Jvm.Pilot.@@N@@
open Jvm Jvm.ClassFile Sem Op Lib Jvm.Free Jvm.Stand Jvm.LawKit Jvm.RoadKit Bundle Jvm.Pilot.@@N@@.Jvm.D
def Gl (p : Program) (e : Env) (below : List Frame) (Q : Outcome → State → Prop) (A : State) : Prop := ∃ t o, Steps p.tables e below A t ∧ t.status = .running ∧ Ended t below o ∧ Q o t
theorem Gl.st {p : Program} {e : Env} {below : List Frame} {Q : Outcome → State → Prop} {A B : State} (k : ∀ t, Steps p.tables e below B t → Steps p.tables e below A t) (h : Gl p e below Q B) : Gl p e below Q A := by
  obtain ⟨t, o, h1, r⟩ := h
  exact ⟨t, o, k t h1, r⟩
theorem Gl.cast {p : Program} {e : Env} {below : List Frame} {Q : Outcome → State → Prop} {A B : State} (k : A = B) (h : Gl p e below Q B) : Gl p e below Q A := k ▸ h
theorem Gl.join {p : Program} {e : Env} {below : List Frame} {Q : Outcome → State → Prop} {A B : State} (k : Gl p e below Q A → Gl p e below Q B) (h : Gl p e below Q A) : Gl p e below Q B := k h
theorem Gl.fin {p : Program} {e : Env} {below : List Frame} {Q : Outcome → State → Prop} {A t : State} {o : Outcome} (h1 : Steps p.tables e below A t) (h2 : t.status = .running) (h3 : Ended t below o) (h4 : Q o t) : Gl p e below Q A := ⟨t, o, h1, h2, h3, h4⟩
theorem tw {a0 : Array Value} {Z : State} (hw : ∀ d ∈ tables_1, d.before a0 Z = true) (i : Nat) {d : Jvm.Cond} (h : tables_1[i]? = some d) : d.before a0 Z = true := hw _ (List.mem_of_getElem? h)
theorem ldAt {L M : Array Slot} (h : L = M) {k : Nat} {v : Slot} (q : M[k]? = some v) : L[k]? = some v := h ▸ q
theorem stAt {L M L' M' : Array Slot} {k : Nat} {v w : Value} (h : L = M) (h' : L' = M') (e : w = v) (q : storeLocals M k v = some M') : storeLocals L k w = some L' := by subst h h' e; exact q
theorem stAt' {L M L' M' : Array Slot} {k : Nat} {v w : Value} (h : L = M) (h' : L' = M') (e : w = v) (q : storeLocals M k v = some M') : storeLocals L k w = some L' := by subst h h' e; exact q
theorem szAt {L M : Array Slot} {k n : Nat} (h : k = n) (h' : L = M) (q : M.size = n) : L.size = k := by subst h h'; exact q
theorem efAt {m : MethodId} {L M : Array Slot} {f : JFrame} (h : L = M) (q : f = mkF m 0 M []) : f = mkF m 0 L [] := h ▸ q
theorem own_nb {c : Prop} [Decidable c] {a b : Int32} (ha : nar .boolean a = a) (hb : nar .boolean b = b) : nar .boolean (if c then a else b) = if c then a else b := by split <;> assumption
theorem own_eqL {args : Array Value} {s : State} {t : Term} {z : Int64} (h : (Jvm.Cond.eq t (.long z)).value args s none s [] = some true) : t.eval args s none [] s = some (.long z) := by
  obtain ⟨x, y, ha, hb, k1, k2⟩ := cmp_v (Or.inl h)
  obtain rfl : y = .long z := Option.some.inj (hb.symm.trans (long_at z))
  obtain ⟨w, rfl⟩ : ∃ w, x = .long w := k2
  rw [ha, gotT (eq_L ha hb) h]
theorem own_eqI {args : Array Value} {s : State} {t : Term} {z : Int32} (h : (Jvm.Cond.eq t (.int z)).value args s none s [] = some true) : t.eval args s none [] s = some (.int z) := by
  obtain ⟨x, y, ha, hb, k1, k2⟩ := cmp_v (Or.inl h)
  obtain rfl : y = .int z := Option.some.inj (hb.symm.trans (Term.int_eval z))
  obtain ⟨w, rfl⟩ : ∃ w, x = .int w := k2
  rw [ha, gotT (Cond.eq_ints ha hb) h]
theorem own_sta_keep {Z : State} {h h' : Heap} {C n d : String} {v : Value} {ws : List Addr} (F : Sta Z h C n d v) (K : Keep h h' ws) (q : ∀ x ∈ ws, ∀ cell : Cell, h[x]? = some cell → cell.vm.isStatics = false) : Sta Z h' C n d v := by
  obtain ⟨cf, i, k, f, a, cell, h1, h2, h3, h4, h5, h6, r⟩ := F
  exact ⟨cf, i, k, f, a, cell, h1, h2, h3, h4, K.2.1 a cell h5 (fun y => by have := q a y cell h5; rw [h6] at this; cases this), h6, r⟩
theorem own_exa_plain {Z : State} {h : Heap} {a : Addr} {C : String} (F : Exa Z h a C) : ∀ cell : Cell, h[a]? = some cell → cell.vm.isStatics = false := fun cell hc => by
  obtain ⟨c', k, h1, -, -, h4, -⟩ := F
  rw [h1] at hc; cases hc; exact h4
theorem own_arv_plain {Z : State} {h : Heap} {a : Addr} {k : ClassId} {ty : FieldType} {z : Int32} {vs : List Value} {dv : Value} (F : Arv Z h a k ty z vs dv) : ∀ cell : Cell, h[a]? = some cell → cell.vm.isStatics = false := fun cell hc => by
  obtain ⟨c', A, -⟩ := F
  have := A.1; rw [this] at hc; cases hc; exact A.plain
theorem d1_0 : decode prog_111_method_2_code 0 = .ok (.iload_n 0, 1) := by decide +kernel
theorem d1_1 : decode prog_111_method_2_code 1 = .ok (.bipush 15, 2) := by decide +kernel
theorem d1_3 : decode prog_111_method_2_code 3 = .ok (.if_icmp .eq 39, 3) := by decide +kernel
theorem d1_6 : decode prog_111_method_2_code 6 = .ok (.iload_n 0, 1) := by decide +kernel
theorem d1_7 : decode prog_111_method_2_code 7 = .ok (.bipush 16, 2) := by decide +kernel
theorem d1_9 : decode prog_111_method_2_code 9 = .ok (.if_icmp .eq 33, 3) := by decide +kernel
theorem d1_12 : decode prog_111_method_2_code 12 = .ok (.iload_n 0, 1) := by decide +kernel
theorem d1_13 : decode prog_111_method_2_code 13 = .ok (.bipush 17, 2) := by decide +kernel
theorem d1_15 : decode prog_111_method_2_code 15 = .ok (.if_icmp .eq 27, 3) := by decide +kernel
theorem d1_18 : decode prog_111_method_2_code 18 = .ok (.iload_n 0, 1) := by decide +kernel
theorem d1_19 : decode prog_111_method_2_code 19 = .ok (.bipush 18, 2) := by decide +kernel
theorem d1_21 : decode prog_111_method_2_code 21 = .ok (.if_icmp .eq 21, 3) := by decide +kernel
theorem d1_24 : decode prog_111_method_2_code 24 = .ok (.iload_n 0, 1) := by decide +kernel
theorem d1_25 : decode prog_111_method_2_code 25 = .ok (.bipush 19, 2) := by decide +kernel
theorem d1_27 : decode prog_111_method_2_code 27 = .ok (.if_icmp .eq 15, 3) := by decide +kernel
theorem d1_30 : decode prog_111_method_2_code 30 = .ok (.iload_n 0, 1) := by decide +kernel
theorem d1_31 : decode prog_111_method_2_code 31 = .ok (.bipush 20, 2) := by decide +kernel
theorem d1_33 : decode prog_111_method_2_code 33 = .ok (.if_icmp .eq 9, 3) := by decide +kernel
theorem d1_36 : decode prog_111_method_2_code 36 = .ok (.iload_n 0, 1) := by decide +kernel
theorem d1_37 : decode prog_111_method_2_code 37 = .ok (.bipush 21, 2) := by decide +kernel
theorem d1_39 : decode prog_111_method_2_code 39 = .ok (.if_icmp .ne 7, 3) := by decide +kernel
theorem d1_42 : decode prog_111_method_2_code 42 = .ok (.iconst 1, 1) := by decide +kernel
theorem d1_43 : decode prog_111_method_2_code 43 = .ok (.goto 4, 3) := by decide +kernel
theorem d1_46 : decode prog_111_method_2_code 46 = .ok (.iconst 0, 1) := by decide +kernel
theorem d1_47 : decode prog_111_method_2_code 47 = .ok (.ireturn, 1) := by decide +kernel
theorem pn_1 : plainName "com/example/tidemark/tidemark/server/copies/Copies" = true := by first | (simp [plainName, overriddenIn]; done) | decide +kernel
theorem ef_1 (m : MethodId) (p1 : Int32) : entryFrame m #[(.int p1)] 1 = mkF m 0 #[.val (.int p1)] [] := by first | (simp [entryFrame, mkF, argsToLocals, Value.category]; done) | rfl
def Q1 (Z : State) (p1 : Int32) (h0 : Heap) (n0 : Nat) (v : Option Value) (h : Heap) (L : List Loc) : Prop := v = some (.int ((if p1 = (15 : Int32) then (1 : Int32) else (if p1 = (16 : Int32) then (1 : Int32) else (if p1 = (17 : Int32) then (1 : Int32) else (if p1 = (18 : Int32) then (1 : Int32) else (if p1 = (19 : Int32) then (1 : Int32) else (if p1 = (20 : Int32) then (1 : Int32) else (if p1 = (21 : Int32) then (1 : Int32) else (0 : Int32)))))))))) ∧ Fr n0 L ∧ h = h0
set_option maxRecDepth 65536 in
set_option maxHeartbeats 40000000 in
theorem rm1 (l : Launch) (Z : State) (a0 : Array Value) (hw : ∀ d ∈ tables_1, d.before a0 Z = true) (ws : List Jvm.Cond) (p1 : Int32) (h0 : Heap) (n0 : Nat) (Z0 : n0 ≤ h0.size) :
    MetFree l (⟨"com/example/tidemark/tidemark/server/copies/Copies", "answers", "(B)Z"⟩ : MethodName) (head1 (Jvm.Cond.code (⟨"com/example/tidemark/tidemark/server/copies/Copies", "answers", "(B)Z"⟩ : MethodName) prog_111_method_2_code 1 (some .boolean) :: ws) ({ frames := 0, cells := 0, slots := 0, locals := 0 } : Room)) (fun a U => a = #[(.int p1)] ∧ Z.Warmed39 U.vm ∧ U.heap = h0) (fun _ _ _ _ _ => True) (fun _ U o U' => ∃ v L, o = .returned v ∧ Q1 Z p1 h0 n0 v U'.heap L ∧ FrameEnd U o U' L ({ frames := 0, cells := 0, slots := 0, locals := 0 } : Room).cells ({ frames := 0, cells := 0, slots := 0, locals := 0 } : Room).slots) := by
  refine MetFree.of_bodySF (plainFor_of_name pn_1) hisR ?_
  intro p e s m args below meth c s₁ Bd hml0 hP hK
  obtain ⟨rfl, hZ, hh⟩ := hP
  have hx := Bd.exec
  have hby := Bd.bytes
  have hml : c.maxLocals = 1 := hml0
  have hown : s.vm.findClass "com/example/tidemark/tidemark/server/copies/Copies" = some m.cls := findClass_of_methodNamed Bd.named
  have hnm := (name_of_methodNamed Bd.named Bd.method).1
  have X0 : Stand p l e ({ frames := 0, cells := 0, slots := 0, locals := 0 } : Room) s m #[(.int p1)] below meth c s₁ [] 0 0 := Stand.of_body Bd
  have e0 : s₁.heap = h0 := by rw [← hh, Bd.state]; rfl
  have N0 := Fr.nil n0
  have K0 : Keep h0 h0 [] := Keep.refl h0 _
  refine (show Gl p e below (fun o U' => ∃ v L, o = .returned v ∧ Q1 Z p1 h0 n0 v U'.heap L ∧ FrameEnd s o U' L ({ frames := 0, cells := 0, slots := 0, locals := 0 } : Room).cells ({ frames := 0, cells := 0, slots := 0, locals := 0 } : Room).slots) (s₁.setTop (entryFrame m #[(.int p1)] 1)) from ?_)
  obtain ⟨L0, hL0⟩ : ∃ z : Array Slot, z = #[.val (.int p1)] := ⟨_, rfl⟩
  refine Gl.st (B := (s₁.setTop (mkF m 0 L0 []))) (fun t k => castTop (efAt hL0 (ef_1 m p1)) k) ?_
  refine Gl.st (B := (s₁.setTop (mkF m 1 L0 [(.int p1)]))) (fun t k => XS.iloadN X0.here hx rfl (hb hby d1_0) (ldAt hL0 rfl) k) ?_
  refine Gl.st (B := (s₁.setTop (mkF m 3 L0 [(.int (15 : Int32)), (.int p1)]))) (fun t k => XS.bipush X0.here hx rfl (hb hby d1_1) k) ?_
  obtain ⟨v47_s0_8, hv47_s0_8⟩ : ∃ z : Int32, z = (if p1 = (15 : Int32) then (1 : Int32) else (if p1 = (16 : Int32) then (1 : Int32) else (if p1 = (17 : Int32) then (1 : Int32) else (if p1 = (18 : Int32) then (1 : Int32) else (if p1 = (19 : Int32) then (1 : Int32) else (if p1 = (20 : Int32) then (1 : Int32) else (if p1 = (21 : Int32) then (1 : Int32) else (0 : Int32)))))))) := ⟨_, rfl⟩
  refine Gl.join (A := (s₁.setTop (mkF m 47 L0 [(.int v47_s0_8)]))) (fun J3_8 => ?_) ?_
  · by_cases hc3_1 : p1 = (15 : Int32)
    · skip
      refine Gl.st (B := (s₁.setTop (mkF m 42 L0 []))) (fun t k => XS.icmpYes X0.here hx rfl (pc0 := 3) (pc' := 42) rfl (hb hby d1_3) rfl (teq hc3_1).1 (by decide) (by decide) k) ?_
      refine Gl.st (B := (s₁.setTop (mkF m 43 L0 [(.int (1 : Int32))]))) (fun t k => XS.iconst X0.here hx rfl (hb hby d1_42) k) ?_
      refine Gl.st (B := (s₁.setTop (mkF m 47 L0 [(.int (1 : Int32))]))) (fun t k => XS.goto X0.here hx rfl (pc0 := 43) (pc' := 47) rfl (hb hby d1_43) (by decide) (by decide) k) ?_
      have ev47_s0_8 : v47_s0_8 = (1 : Int32) := by rw [hv47_s0_8, if_pos hc3_1]
      rw [ev47_s0_8] at J3_8
      exact J3_8
    · skip
      refine Gl.st (B := (s₁.setTop (mkF m 6 L0 []))) (fun t k => XS.icmpNo X0.here hx rfl (hb hby d1_3) rfl (feq hc3_1).1 k) ?_
      refine Gl.st (B := (s₁.setTop (mkF m 7 L0 [(.int p1)]))) (fun t k => XS.iloadN X0.here hx rfl (hb hby d1_6) (ldAt hL0 rfl) k) ?_
      refine Gl.st (B := (s₁.setTop (mkF m 9 L0 [(.int (16 : Int32)), (.int p1)]))) (fun t k => XS.bipush X0.here hx rfl (hb hby d1_7) k) ?_
      by_cases hc9_9 : p1 = (16 : Int32)
      · skip
        refine Gl.st (B := (s₁.setTop (mkF m 42 L0 []))) (fun t k => XS.icmpYes X0.here hx rfl (pc0 := 9) (pc' := 42) rfl (hb hby d1_9) rfl (teq hc9_9).1 (by decide) (by decide) k) ?_
        refine Gl.st (B := (s₁.setTop (mkF m 43 L0 [(.int (1 : Int32))]))) (fun t k => XS.iconst X0.here hx rfl (hb hby d1_42) k) ?_
        refine Gl.st (B := (s₁.setTop (mkF m 47 L0 [(.int (1 : Int32))]))) (fun t k => XS.goto X0.here hx rfl (pc0 := 43) (pc' := 47) rfl (hb hby d1_43) (by decide) (by decide) k) ?_
        have ev47_s0_8 : v47_s0_8 = (1 : Int32) := by rw [hv47_s0_8, if_neg hc3_1, if_pos hc9_9]
        rw [ev47_s0_8] at J3_8
        exact J3_8
      · skip
        refine Gl.st (B := (s₁.setTop (mkF m 12 L0 []))) (fun t k => XS.icmpNo X0.here hx rfl (hb hby d1_9) rfl (feq hc9_9).1 k) ?_
        refine Gl.st (B := (s₁.setTop (mkF m 13 L0 [(.int p1)]))) (fun t k => XS.iloadN X0.here hx rfl (hb hby d1_12) (ldAt hL0 rfl) k) ?_
        refine Gl.st (B := (s₁.setTop (mkF m 15 L0 [(.int (17 : Int32)), (.int p1)]))) (fun t k => XS.bipush X0.here hx rfl (hb hby d1_13) k) ?_
        by_cases hc15_10 : p1 = (17 : Int32)
        · skip
          refine Gl.st (B := (s₁.setTop (mkF m 42 L0 []))) (fun t k => XS.icmpYes X0.here hx rfl (pc0 := 15) (pc' := 42) rfl (hb hby d1_15) rfl (teq hc15_10).1 (by decide) (by decide) k) ?_
          refine Gl.st (B := (s₁.setTop (mkF m 43 L0 [(.int (1 : Int32))]))) (fun t k => XS.iconst X0.here hx rfl (hb hby d1_42) k) ?_
          refine Gl.st (B := (s₁.setTop (mkF m 47 L0 [(.int (1 : Int32))]))) (fun t k => XS.goto X0.here hx rfl (pc0 := 43) (pc' := 47) rfl (hb hby d1_43) (by decide) (by decide) k) ?_
          have ev47_s0_8 : v47_s0_8 = (1 : Int32) := by rw [hv47_s0_8, if_neg hc3_1, if_neg hc9_9, if_pos hc15_10]
          rw [ev47_s0_8] at J3_8
          exact J3_8
        · skip
          refine Gl.st (B := (s₁.setTop (mkF m 18 L0 []))) (fun t k => XS.icmpNo X0.here hx rfl (hb hby d1_15) rfl (feq hc15_10).1 k) ?_
          refine Gl.st (B := (s₁.setTop (mkF m 19 L0 [(.int p1)]))) (fun t k => XS.iloadN X0.here hx rfl (hb hby d1_18) (ldAt hL0 rfl) k) ?_
          refine Gl.st (B := (s₁.setTop (mkF m 21 L0 [(.int (18 : Int32)), (.int p1)]))) (fun t k => XS.bipush X0.here hx rfl (hb hby d1_19) k) ?_
          by_cases hc21_11 : p1 = (18 : Int32)
          · skip
            refine Gl.st (B := (s₁.setTop (mkF m 42 L0 []))) (fun t k => XS.icmpYes X0.here hx rfl (pc0 := 21) (pc' := 42) rfl (hb hby d1_21) rfl (teq hc21_11).1 (by decide) (by decide) k) ?_
            refine Gl.st (B := (s₁.setTop (mkF m 43 L0 [(.int (1 : Int32))]))) (fun t k => XS.iconst X0.here hx rfl (hb hby d1_42) k) ?_
            refine Gl.st (B := (s₁.setTop (mkF m 47 L0 [(.int (1 : Int32))]))) (fun t k => XS.goto X0.here hx rfl (pc0 := 43) (pc' := 47) rfl (hb hby d1_43) (by decide) (by decide) k) ?_
            have ev47_s0_8 : v47_s0_8 = (1 : Int32) := by rw [hv47_s0_8, if_neg hc3_1, if_neg hc9_9, if_neg hc15_10, if_pos hc21_11]
            rw [ev47_s0_8] at J3_8
            exact J3_8
          · skip
            refine Gl.st (B := (s₁.setTop (mkF m 24 L0 []))) (fun t k => XS.icmpNo X0.here hx rfl (hb hby d1_21) rfl (feq hc21_11).1 k) ?_
            refine Gl.st (B := (s₁.setTop (mkF m 25 L0 [(.int p1)]))) (fun t k => XS.iloadN X0.here hx rfl (hb hby d1_24) (ldAt hL0 rfl) k) ?_
            refine Gl.st (B := (s₁.setTop (mkF m 27 L0 [(.int (19 : Int32)), (.int p1)]))) (fun t k => XS.bipush X0.here hx rfl (hb hby d1_25) k) ?_
            by_cases hc27_12 : p1 = (19 : Int32)
            · skip
              refine Gl.st (B := (s₁.setTop (mkF m 42 L0 []))) (fun t k => XS.icmpYes X0.here hx rfl (pc0 := 27) (pc' := 42) rfl (hb hby d1_27) rfl (teq hc27_12).1 (by decide) (by decide) k) ?_
              refine Gl.st (B := (s₁.setTop (mkF m 43 L0 [(.int (1 : Int32))]))) (fun t k => XS.iconst X0.here hx rfl (hb hby d1_42) k) ?_
              refine Gl.st (B := (s₁.setTop (mkF m 47 L0 [(.int (1 : Int32))]))) (fun t k => XS.goto X0.here hx rfl (pc0 := 43) (pc' := 47) rfl (hb hby d1_43) (by decide) (by decide) k) ?_
              have ev47_s0_8 : v47_s0_8 = (1 : Int32) := by rw [hv47_s0_8, if_neg hc3_1, if_neg hc9_9, if_neg hc15_10, if_neg hc21_11, if_pos hc27_12]
              rw [ev47_s0_8] at J3_8
              exact J3_8
            · skip
              refine Gl.st (B := (s₁.setTop (mkF m 30 L0 []))) (fun t k => XS.icmpNo X0.here hx rfl (hb hby d1_27) rfl (feq hc27_12).1 k) ?_
              refine Gl.st (B := (s₁.setTop (mkF m 31 L0 [(.int p1)]))) (fun t k => XS.iloadN X0.here hx rfl (hb hby d1_30) (ldAt hL0 rfl) k) ?_
              refine Gl.st (B := (s₁.setTop (mkF m 33 L0 [(.int (20 : Int32)), (.int p1)]))) (fun t k => XS.bipush X0.here hx rfl (hb hby d1_31) k) ?_
              by_cases hc33_13 : p1 = (20 : Int32)
              · skip
                refine Gl.st (B := (s₁.setTop (mkF m 42 L0 []))) (fun t k => XS.icmpYes X0.here hx rfl (pc0 := 33) (pc' := 42) rfl (hb hby d1_33) rfl (teq hc33_13).1 (by decide) (by decide) k) ?_
                refine Gl.st (B := (s₁.setTop (mkF m 43 L0 [(.int (1 : Int32))]))) (fun t k => XS.iconst X0.here hx rfl (hb hby d1_42) k) ?_
                refine Gl.st (B := (s₁.setTop (mkF m 47 L0 [(.int (1 : Int32))]))) (fun t k => XS.goto X0.here hx rfl (pc0 := 43) (pc' := 47) rfl (hb hby d1_43) (by decide) (by decide) k) ?_
                have ev47_s0_8 : v47_s0_8 = (1 : Int32) := by rw [hv47_s0_8, if_neg hc3_1, if_neg hc9_9, if_neg hc15_10, if_neg hc21_11, if_neg hc27_12, if_pos hc33_13]
                rw [ev47_s0_8] at J3_8
                exact J3_8
              · skip
                refine Gl.st (B := (s₁.setTop (mkF m 36 L0 []))) (fun t k => XS.icmpNo X0.here hx rfl (hb hby d1_33) rfl (feq hc33_13).1 k) ?_
                refine Gl.st (B := (s₁.setTop (mkF m 37 L0 [(.int p1)]))) (fun t k => XS.iloadN X0.here hx rfl (hb hby d1_36) (ldAt hL0 rfl) k) ?_
                refine Gl.st (B := (s₁.setTop (mkF m 39 L0 [(.int (21 : Int32)), (.int p1)]))) (fun t k => XS.bipush X0.here hx rfl (hb hby d1_37) k) ?_
                by_cases hc39_14 : p1 = (21 : Int32)
                · skip
                  refine Gl.st (B := (s₁.setTop (mkF m 42 L0 []))) (fun t k => XS.icmpNo X0.here hx rfl (hb hby d1_39) rfl (teq hc39_14).2 k) ?_
                  refine Gl.st (B := (s₁.setTop (mkF m 43 L0 [(.int (1 : Int32))]))) (fun t k => XS.iconst X0.here hx rfl (hb hby d1_42) k) ?_
                  refine Gl.st (B := (s₁.setTop (mkF m 47 L0 [(.int (1 : Int32))]))) (fun t k => XS.goto X0.here hx rfl (pc0 := 43) (pc' := 47) rfl (hb hby d1_43) (by decide) (by decide) k) ?_
                  have ev47_s0_8 : v47_s0_8 = (1 : Int32) := by rw [hv47_s0_8, if_neg hc3_1, if_neg hc9_9, if_neg hc15_10, if_neg hc21_11, if_neg hc27_12, if_neg hc33_13, if_pos hc39_14]
                  rw [ev47_s0_8] at J3_8
                  exact J3_8
                · skip
                  refine Gl.st (B := (s₁.setTop (mkF m 46 L0 []))) (fun t k => XS.icmpYes X0.here hx rfl (pc0 := 39) (pc' := 46) rfl (hb hby d1_39) rfl (feq hc39_14).2 (by decide) (by decide) k) ?_
                  refine Gl.st (B := (s₁.setTop (mkF m 47 L0 [(.int (0 : Int32))]))) (fun t k => XS.iconst X0.here hx rfl (hb hby d1_46) k) ?_
                  have ev47_s0_8 : v47_s0_8 = (0 : Int32) := by rw [hv47_s0_8, if_neg hc3_1, if_neg hc9_9, if_neg hc15_10, if_neg hc21_11, if_neg hc27_12, if_neg hc33_13, if_neg hc39_14]
                  rw [ev47_s0_8] at J3_8
                  exact J3_8
  obtain ⟨fs, hr, hrun, hended, hW, hsame⟩ := X0.leave (v := some (.int (nar .boolean v47_s0_8))) (fun h => by rw [Bd.returns] at h; cases h)
  refine Gl.fin (retN X0 hx (t := .boolean) Bd.returns (by simp) (hb hby d1_47) hr) hrun hended ⟨_, _, rfl, ?_, ⟨_, rfl⟩, hW, hsame.mono (by decide) (by decide)⟩
  show Q1 Z p1 h0 n0 _ s₁.heap _
  rw [e0]
  exact ⟨(by subst hv47_s0_8; exact congrArg (fun z => some (Value.int z)) (own_nb rfl (own_nb rfl (own_nb rfl (own_nb rfl (own_nb rfl (own_nb rfl (own_nb rfl rfl)))))))), N0, rfl⟩
theorem pn_0 : plainName "com/example/tidemark/tidemark/server/copies/CopiesAnswersPinLaw" = true := by first | (simp [plainName, overriddenIn]; done) | decide +kernel
theorem pd_0_0 : parseMethodDescriptor "(B)Z" = some ⟨[.byte], some .boolean⟩ := by decide +kernel
theorem ef_0 (m : MethodId) (p1 : Int32) : entryFrame m #[(.int p1)] maxLocals = mkF m 0 #[.val (.int p1), .unset, .unset] [] := by first | (simp [entryFrame, mkF, argsToLocals, Value.category, maxLocals]; done) | rfl
theorem own_0_hc26_10 (p1 : Int32) (y1_2_1 : Int32) (r22_9 : Int32) (v20_s0_5 : Int32) (hy1_2_1 : y1_2_1 = (p1.toInt8.toInt32)) (hr22_9 : r22_9 = ((if y1_2_1 = (15 : Int32) then (1 : Int32) else (if y1_2_1 = (16 : Int32) then (1 : Int32) else (if y1_2_1 = (17 : Int32) then (1 : Int32) else (if y1_2_1 = (18 : Int32) then (1 : Int32) else (if y1_2_1 = (19 : Int32) then (1 : Int32) else (if y1_2_1 = (20 : Int32) then (1 : Int32) else (if y1_2_1 = (21 : Int32) then (1 : Int32) else (0 : Int32)))))))))) (hv20_s0_5 : v20_s0_5 = (if y1_2_1 < (15 : Int32) then (0 : Int32) else (if (21 : Int32) < y1_2_1 then (0 : Int32) else (1 : Int32))))  : r22_9 = v20_s0_5 := by
  subst hr22_9
  subst hv20_s0_5
  repeat' split
  all_goals first | rfl | (simp only [← Int32.toInt_inj, Int32.lt_iff_toInt_lt, Int32.reduceToInt] at * <;> omega)
def Q0 (Z : State) (p1 : Int32) (h0 : Heap) (n0 : Nat) (v : Option Value) (h : Heap) (L : List Loc) : Prop := v = some (.int (1 : Int32)) ∧ Fr n0 L
set_option maxRecDepth 65536 in
set_option maxHeartbeats 40000000 in
theorem rm0 (l : Launch) (Z : State) (a0 : Array Value) (hw : ∀ d ∈ tables_1, d.before a0 Z = true) (ws : List Jvm.Cond) (p1 : Int32) (h0 : Heap) (n0 : Nat) (Z0 : n0 ≤ h0.size) :
    MetFree l x (head1 (Jvm.Cond.code x code maxLocals ret :: ws) room_1) (fun a U => a = #[(.int p1)] ∧ Z.Warmed39 U.vm ∧ U.heap = h0) (fun _ _ _ _ _ => True) (fun _ U o U' => ∃ v L, o = .returned v ∧ Q0 Z p1 h0 n0 v U'.heap L ∧ FrameEnd U o U' L room_1.cells room_1.slots) := by
  refine MetFree.of_bodySF (plainFor_of_name pn_0) hisR ?_
  intro p e s m args below meth c s₁ Bd hml0 hP hK
  obtain ⟨rfl, hZ, hh⟩ := hP
  have hx := Bd.exec
  have hby := Bd.bytes
  have hml : c.maxLocals = 3 := hml0
  have hown : s.vm.findClass "com/example/tidemark/tidemark/server/copies/CopiesAnswersPinLaw" = some m.cls := findClass_of_methodNamed Bd.named
  have hnm := (name_of_methodNamed Bd.named Bd.method).1
  have X0 : Stand p l e room_1 s m #[(.int p1)] below meth c s₁ [] 0 0 := Stand.of_body Bd
  have e0 : s₁.heap = h0 := by rw [← hh, Bd.state]; rfl
  have N0 := Fr.nil n0
  refine (show Gl p e below (fun o U' => ∃ v L, o = .returned v ∧ Q0 Z p1 h0 n0 v U'.heap L ∧ FrameEnd s o U' L room_1.cells room_1.slots) (s₁.setTop (entryFrame m #[(.int p1)] maxLocals)) from ?_)
  obtain ⟨L0, hL0⟩ : ∃ z : Array Slot, z = #[.val (.int p1), .unset, .unset] := ⟨_, rfl⟩
  refine Gl.st (B := (s₁.setTop (mkF m 0 L0 []))) (fun t k => castTop (efAt hL0 (ef_0 m p1)) k) ?_
  refine Gl.st (B := (s₁.setTop (mkF m 1 L0 [(.int p1)]))) (fun t k => XS.iloadN X0.here hx rfl (hb hby at_0) (ldAt hL0 rfl) k) ?_
  refine Gl.st (B := (s₁.setTop (mkF m 2 L0 [(.int (p1.toInt8.toInt32))]))) (fun t k => XS.i2b X0.here hx rfl (hb hby at_1) rfl k) ?_
  obtain ⟨y1_2_1, hy1_2_1⟩ : ∃ z : Int32, z = (p1.toInt8.toInt32) := ⟨_, rfl⟩
  refine Gl.cast (B := (s₁.setTop (mkF m 2 L0 [(.int y1_2_1)]))) (by rw [hy1_2_1]) ?_
  obtain ⟨L2, hL2⟩ : ∃ z : Array Slot, z = #[.val (.int p1), .val (.int y1_2_1), .unset] := ⟨_, rfl⟩
  refine Gl.st (B := (s₁.setTop (mkF m 3 L2 []))) (fun t k => XS.istoreN X0.here hx rfl (hb hby at_2) rfl (l' := L2) (stAt hL0 hL2 rfl rfl) k) ?_
  refine Gl.st (B := (s₁.setTop (mkF m 4 L2 [(.int y1_2_1)]))) (fun t k => XS.iloadN X0.here hx rfl (hb hby at_3) (ldAt hL2 rfl) k) ?_
  refine Gl.st (B := (s₁.setTop (mkF m 6 L2 [(.int (15 : Int32)), (.int y1_2_1)]))) (fun t k => XS.bipush X0.here hx rfl (hb hby at_4) k) ?_
  obtain ⟨v20_s0_5, hv20_s0_5⟩ : ∃ z : Int32, z = (if y1_2_1 < (15 : Int32) then (0 : Int32) else (if (21 : Int32) < y1_2_1 then (0 : Int32) else (1 : Int32))) := ⟨_, rfl⟩
  refine Gl.join (A := (s₁.setTop (mkF m 20 L2 [(.int v20_s0_5)]))) (fun J6_5 => ?_) ?_
  · by_cases hc6_3 : y1_2_1 < (15 : Int32)
    · skip
      refine Gl.st (B := (s₁.setTop (mkF m 19 L2 []))) (fun t k => XS.icmpYes X0.here hx rfl (pc0 := 6) (pc' := 19) rfl (hb hby at_6) rfl (tlt hc6_3).1 (by decide) (by decide) k) ?_
      refine Gl.st (B := (s₁.setTop (mkF m 20 L2 [(.int (0 : Int32))]))) (fun t k => XS.iconst X0.here hx rfl (hb hby at_19) k) ?_
      have ev20_s0_5 : v20_s0_5 = (0 : Int32) := by rw [hv20_s0_5, if_pos hc6_3]
      rw [ev20_s0_5] at J6_5
      exact J6_5
    · skip
      refine Gl.st (B := (s₁.setTop (mkF m 9 L2 []))) (fun t k => XS.icmpNo X0.here hx rfl (hb hby at_6) rfl (flt hc6_3).1 k) ?_
      refine Gl.st (B := (s₁.setTop (mkF m 10 L2 [(.int y1_2_1)]))) (fun t k => XS.iloadN X0.here hx rfl (hb hby at_9) (ldAt hL2 rfl) k) ?_
      refine Gl.st (B := (s₁.setTop (mkF m 12 L2 [(.int (21 : Int32)), (.int y1_2_1)]))) (fun t k => XS.bipush X0.here hx rfl (hb hby at_10) k) ?_
      by_cases hc12_6 : (21 : Int32) < y1_2_1
      · skip
        refine Gl.st (B := (s₁.setTop (mkF m 19 L2 []))) (fun t k => XS.icmpYes X0.here hx rfl (pc0 := 12) (pc' := 19) rfl (hb hby at_12) rfl (tlt hc12_6).2.2.1 (by decide) (by decide) k) ?_
        refine Gl.st (B := (s₁.setTop (mkF m 20 L2 [(.int (0 : Int32))]))) (fun t k => XS.iconst X0.here hx rfl (hb hby at_19) k) ?_
        have ev20_s0_5 : v20_s0_5 = (0 : Int32) := by rw [hv20_s0_5, if_neg hc6_3, if_pos hc12_6]
        rw [ev20_s0_5] at J6_5
        exact J6_5
      · skip
        refine Gl.st (B := (s₁.setTop (mkF m 15 L2 []))) (fun t k => XS.icmpNo X0.here hx rfl (hb hby at_12) rfl (flt hc12_6).2.2.1 k) ?_
        refine Gl.st (B := (s₁.setTop (mkF m 16 L2 [(.int (1 : Int32))]))) (fun t k => XS.iconst X0.here hx rfl (hb hby at_15) k) ?_
        refine Gl.st (B := (s₁.setTop (mkF m 20 L2 [(.int (1 : Int32))]))) (fun t k => XS.goto X0.here hx rfl (pc0 := 16) (pc' := 20) rfl (hb hby at_16) (by decide) (by decide) k) ?_
        have ev20_s0_5 : v20_s0_5 = (1 : Int32) := by rw [hv20_s0_5, if_neg hc6_3, if_neg hc12_6]
        rw [ev20_s0_5] at J6_5
        exact J6_5
  obtain ⟨L7, hL7⟩ : ∃ z : Array Slot, z = #[.val (.int p1), .val (.int y1_2_1), .val (.int v20_s0_5)] := ⟨_, rfl⟩
  refine Gl.st (B := (s₁.setTop (mkF m 21 L7 []))) (fun t k => XS.istoreN X0.here hx rfl (hb hby at_20) rfl (l' := L7) (stAt hL2 hL7 rfl rfl) k) ?_
  refine Gl.st (B := (s₁.setTop (mkF m 22 L7 [(.int y1_2_1)]))) (fun t k => XS.iloadN X0.here hx rfl (hb hby at_21) (ldAt hL7 rfl) k) ?_
  obtain ⟨_, _, ⟨T8, L8q, k8, n8⟩, -, X8, ⟨Lc8, hQ8, l8, y8, z8⟩, st8⟩ := Jvm.LawKit.callS X0 hx (y := (⟨"com/example/tidemark/tidemark/server/copies/Copies", "answers", "(B)Z"⟩ : MethodName)) hown (mvT hZ (tw hw 0 rfl)) (mvT hZ (tw hw 1 rfl)) (mvT hZ (tw hw 2 rfl)) (mvT hZ (tw hw 3 rfl)) (by decide) (backOf (W := 0) (rm1 l Z a0 hw [] y1_2_1 h0 n0 Z0) hZ (tw hw 3 rfl) (tw hw 2 rfl) (by decide) (by decide)) (g := (mkF m 22 L7 [(.int y1_2_1)])) rfl (szAt hml hL7 rfl) (argsL := [(.int y1_2_1)]) (rest := []) (lenOf pd_0_0 rfl) rfl (by show 2 * 0 + _ ≤ _; exact Nat.le_of_eq rfl) (hb hby at_22) (fun _ _ => ⟨rfl, e0, (by decide : 0 + 0 ≤ _), (by decide : 0 + 0 ≤ _)⟩)
  dsimp only [Pt.U, Pt.locs, Pt.cells, Pt.slots] at X8 l8 y8 z8 st8 hQ8
  subst l8 y8 z8
  obtain ⟨rfl, N8q, eh8⟩ := hQ8
  have N8 := Fr.app N0 N8q
  refine Gl.st (B := (T8.setTop (mkF m 25 L7 [(.int ((if y1_2_1 = (15 : Int32) then (1 : Int32) else (if y1_2_1 = (16 : Int32) then (1 : Int32) else (if y1_2_1 = (17 : Int32) then (1 : Int32) else (if y1_2_1 = (18 : Int32) then (1 : Int32) else (if y1_2_1 = (19 : Int32) then (1 : Int32) else (if y1_2_1 = (20 : Int32) then (1 : Int32) else (if y1_2_1 = (21 : Int32) then (1 : Int32) else (0 : Int32))))))))))]))) (fun t k => st8 t k) ?_
  obtain ⟨r22_9, hr22_9⟩ : ∃ z : Int32, z = ((if y1_2_1 = (15 : Int32) then (1 : Int32) else (if y1_2_1 = (16 : Int32) then (1 : Int32) else (if y1_2_1 = (17 : Int32) then (1 : Int32) else (if y1_2_1 = (18 : Int32) then (1 : Int32) else (if y1_2_1 = (19 : Int32) then (1 : Int32) else (if y1_2_1 = (20 : Int32) then (1 : Int32) else (if y1_2_1 = (21 : Int32) then (1 : Int32) else (0 : Int32))))))))) := ⟨_, rfl⟩
  refine Gl.cast (B := (T8.setTop (mkF m 25 L7 [(.int r22_9)]))) (by rw [hr22_9]) ?_
  refine Gl.st (B := (T8.setTop (mkF m 26 L7 [(.int v20_s0_5), (.int r22_9)]))) (fun t k => XS.iloadN X8.here hx rfl (hb hby at_25) (ldAt hL7 rfl) k) ?_
  have hc26_10 : r22_9 = v20_s0_5 := own_0_hc26_10 p1 y1_2_1 r22_9 v20_s0_5 hy1_2_1 hr22_9 hv20_s0_5 
  refine Gl.st (B := (T8.setTop (mkF m 29 L7 []))) (fun t k => XS.icmpNo X8.here hx rfl (hb hby at_26) rfl (teq hc26_10).2 k) ?_
  refine Gl.st (B := (T8.setTop (mkF m 30 L7 [(.int (1 : Int32))]))) (fun t k => XS.iconst X8.here hx rfl (hb hby at_29) k) ?_
  refine Gl.st (B := (T8.setTop (mkF m 34 L7 [(.int (1 : Int32))]))) (fun t k => XS.goto X8.here hx rfl (pc0 := 30) (pc' := 34) rfl (hb hby at_30) (by decide) (by decide) k) ?_
  obtain ⟨fs, hr, hrun, hended, hW, hsame⟩ := X8.leave (v := some (.int (nar .boolean (1 : Int32)))) (fun h => by rw [Bd.returns] at h; cases h)
  refine Gl.fin (retN X8 hx (t := .boolean) Bd.returns (by simp) (hb hby at_34) hr) hrun hended ⟨_, _, rfl, ?_, ⟨_, rfl⟩, hW, hsame.mono (by decide) (by decide)⟩
  show Q0 Z p1 h0 n0 _ T8.heap _
  rw [eh8]
  exact ⟨rfl, N8⟩
set_option maxRecDepth 65536 in
set_option maxHeartbeats 40000000 in
theorem comes_1 {Post : Tables → Env → Array Value → State → Outcome → State → Prop} (hpost : ∀ tb e args s v u, (limb_1_1.after args s (.returned v) u = true ∧ limb_1_2.after args s (.returned v) u = true ∧ True) → FrameEnd s (.returned v) u (Jvm.fieldLocs frame_1_writes args s ++ Jvm.arrayLocs frame_1_arrays args s ++ Jvm.staticLocs frame_1_statics s) 0 0 → Post tb e args s (.returned v) u) :
    ArmFor flags0 classFile x code maxLocals ret World_1 tables_1 room_1 Calls_1 rest_1 Pre_1 Post := by
  intro l hfl _ _ p e ha hc hk s m args below hf hA hF happ hP
  obtain ⟨hcalls, hrest, hpre⟩ := hP
  obtain ⟨-, -, -, hnamed, -, -, -, hat⟩ := (Spec.applies_iff hf).mp happ
  obtain ⟨hg, hn⟩ := and_e (Cond.before_iff.mp (show (Jvm.Cond.and given_1 narrow_1).before args s = true from hpre))
  obtain ⟨g1, g2⟩ := and_e hg
  obtain ⟨w0, rfl⟩ : ∃ w0 : Value, args = #[w0] := by
    have hs : args.size = 1 := by simpa [Cond.value, given_1] using g1
    obtain ⟨L⟩ := args
    match L, hs with
    | [w0], _ => exact ⟨w0, rfl⟩
  have hw := fun d (hd : d ∈ tables_1) => atoms_spec (ws := Jvm.Cond.code x code maxLocals ret :: tables_1) hat d (List.mem_cons_of_mem _ hd)
  have hfit : Fit s := fun {y c} hc i hi => by
    obtain ⟨ha, rfl⟩ := Array.getElem?_eq_some_iff.mp hc
    have q := List.all_eq_true.mp ((Array.all_eq_true_iff_forall_mem.mp hF) _ (Array.getElem_mem ha)) i (List.mem_range.mpr hi)
    simpa [Array.getElem?_eq_getElem hi] using q
  obtain ⟨i0, ei0⟩ := is_v g2
  obtain rfl : w0 = (.int i0) := Option.some.inj ei0
  obtain ⟨n, o, h1, h2, h3, _, L, rfl, ⟨rfl, N⟩, hq⟩ := rm0 l s _ hw tables_1 i0 s.heap s.heap.size (Nat.le_refl _) p e ha hc hk s m _ below hf ((Spec.applies_iff_loose hf).mp happ).1 ⟨rfl, State.Warmed39.refl s, rfl⟩ trivial
  refine ⟨n, _, h1, h2, h3, hpost _ _ _ _ _ _ ⟨Cond.after_iff.mpr rfl, Cond.after_iff.mpr (eq_i res_at (Term.int_eval (1)) rfl), trivial⟩ ⟨hq.1, hq.2.1, (hq.2.2.sift fun y hy => Or.inr (N y hy)).mono (by decide) (by decide)⟩⟩
theorem main_1_1 : Claimed_1_1 := comes_1 fun _ _ _ _ _ _ h hF => ⟨h.1, hF⟩
theorem main_1_2 : Claimed_1_2 := comes_1 fun _ _ _ _ _ _ h hF => ⟨h.2.1, hF⟩
end Jvm.Pilot.@@N@@
namespace Jvm.Pilot.@@N@@
open Jvm Jvm.ClassFile Sem Op Lib Jvm.Free Jvm.Stand Jvm.Pilot.@@N@@.Jvm.D
/-! MADE BY PROGRAM (witnessworld.py) out of the Statement's table words and the real class files: 11 classes; the members and pool entries that the words name. The judged class is class 1, her method 1. -/
namespace start1
open Jvm.ClassFile
def u (s : String) : CpInfo := .utf8 (stringToUtf16 s)
/-- a pool by its gaps: so many unusable entries, then the entry; so many at the end -/
def gap : Nat → List CpInfo → List CpInfo
  | 0, r => r
  | n + 1, r => .unusable :: gap n r
def poolList (es : List (Nat × CpInfo)) (last : Nat) : List CpInfo := es.foldr (fun e r => gap e.1 (e.2 :: r)) (gap last [])
def pool (es : List (Nat × CpInfo)) (last : Nat) : Array CpInfo := ⟨poolList es last⟩
def fileOf (pool : Array CpInfo) (this : Nat) (attrs : Array Attribute := #[]) (ms : Array MethodInfo := #[]) (fl : Nat := 33) (sup : Nat := 0) (ifs : Array Nat := #[]) (fds : Array FieldInfo := #[]) : ClassFile where
  minorVersion := 0
  majorVersion := 65
  constantPool := pool
  accessFlags := fl
  thisClass := this
  superClass := sup
  interfaces := ifs
  fields := fds
  methods := ms
  attributes := attrs
def plain (name : String) (sup : Option ClassId) : Class where
  name := name
  kind := .ordinary
  loader := none
  accessFlags := 33
  super := sup
  interfaces := #[]
  cf := none
  fields := #[]
  methods := #[]
  instanceTypes := #[]
  staticTypes := #[]
  resolved := #[]
  callSites := []
  init := .initialized
  statics := none
  mirror := none

def pool0 : Array CpInfo := pool [(5, u "<init>"), (0, u "()V"), (1, .class_ 10), (1, u "java/lang/Object")] 113

def k0m0 : Method := { name := "<init>", desc := "()V", sig := { parameters := [], returnType := none }, accessFlags := 1, code := none }
/-- java/lang/Object -/
def k0 : Class := { plain "java/lang/Object" none with
  accessFlags := 33
  interfaces := #[]
  cf := some (fileOf pool0 8 #[] #[{ accessFlags := 1, nameIndex := 5, descriptorIndex := 6, attributes := #[] }] 33 0 #[] #[])
  fields := #[]
  methods := #[k0m0]
  instanceTypes := #[]
  staticTypes := #[]
  resolved := Array.replicate 124 none
  statics := none }

def pool1 : Array CpInfo := pool [(2, .class_ 4), (1, u "java/lang/Object"), (0, u "<init>"), (0, u "()V"), (0, .methodref 8 9), (0, .class_ 10), (0, .nameAndType 11 12), (0, u "com/example/tidemark/tidemark/server/copies/Copies"), (0, u "answers"), (0, u "(B)Z"), (0, .class_ 14), (0, u "com/example/tidemark/tidemark/server/copies/CopiesAnswersPinLaw"), (2, u "law"), (0, u "(I)Z")] 3

def k1m0 : Method := { name := "<init>", desc := "()V", sig := { parameters := [], returnType := none }, accessFlags := 2, code := none }
def k1c1 : Code := { maxStack := 2, maxLocals := 3, code := code, exceptionTable := #[], attributes := #[] }
def k1m1 : Method := { name := "law", desc := "(I)Z", sig := { parameters := [.int], returnType := some .boolean }, accessFlags := 9, code := some k1c1 }
/-- com/example/tidemark/tidemark/server/copies/CopiesAnswersPinLaw -/
def k1 : Class := { plain "com/example/tidemark/tidemark/server/copies/CopiesAnswersPinLaw" (some 0) with
  accessFlags := 49
  interfaces := #[]
  cf := some (fileOf pool1 13 #[] #[{ accessFlags := 2, nameIndex := 5, descriptorIndex := 6, attributes := #[] }, { accessFlags := 9, nameIndex := 17, descriptorIndex := 18, attributes := #[] }] 49 2 #[] #[])
  fields := #[]
  methods := #[k1m0, k1m1]
  instanceTypes := #[]
  staticTypes := #[]
  resolved := Array.replicate 22 none
  statics := none }

def pool2 : Array CpInfo := pool [(1, .class_ 2), (0, u "java/lang/AutoCloseable"), (0, .class_ 4), (0, u "java/lang/Object")] 7

/-- java/lang/AutoCloseable -/
def k2 : Class := { plain "java/lang/AutoCloseable" (some 0) with
  accessFlags := 1537
  interfaces := #[]
  cf := some (fileOf pool2 1 #[] #[] 1537 3 #[] #[])
  fields := #[]
  methods := #[]
  instanceTypes := #[]
  staticTypes := #[]
  resolved := Array.replicate 12 none
  statics := none }

def pool3 : Array CpInfo := pool [(1, .class_ 2), (0, u "java/io/Closeable"), (0, .class_ 4), (0, u "java/lang/Object"), (0, .class_ 6), (0, u "java/lang/AutoCloseable")] 7

/-- java/io/Closeable -/
def k3 : Class := { plain "java/io/Closeable" (some 0) with
  accessFlags := 1537
  interfaces := #[2]
  cf := some (fileOf pool3 1 #[] #[] 1537 3 #[5] #[])
  fields := #[]
  methods := #[]
  instanceTypes := #[]
  staticTypes := #[]
  resolved := Array.replicate 14 none
  statics := none }

def pool4 : Array CpInfo := pool [(2, .class_ 4), (1, u "java/lang/Object"), (6, .class_ 13), (1, u "com/example/tidemark/tidemark/server/copies/Copies"), (0, u "others"), (0, u "Ljava/util/List;"), (12, u "voting"), (0, u "Ljava/util/concurrent/ExecutorService;"), (6, u "incarnation"), (0, u "J"), (1, .class_ 41), (1, u "com/example/tidemark/tidemark/server/copies/Copies$Standing"), (1, u "Lcom/example/tidemark/tidemark/server/copies/Copies$Standing;"), (2, u "standing"), (2, u "node"), (0, u "Lcom/example/tidemark/tidemark/core/Cluster$Node;"), (2, u "self"), (0, u "I"), (2, u "store"), (0, u "Lcom/example/tidemark/tidemark/server/store/Store;"), (8, u "log"), (0, u "Lcom/example/tidemark/tidemark/server/store/CopyLog;"), (2, u "role"), (0, u "Lcom/example/tidemark/tidemark/server/copies/Copies$Role;"), (2, u "leads"), (0, u "Ljava/util/function/LongConsumer;"), (33, u "majority"), (2, u "listening"), (0, u "[J"), (12, u "ticker"), (0, u "Ljava/lang/Thread;"), (19, u "sticky"), (18, u "election"), (17, u "serving"), (0, u "Z"), (12, u "leader"), (17, u "closed"), (50, u "changing"), (6, u "leading"), (144, .class_ 422), (1, u "com/example/tidemark/tidemark/server/copies/Copies$Judge"), (2, .class_ 427), (1, u "com/example/tidemark/tidemark/server/copies/Copies$Answer"), (20, u "ledSince"), (2, u "forced"), (18, .class_ 472), (1, u "com/example/tidemark/tidemark/server/copies/Copies$Role"), (24, u "commit"), (34, .class_ 534), (1, u "com/example/tidemark/tidemark/server/copies/Copies$FromCopy"), (147, .class_ 683), (0, u "java/io/Closeable"), (0, u "HEARTBEAT_MILLIS"), (1, u "ELECTION_MIN_MILLIS"), (0, u "ELECTION_MAX_MILLIS"), (0, u "STICKY_MILLIS"), (0, u "LEASE_MILLIS"), (0, u "BATCH_BYTES"), (2, u "INCARNATION_TIMEOUT_MILLIS"), (1, u "PART_REFUSED"), (0, u "B"), (1, u "PART_TAKEN"), (1, u "CHECKPOINT_HELD"), (8, u "answers"), (0, u "(B)Z")] 107

def k4c0 : Code := { maxStack := 2, maxLocals := 1, code := prog_111_method_2_code, exceptionTable := #[], attributes := #[] }
def k4m0 : Method := { name := "answers", desc := "(B)Z", sig := { parameters := [.byte], returnType := some .boolean }, accessFlags := 9, code := some k4c0 }
/-- com/example/tidemark/tidemark/server/copies/Copies -/
def k4 : Class := { plain "com/example/tidemark/tidemark/server/copies/Copies" (some 0) with
  accessFlags := 49
  interfaces := #[3]
  cf := some (fileOf pool4 11 #[.nestMembers #[532, 420, 425, 39, 470]] #[{ accessFlags := 9, nameIndex := 709, descriptorIndex := 710, attributes := #[] }] 49 2 #[682] #[{ accessFlags := 24, nameIndex := 684, descriptorIndex := 37, attributes := #[] }, { accessFlags := 24, nameIndex := 686, descriptorIndex := 37, attributes := #[] }, { accessFlags := 24, nameIndex := 687, descriptorIndex := 37, attributes := #[] }, { accessFlags := 24, nameIndex := 688, descriptorIndex := 37, attributes := #[] }, { accessFlags := 24, nameIndex := 689, descriptorIndex := 37, attributes := #[] }, { accessFlags := 24, nameIndex := 690, descriptorIndex := 37, attributes := #[] }, { accessFlags := 24, nameIndex := 693, descriptorIndex := 54, attributes := #[] }, { accessFlags := 24, nameIndex := 695, descriptorIndex := 696, attributes := #[] }, { accessFlags := 24, nameIndex := 698, descriptorIndex := 696, attributes := #[] }, { accessFlags := 24, nameIndex := 700, descriptorIndex := 696, attributes := #[] }, { accessFlags := 18, nameIndex := 49, descriptorIndex := 50, attributes := #[] }, { accessFlags := 18, nameIndex := 53, descriptorIndex := 54, attributes := #[] }, { accessFlags := 18, nameIndex := 57, descriptorIndex := 58, attributes := #[] }, { accessFlags := 18, nameIndex := 67, descriptorIndex := 68, attributes := #[] }, { accessFlags := 18, nameIndex := 71, descriptorIndex := 72, attributes := #[] }, { accessFlags := 18, nameIndex := 75, descriptorIndex := 76, attributes := #[] }, { accessFlags := 18, nameIndex := 14, descriptorIndex := 15, attributes := #[] }, { accessFlags := 18, nameIndex := 28, descriptorIndex := 29, attributes := #[] }, { accessFlags := 18, nameIndex := 127, descriptorIndex := 128, attributes := #[] }, { accessFlags := 18, nameIndex := 110, descriptorIndex := 54, attributes := #[] }, { accessFlags := 18, nameIndex := 36, descriptorIndex := 37, attributes := #[] }, { accessFlags := 18, nameIndex := 113, descriptorIndex := 114, attributes := #[] }, { accessFlags := 2, nameIndex := 46, descriptorIndex := 43, attributes := #[] }, { accessFlags := 2, nameIndex := 199, descriptorIndex := 54, attributes := #[] }, { accessFlags := 2, nameIndex := 148, descriptorIndex := 37, attributes := #[] }, { accessFlags := 2, nameIndex := 167, descriptorIndex := 37, attributes := #[] }, { accessFlags := 2, nameIndex := 497, descriptorIndex := 37, attributes := #[] }, { accessFlags := 2, nameIndex := 275, descriptorIndex := 37, attributes := #[] }, { accessFlags := 2, nameIndex := 448, descriptorIndex := 37, attributes := #[] }, { accessFlags := 2, nameIndex := 451, descriptorIndex := 37, attributes := #[] }, { accessFlags := 2, nameIndex := 268, descriptorIndex := 186, attributes := #[] }, { accessFlags := 2, nameIndex := 185, descriptorIndex := 186, attributes := #[] }, { accessFlags := 2, nameIndex := 217, descriptorIndex := 186, attributes := #[] }])
  fields := #[{ name := "HEARTBEAT_MILLIS", type := .long, accessFlags := 24, slot := 0, constantValue := 0 }, { name := "ELECTION_MIN_MILLIS", type := .long, accessFlags := 24, slot := 1, constantValue := 0 }, { name := "ELECTION_MAX_MILLIS", type := .long, accessFlags := 24, slot := 2, constantValue := 0 }, { name := "STICKY_MILLIS", type := .long, accessFlags := 24, slot := 3, constantValue := 0 }, { name := "LEASE_MILLIS", type := .long, accessFlags := 24, slot := 4, constantValue := 0 }, { name := "BATCH_BYTES", type := .long, accessFlags := 24, slot := 5, constantValue := 0 }, { name := "INCARNATION_TIMEOUT_MILLIS", type := .int, accessFlags := 24, slot := 6, constantValue := 0 }, { name := "PART_REFUSED", type := .byte, accessFlags := 24, slot := 7, constantValue := 0 }, { name := "PART_TAKEN", type := .byte, accessFlags := 24, slot := 8, constantValue := 0 }, { name := "CHECKPOINT_HELD", type := .byte, accessFlags := 24, slot := 9, constantValue := 0 }, { name := "node", type := (.object "com/example/tidemark/tidemark/core/Cluster$Node"), accessFlags := 18, slot := 0, constantValue := 0 }, { name := "self", type := .int, accessFlags := 18, slot := 1, constantValue := 0 }, { name := "store", type := (.object "com/example/tidemark/tidemark/server/store/Store"), accessFlags := 18, slot := 2, constantValue := 0 }, { name := "log", type := (.object "com/example/tidemark/tidemark/server/store/CopyLog"), accessFlags := 18, slot := 3, constantValue := 0 }, { name := "role", type := (.object "com/example/tidemark/tidemark/server/copies/Copies$Role"), accessFlags := 18, slot := 4, constantValue := 0 }, { name := "leads", type := (.object "java/util/function/LongConsumer"), accessFlags := 18, slot := 5, constantValue := 0 }, { name := "others", type := (.object "java/util/List"), accessFlags := 18, slot := 6, constantValue := 0 }, { name := "voting", type := (.object "java/util/concurrent/ExecutorService"), accessFlags := 18, slot := 7, constantValue := 0 }, { name := "ticker", type := (.object "java/lang/Thread"), accessFlags := 18, slot := 8, constantValue := 0 }, { name := "majority", type := .int, accessFlags := 18, slot := 9, constantValue := 0 }, { name := "incarnation", type := .long, accessFlags := 18, slot := 10, constantValue := 0 }, { name := "listening", type := (.array .long), accessFlags := 18, slot := 11, constantValue := 0 }, { name := "standing", type := (.object "com/example/tidemark/tidemark/server/copies/Copies$Standing"), accessFlags := 2, slot := 12, constantValue := 0 }, { name := "leader", type := .int, accessFlags := 2, slot := 13, constantValue := 0 }, { name := "sticky", type := .long, accessFlags := 2, slot := 14, constantValue := 0 }, { name := "election", type := .long, accessFlags := 2, slot := 15, constantValue := 0 }, { name := "commit", type := .long, accessFlags := 2, slot := 16, constantValue := 0 }, { name := "leading", type := .long, accessFlags := 2, slot := 17, constantValue := 0 }, { name := "ledSince", type := .long, accessFlags := 2, slot := 18, constantValue := 0 }, { name := "forced", type := .long, accessFlags := 2, slot := 19, constantValue := 0 }, { name := "changing", type := .boolean, accessFlags := 2, slot := 20, constantValue := 0 }, { name := "serving", type := .boolean, accessFlags := 2, slot := 21, constantValue := 0 }, { name := "closed", type := .boolean, accessFlags := 2, slot := 22, constantValue := 0 }]
  methods := #[k4m0]
  instanceTypes := #[(.object "com/example/tidemark/tidemark/core/Cluster$Node"), .int, (.object "com/example/tidemark/tidemark/server/store/Store"), (.object "com/example/tidemark/tidemark/server/store/CopyLog"), (.object "com/example/tidemark/tidemark/server/copies/Copies$Role"), (.object "java/util/function/LongConsumer"), (.object "java/util/List"), (.object "java/util/concurrent/ExecutorService"), (.object "java/lang/Thread"), .int, .long, (.array .long), (.object "com/example/tidemark/tidemark/server/copies/Copies$Standing"), .int, .long, .long, .long, .long, .long, .long, .boolean, .boolean, .boolean]
  staticTypes := #[.long, .long, .long, .long, .long, .long, .int, .byte, .byte, .byte]
  resolved := Array.replicate 818 none
  statics := none }

def pool5 : Array CpInfo := pool [(1, u "java/lang/Cloneable"), (0, .class_ 1), (0, u "java/lang/Object"), (0, .class_ 3)] 3

/-- java/lang/Cloneable -/
def k5 : Class := { plain "java/lang/Cloneable" (some 0) with
  accessFlags := 1537
  interfaces := #[]
  cf := some (fileOf pool5 2 #[] #[] 1537 4 #[] #[])
  fields := #[]
  methods := #[]
  instanceTypes := #[]
  staticTypes := #[]
  resolved := Array.replicate 8 none
  statics := none }

def pool6 : Array CpInfo := pool [(1, u "java/io/Serializable"), (0, .class_ 1), (0, u "java/lang/Object"), (0, .class_ 3)] 3

/-- java/io/Serializable -/
def k6 : Class := { plain "java/io/Serializable" (some 0) with
  accessFlags := 1537
  interfaces := #[]
  cf := some (fileOf pool6 2 #[] #[] 1537 4 #[] #[])
  fields := #[]
  methods := #[]
  instanceTypes := #[]
  staticTypes := #[]
  resolved := Array.replicate 8 none
  statics := none }

/-- the primitive byte -/
def k7 : Class := { plain "byte" none with kind := .primitive 'B', accessFlags := 0x411 }
/-- [B -/
def k8 : Class := { plain "[B" (some 0) with kind := .array 7 .byte, interfaces := #[5, 6], accessFlags := 1041 }

/-- the primitive int -/
def k9 : Class := { plain "int" none with kind := .primitive 'I', accessFlags := 0x411 }
/-- [I -/
def k10 : Class := { plain "[I" (some 0) with kind := .array 9 .int, interfaces := #[5, 6], accessFlags := 1041 }

def heap : Heap := #[]
def classes : Array Class := #[k0, k1, k2, k3, k4, k5, k6, k7, k8, k9, k10]
def interned : List (Array UInt16 × Addr) := []
def slotsUsed : Nat := 0
def theMethod : MethodId := ⟨1, 1⟩
def args0 : Array Value := #[.int 5]
def aboutOver (below : List Frame) : State where
  vm := { classes := classes, interned := interned.toArray }
  heap := heap
  slotsUsed := slotsUsed
  threads := #[{ frames := .invoking theMethod args0 :: below }]
def below0 : List Frame := [.native { method := ⟨0, 0⟩, args := #[] }]
def about1 : State := aboutOver below0
def p0 : Program := .bare "" "" ""
def e0 : Env := launch0.env 0 0 0
theorem w_frames : about1.frames = Frame.invoking theMethod args0 :: below0 := rfl
set_option maxRecDepth 65536 in
theorem w_args : argsFit about1.vm theMethod args0 = true := by decide +kernel
set_option maxRecDepth 65536 in
theorem w_heap : heapFits about1 = true := by decide +kernel
set_option maxRecDepth 65536 in
theorem w_runnable : about1.curStatus? = some .runnable := by decide +kernel
set_option maxRecDepth 65536 in
theorem w_alone : about1.alone = true := by decide +kernel
set_option maxRecDepth 65536 in
theorem w_named : about1.methodNamed? x = some theMethod := by decide +kernel
set_option maxRecDepth 65536 in
theorem w_hears : about1.hears theMethod below0 = true := by decide +kernel
set_option maxRecDepth 65536 in
theorem w_ripe : about1.ripe theMethod args0 below0 = true := by decide +kernel
theorem w_running : about1.status = .running := rfl
set_option maxRecDepth 65536 in
theorem w_room : about1.hasRoom e0.platform room_1 = true :=
  launch0.hasRoom_least _ room_1 (by decide +kernel) (by decide +kernel) (by decide +kernel) (by decide +kernel) (by decide +kernel) (by decide +kernel)
theorem allAtoms_all (ts : List Jvm.Cond) (a : Array Jvm.Value) (st : Jvm.State) : (allAtoms ts).before a st = ts.all (fun c => c.before a st) := by
  induction ts with
  | nil => rfl
  | cons c t ih =>
    show (Jvm.Cond.and c (allAtoms t)).before a st = _
    rw [Jvm.Cond.before_and, ih, List.all_cons]
def words1 : List Jvm.Cond := Jvm.Cond.code x code maxLocals ret :: tables_1
/-- a 'code' word, met by the world's own term for the bytes: nothing is compared byte by byte -/
theorem code_word {y : MethodName} {bytes : ByteArray} {mx : Nat} {rt : Option FieldType} {a : Array Value} {s : State} {m : MethodId} {meth : Method} {c : Code} (h1 : s.methodNamed? y = some m) (h2 : s.vm.method? m = some meth) (h3 : meth.code = some c) (h4 : c.code = bytes)
    (h5 : (c.maxLocals == mx && c.exceptionTable.isEmpty && decide (c.maxStack ≤ mostOperands) && decide (meth.sig.returnType = rt) && !meth.locks && decide (parseMethodDescriptor y.desc = some meth.sig)) = true) : (Jvm.Cond.code y bytes mx rt).before a s = true := by
  simp only [Bool.and_eq_true, beq_iff_eq, Bool.not_eq_true', decide_eq_true_eq] at h5
  obtain ⟨⟨⟨⟨⟨g1, g2⟩, g3⟩, g4⟩, g5⟩, g6⟩ := h5
  simp [Cond.before, Cond.holds, Cond.value, h1, h2, h3, h4, g1, g2, g3, g4, g5, g6]
def isCode : Jvm.Cond → Bool
  | .code _ _ _ _ => true
  | _ => false
theorem all_split {L : List Jvm.Cond} {P : Jvm.Cond → Bool} (h1 : L.all (fun c => isCode c || P c) = true) (h2 : ∀ c ∈ L.filter isCode, P c = true) : L.all P = true := by
  refine List.all_eq_true.mpr fun c hc => ?_
  have h := List.all_eq_true.mp h1 c hc
  rcases Bool.eq_false_or_eq_true (isCode c) with hi | hi
  · exact h2 c (List.mem_filter.mpr ⟨hc, hi⟩)
  · simpa [hi] using h
set_option maxRecDepth 65536 in
theorem w_c0 : (Jvm.Cond.code x code maxLocals ret).before args0 about1 = true := code_word (m := ⟨1, 1⟩) (meth := k1m1) (c := k1c1) (by decide +kernel) rfl rfl rfl (by decide +kernel)
set_option maxRecDepth 65536 in
theorem w_c1 : (Jvm.Cond.code ({ cls := "com/example/tidemark/tidemark/server/copies/Copies", name := "answers", desc := "(B)Z" } : Jvm.MethodName) prog_111_method_2_code (1 : Nat) (Option.some Jvm.ClassFile.FieldType.boolean)).before args0 about1 = true := code_word (m := ⟨4, 0⟩) (meth := k4m0) (c := k4c0) (by decide +kernel) rfl rfl rfl (by decide +kernel)
def codes1 : List Jvm.Cond := [Jvm.Cond.code x code maxLocals ret, Jvm.Cond.code ({ cls := "com/example/tidemark/tidemark/server/copies/Copies", name := "answers", desc := "(B)Z" } : Jvm.MethodName) prog_111_method_2_code (1 : Nat) (Option.some Jvm.ClassFile.FieldType.boolean)]
set_option maxRecDepth 65536 in
theorem codes_eq : words1.filter isCode = codes1 := rfl
theorem w_codes : ∀ c ∈ words1.filter isCode, c.before args0 about1 = true := by
  rw [codes_eq]
  intro c hc
  simp only [codes1, List.mem_cons, List.not_mem_nil, or_false] at hc
  rcases hc with rfl | rfl
  · exact w_c0
  · exact w_c1
set_option maxRecDepth 65536 in
theorem w_t1 : words1.all (fun c => isCode c || c.before args0 about1) = true := by decide +kernel
theorem w_tables : (allAtoms (Jvm.Cond.code x code maxLocals ret :: tables_1)).before args0 about1 = true := by
  rw [allAtoms_all]
  show words1.all (fun c => c.before args0 about1) = true
  refine all_split ?_ w_codes
  rw [w_t1]
set_option maxRecDepth 65536 in
theorem w_case : (Jvm.Cond.and given_1 narrow_1).before args0 about1 = true := by decide +kernel
theorem w_applies : (headSpec (Jvm.Cond.code x code maxLocals ret :: tables_1) room_1).applies x e0.platform about1 = true :=
  (Spec.applies_iff w_frames).mpr ⟨w_running, w_runnable, w_alone, w_named, w_hears, w_ripe, w_room, w_tables⟩
theorem atStart : AtStart classFile x code maxLocals ret World_1 tables_1 room_1 Calls_1 rest_1 Pre_1 launch0 p0 e0 about1 theMethod args0 below0 :=
  ⟨lists_1, trivial, launch0.admits_env _ _ _, launch0.least_env, fairChoices_fair.cas, fairChoices_fair.clock, w_frames, w_args, w_heap, w_applies, trivial, trivial, w_case⟩
end start1
theorem witness_1 : WitnessClaimed_1 := ⟨start1.p0, start1.e0, start1.about1, start1.theMethod, start1.args0, start1.below0, start1.atStart⟩
end Jvm.Pilot.@@N@@
