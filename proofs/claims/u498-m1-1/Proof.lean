import JvmDerived
import JvmDerived.Pilot.@@N@@Statement
import JvmDerived.Pilot.@@N@@Code
set_option linter.unusedVariables false
set_option linter.unusedSimpArgs false
namespace Jvm.RoadKit
open Sem ClassFile Op Lib Jvm.Stand Jvm.Free Jvm.LawKit
section New
variable {p : Program} {l : Launch} {e : Env} {R : Room} {s : State} {m : MethodId} {args : Array Value} {below : List Frame} {meth : Method} {c : Code} {T : State} {locs : List Loc} {cells slots : Nat}
theorem retI (X : Stand p l e R s m args below meth c T locs cells slots) (hx : p.tables.exec = Jvm.exec) {pc : Nat} {Ls : Array Slot} {z : Int32} {rest : List Value} (hret : meth.sig.returnType = some .int) (hd : decode c.code pc = .ok (.ireturn, 1)) {fs : List Frame}
    (hl : ∀ (f : JFrame) (acts : List Action), f.method = m → f.locked = none → f.entered = [] → (doReturn e (T.setTop f) acts (some (.int z))).1 = T.setFrames fs) : Steps p.tables e below (T.setTop (mkF m pc Ls (.int z :: rest))) (T.setFrames fs) := by
  have hm' : T.vm.method? m = some meth := X.method'
  have hn : narrow .int (.int z) = .int z := rfl
  show Steps p.tables e below (T.setTop { method := m, pc := pc, locals := Ls, stack := _ :: rest, locked := none }) _
  jvm_step X.here [X.here.top, hx, hd, hm', hret, hn]
  first | (intro acts; rw [hl _ acts rfl rfl rfl]) | rw [hl _ _ rfl rfl rfl]
  exact Steps.refl _
end New
end Jvm.RoadKit
namespace Jvm.Pilot.@@N@@
open Jvm Jvm.ClassFile Sem Op Lib Jvm.Free Jvm.Stand Jvm.LawKit Jvm.RoadKit Bundle Jvm.Pilot.@@N@@.Jvm.D
def Gl (p : Program) (e : Env) (below : List Frame) (Q : Outcome → State → Prop) (A : State) : Prop := ∃ t o, Steps p.tables e below A t ∧ t.status = .running ∧ Ended t below o ∧ Q o t
theorem Gl.st {p : Program} {e : Env} {below : List Frame} {Q : Outcome → State → Prop} {A B : State} (k : ∀ t, Steps p.tables e below B t → Steps p.tables e below A t) (h : Gl p e below Q B) : Gl p e below Q A := by
  obtain ⟨t, o, h1, r⟩ := h
  exact ⟨t, o, k t h1, r⟩
theorem Gl.cast {p : Program} {e : Env} {below : List Frame} {Q : Outcome → State → Prop} {A B : State} (k : A = B) (h : Gl p e below Q B) : Gl p e below Q A := k ▸ h
theorem Gl.join {p : Program} {e : Env} {below : List Frame} {Q : Outcome → State → Prop} {A B : State} (k : Gl p e below Q A → Gl p e below Q B) (h : Gl p e below Q A) : Gl p e below Q B := k h
theorem Gl.fin {p : Program} {e : Env} {below : List Frame} {Q : Outcome → State → Prop} {A t : State} {o : Outcome} (h1 : Steps p.tables e below A t) (h2 : t.status = .running) (h3 : Ended t below o) (h4 : Q o t) : Gl p e below Q A := ⟨t, o, h1, h2, h3, h4⟩
theorem tw {a0 : Array Value} {Z : State} (hw : ∀ d ∈ tables_1, d.before a0 Z = true) (i : Nat) {d : Jvm.Cond} (h : tables_1[i]? = some d) : d.before a0 Z = true := hw _ (List.mem_of_getElem? h)
theorem ldAt {L M : Array Slot} (h : L = M) {k : Nat} {v : Slot} (q : M[k]? = some v) : L[k]? = some v := h ▸ q
theorem stAt {L M L' M' : Array Slot} {k : Nat} {v w : Value} (h : L = M) (h' : L' = M') (e : w = v) (q : storeLocals M k v = some M') : storeLocals L k w = some L' := by subst h h' e; exact q
theorem stAt' {L M L' M' : Array Slot} {k : Nat} {v w : Value} (h : L = M) (h' : L' = M') (e : w = v) (q : storeLocals M k v = some M') : storeLocals L k w = some L' := by subst h h' e; exact q
theorem szAt {L M : Array Slot} {k n : Nat} (h : k = n) (h' : L = M) (q : M.size = n) : L.size = k := by subst h h'; exact q
theorem efAt {m : MethodId} {L M : Array Slot} {f : JFrame} (h : L = M) (q : f = mkF m 0 M []) : f = mkF m 0 L [] := h ▸ q
theorem own_nb {c : Prop} [Decidable c] {a b : Int32} (ha : nar .boolean a = a) (hb : nar .boolean b = b) : nar .boolean (if c then a else b) = if c then a else b := by split <;> assumption
theorem own_arr_keep {Z : State} {h h' : Heap} {a : Addr} {c : Cell} {ty : FieldType} {ws : List Addr} (F : Arr Z h a c ty) (K : Keep h h' ws) (q : a ∉ ws) : Arr Z h' a c ty := ⟨K.2.1 a c F.1 q, F.2⟩
theorem own_selp {s : State} {args : Array Value} {y : MethodName} {n : Nat} (wi : (Jvm.Cond.instantiable y.cls n).before args s = true) (wp : (Jvm.Cond.privateMethod y).before args s = true) (wn : (Jvm.Cond.instanceMethod y).before args s = true) (hy : y.cls ≠ "java/lang/invoke/MethodHandle" ∧ y.cls ≠ "java/lang/invoke/VarHandle") : (Jvm.Cond.selects y.cls y y).before args s = true := by
  obtain ⟨c, k, h1, h2, -, h4, -⟩ := Cond.instantiable_spec wi
  have h5 : k.isInterface = false := by
    cases hi : k.isInterface with
    | false => rfl
    | true => rw [hi] at h4; cases h4
  exact Jvm.Stand.selects_self_of_private h1 h2 h5 (Cond.privateMethod_at wp) wn hy
theorem own_push {Z : State} {h h' : Heap} {a : Addr} {k : ClassId} {ty : FieldType} {z j : Int32} {vs : List Value} {dv v : Value} {c : Cell} (A : Arr Z h a c ty) (q1 : c.cls = k) (S : c.slots.size = z.toNatClampNeg) (q3 : ¬ z < 0) (H : Has c vs dv) (G : ∀ i, i < c.slots.size → fits ty (vs.getD i dv) = true) (hv : fits ty v = true) (W : Wr h h' a j.toNatClampNeg v) (hj : j.toNatClampNeg = vs.length) : Arv Z h' a k ty z (vs ++ [v]) dv := by
  have q : ∀ i, (vs ++ [dv]).getD i dv = vs.getD i dv := pad_rep vs dv 1
  have r := Arv.set (vs := vs ++ [dv]) A q1 S q3 (fun i hi => by rw [q]; exact H i hi) (fun i hi => by rw [q]; exact G i hi) hv W vs.length hj (by simp)
  have e : (vs ++ [dv]).set vs.length v = vs ++ [v] := by simp
  rw [e] at r
  exact r
theorem own_eqL {args : Array Value} {s : State} {t : Term} {z : Int64} (h : (Jvm.Cond.eq t (.long z)).value args s none s [] = some true) : t.eval args s none [] s = some (.long z) := by
  obtain ⟨x, y, ha, hb, k1, k2⟩ := cmp_v (Or.inl h)
  obtain rfl : y = .long z := Option.some.inj (hb.symm.trans (long_at z))
  obtain ⟨w, rfl⟩ : ∃ w, x = .long w := k2
  rw [ha, gotT (eq_L ha hb) h]
theorem own_eqI {args : Array Value} {s : State} {t : Term} {z : Int32} (h : (Jvm.Cond.eq t (.int z)).value args s none s [] = some true) : t.eval args s none [] s = some (.int z) := by
  obtain ⟨x, y, ha, hb, k1, k2⟩ := cmp_v (Or.inl h)
  obtain rfl : y = .int z := Option.some.inj (hb.symm.trans (Term.int_eval z))
  obtain ⟨w, rfl⟩ : ∃ w, x = .int w := k2
  rw [ha, gotT (Cond.eq_ints ha hb) h]
theorem own_sta_keep {Z : State} {h h' : Heap} {C n d : String} {v : Value} {ws : List Addr} (F : Sta Z h C n d v) (K : Keep h h' ws) (q : ∀ x ∈ ws, ∀ cell : Cell, h[x]? = some cell → cell.vm.isStatics = false) : Sta Z h' C n d v := by
  obtain ⟨cf, i, k, f, a, cell, h1, h2, h3, h4, h5, h6, r⟩ := F
  exact ⟨cf, i, k, f, a, cell, h1, h2, h3, h4, K.2.1 a cell h5 (fun y => by have := q a y cell h5; rw [h6] at this; cases this), h6, r⟩
theorem own_exa_plain {Z : State} {h : Heap} {a : Addr} {C : String} (F : Exa Z h a C) : ∀ cell : Cell, h[a]? = some cell → cell.vm.isStatics = false := fun cell hc => by
  obtain ⟨c', k, h1, -, -, h4, -⟩ := F
  rw [h1] at hc; cases hc; exact h4
theorem own_arv_plain {Z : State} {h : Heap} {a : Addr} {k : ClassId} {ty : FieldType} {z : Int32} {vs : List Value} {dv : Value} (F : Arv Z h a k ty z vs dv) : ∀ cell : Cell, h[a]? = some cell → cell.vm.isStatics = false := fun cell hc => by
  obtain ⟨c', A, -⟩ := F
  have := A.1; rw [this] at hc; cases hc; exact A.plain
theorem own_ch (q x : Int32) (h : x = ((q &&& (255 : Int32)).toUInt32.toUInt16.toUInt32.toInt32)) : ¬ ((255 : Int32) < x) := by
  rw [h, i2c_mask, Int32.lt_iff_toInt_lt]
  have a : (q &&& (255 : Int32)).toInt = q.toInt % 256 := c_mask q (255 : Int32) 8 (by decide) (by decide)
  simp only [Int32.reduceToInt]
  omega
theorem own_nbyte (q x : Int32) (h : x = q.toInt8.toInt32) : nar .byte x = x := by
  have a := c_i2b q
  rw [← h] at a
  have b := c_i2b x
  rw [← Int32.toInt_inj]
  show x.toInt8.toInt32.toInt = x.toInt
  omega
theorem own_len0 {args : Array Value} {s : State} {t : Term} {a : Addr} {cl : Cell} (ht : t.eval args s none [] s = some (.ref a)) (ha : s.arrayAt? a = some cl) (h : (Term.length t).eval args s none [] s = some (.int 0)) : cl.slots.size < 2 ^ 31 ∧ cl.slots.size.toInt32 = 0 := by
  have hl : cl.slots.size < 2 ^ 31 := by
    rcases Nat.lt_or_ge cl.slots.size (2 ^ 31) with q | q
    · exact q
    · simp [Term.eval, ht, ha, Nat.not_lt.mpr q] at h
  rw [len_f ht ha hl] at h
  exact ⟨hl, Value.int.inj (Option.some.inj h)⟩
theorem d15_0 : decode jdk_29_method_65_code 0 = .ok (.iload_n 0, 1) := by decide +kernel
theorem d15_1 : decode jdk_29_method_65_code 1 = .ok (.iload_n 1, 1) := by decide +kernel
theorem d15_2 : decode jdk_29_method_65_code 2 = .ok (.if_icmp .lt 7, 3) := by decide +kernel
theorem d15_5 : decode jdk_29_method_65_code 5 = .ok (.iload_n 0, 1) := by decide +kernel
theorem d15_6 : decode jdk_29_method_65_code 6 = .ok (.goto 4, 3) := by decide +kernel
theorem d15_9 : decode jdk_29_method_65_code 9 = .ok (.iload_n 1, 1) := by decide +kernel
theorem d15_10 : decode jdk_29_method_65_code 10 = .ok (.ireturn, 1) := by decide +kernel
theorem ef_15 (m : MethodId) (p1 : Int32) (p2 : Int32) : entryFrame m #[(.int p1), (.int p2)] 2 = mkF m 0 #[.val (.int p1), .val (.int p2)] [] := by first | (simp [entryFrame, mkF, argsToLocals, Value.category]; done) | rfl
def Q15 (Z : State) (p1 : Int32) (p2 : Int32) (h0 : Heap) (n0 : Nat) (v : Option Value) (h : Heap) (L : List Loc) : Prop := v = some (.int ((if p1 < p2 then p2 else p1))) ∧ Fr n0 L ∧ h = h0
set_option maxRecDepth 65536 in
set_option maxHeartbeats 40000000 in
theorem rm15 (l : Launch) (Z : State) (a0 : Array Value) (hw : ∀ d ∈ tables_1, d.before a0 Z = true) (ws : List Jvm.Cond) (p1 : Int32) (p2 : Int32) (h0 : Heap) (n0 : Nat) (Z0 : n0 ≤ h0.size) :
    MetFree l (⟨"java/lang/Math", "max", "(II)I"⟩ : MethodName) (head1 (Jvm.Cond.code (⟨"java/lang/Math", "max", "(II)I"⟩ : MethodName) jdk_29_method_65_code 2 (some .int) :: ws) ({ frames := 0, cells := 0, slots := 0, locals := 0 } : Room)) (fun a U => a = #[(.int p1), (.int p2)] ∧ Z.Warmed39 U.vm ∧ U.heap = h0) (fun _ _ _ _ _ => True) (fun _ U o U' => ∃ v L, o = .returned v ∧ Q15 Z p1 p2 h0 n0 v U'.heap L ∧ FrameEnd U o U' L ({ frames := 0, cells := 0, slots := 0, locals := 0 } : Room).cells ({ frames := 0, cells := 0, slots := 0, locals := 0 } : Room).slots) := by
  refine MetFree.of_bodySF (Jvm.Free.JP.mathPlain rfl (by decide +kernel)) hisR ?_
  intro p e s m args below meth c s₁ Bd hml0 hP hK
  obtain ⟨rfl, hZ, hh⟩ := hP
  have hx := Bd.exec
  have hby := Bd.bytes
  have hml : c.maxLocals = 2 := hml0
  have hown : s.vm.findClass "java/lang/Math" = some m.cls := findClass_of_methodNamed Bd.named
  have hnm := (name_of_methodNamed Bd.named Bd.method).1
  have X0 : Stand p l e ({ frames := 0, cells := 0, slots := 0, locals := 0 } : Room) s m #[(.int p1), (.int p2)] below meth c s₁ [] 0 0 := Stand.of_body Bd
  have e0 : s₁.heap = h0 := by rw [← hh, Bd.state]; rfl
  have N0 := Fr.nil n0
  have K0 : Keep h0 h0 [] := Keep.refl h0 _
  refine (show Gl p e below (fun o U' => ∃ v L, o = .returned v ∧ Q15 Z p1 p2 h0 n0 v U'.heap L ∧ FrameEnd s o U' L ({ frames := 0, cells := 0, slots := 0, locals := 0 } : Room).cells ({ frames := 0, cells := 0, slots := 0, locals := 0 } : Room).slots) (s₁.setTop (entryFrame m #[(.int p1), (.int p2)] 2)) from ?_)
  obtain ⟨L0, hL0⟩ : ∃ z : Array Slot, z = #[.val (.int p1), .val (.int p2)] := ⟨_, rfl⟩
  refine Gl.st (B := (s₁.setTop (mkF m 0 L0 []))) (fun t k => castTop (efAt hL0 (ef_15 m p1 p2)) k) ?_
  refine Gl.st (B := (s₁.setTop (mkF m 2 L0 [(.int p2), (.int p1)]))) (fun t k => XS.iloadN X0.here hx rfl (hb hby d15_0) (ldAt hL0 rfl) (XS.iloadN X0.here hx rfl (hb hby d15_1) (ldAt hL0 rfl) k)) ?_
  obtain ⟨v10_s0_2, hv10_s0_2⟩ : ∃ z : Int32, z = (if p1 < p2 then p2 else p1) := ⟨_, rfl⟩
  refine Gl.join (A := (s₁.setTop (mkF m 10 L0 [(.int v10_s0_2)]))) (fun J2_2 => ?_) ?_
  · by_cases hc2_1 : p1 < p2
    · skip
      refine Gl.st (B := (s₁.setTop (mkF m 10 L0 [(.int p2)]))) (fun t k => XS.icmpYes X0.here hx rfl (pc0 := 2) (pc' := 9) rfl (hb hby d15_2) rfl (tlt hc2_1).1 (by decide) (by decide) (XS.iloadN X0.here hx rfl (hb hby d15_9) (ldAt hL0 rfl) k)) ?_
      have ev10_s0_2 : v10_s0_2 = p2 := by rw [hv10_s0_2, if_pos hc2_1]
      rw [ev10_s0_2] at J2_2
      exact J2_2
    · skip
      refine Gl.st (B := (s₁.setTop (mkF m 10 L0 [(.int p1)]))) (fun t k => XS.icmpNo X0.here hx rfl (hb hby d15_2) rfl (flt hc2_1).1 (XS.iloadN X0.here hx rfl (hb hby d15_5) (ldAt hL0 rfl) (XS.goto X0.here hx rfl (pc0 := 6) (pc' := 10) rfl (hb hby d15_6) (by decide) (by decide) k))) ?_
      have ev10_s0_2 : v10_s0_2 = p1 := by rw [hv10_s0_2, if_neg hc2_1]
      rw [ev10_s0_2] at J2_2
      exact J2_2
  obtain ⟨fs, hr, hrun, hended, hW, hsame⟩ := X0.leave (v := some (.int v10_s0_2)) (fun h => by rw [Bd.returns] at h; cases h)
  refine Gl.fin (retI X0 hx Bd.returns (hb hby d15_10) hr) hrun hended ⟨_, _, rfl, ?_, ⟨_, rfl⟩, hW, hsame.mono (by decide) (by decide)⟩
  show Q15 Z p1 p2 h0 n0 _ s₁.heap _
  rw [e0]
  exact ⟨(by subst hv10_s0_2; rfl), N0, rfl⟩
theorem d2_0 : decode jdk_43_method_3_code 0 = .ok (.iload_n 0, 1) := by decide +kernel
theorem d2_1 : decode jdk_43_method_3_code 1 = .ok (.sipush 255, 3) := by decide +kernel
theorem d2_4 : decode jdk_43_method_3_code 4 = .ok (.if_icmp .gt 7, 3) := by decide +kernel
theorem d2_7 : decode jdk_43_method_3_code 7 = .ok (.iconst 1, 1) := by decide +kernel
theorem d2_8 : decode jdk_43_method_3_code 8 = .ok (.goto 4, 3) := by decide +kernel
theorem d2_12 : decode jdk_43_method_3_code 12 = .ok (.ireturn, 1) := by decide +kernel
theorem pn_2 : plainName "java/lang/StringLatin1" = true := by first | (simp [plainName, overriddenIn]; done) | decide +kernel
theorem ef_2 (m : MethodId) (p1 : Int32) : entryFrame m #[(.int p1)] 1 = mkF m 0 #[.val (.int p1)] [] := by first | (simp [entryFrame, mkF, argsToLocals, Value.category]; done) | rfl
def Q2 (Z : State) (p1 : Int32) (h0 : Heap) (n0 : Nat) (v : Option Value) (h : Heap) (L : List Loc) : Prop := v = some (.int (1 : Int32)) ∧ Fr n0 L ∧ h = h0
set_option maxRecDepth 65536 in
set_option maxHeartbeats 40000000 in
theorem rm2 (l : Launch) (Z : State) (a0 : Array Value) (hw : ∀ d ∈ tables_1, d.before a0 Z = true) (ws : List Jvm.Cond) (p1 : Int32) (h0 : Heap) (n0 : Nat) (Z0 : n0 ≤ h0.size) (hq4 : ¬ ((255 : Int32) < p1)) :
    MetFree l (⟨"java/lang/StringLatin1", "canEncode", "(C)Z"⟩ : MethodName) (head1 (Jvm.Cond.code (⟨"java/lang/StringLatin1", "canEncode", "(C)Z"⟩ : MethodName) jdk_43_method_3_code 1 (some .boolean) :: ws) ({ frames := 0, cells := 0, slots := 0, locals := 0 } : Room)) (fun a U => a = #[(.int p1)] ∧ Z.Warmed39 U.vm ∧ U.heap = h0) (fun _ _ _ _ _ => True) (fun _ U o U' => ∃ v L, o = .returned v ∧ Q2 Z p1 h0 n0 v U'.heap L ∧ FrameEnd U o U' L ({ frames := 0, cells := 0, slots := 0, locals := 0 } : Room).cells ({ frames := 0, cells := 0, slots := 0, locals := 0 } : Room).slots) := by
  refine MetFree.of_bodySF (plainFor_of_name pn_2) hisR ?_
  intro p e s m args below meth c s₁ Bd hml0 hP hK
  obtain ⟨rfl, hZ, hh⟩ := hP
  have hx := Bd.exec
  have hby := Bd.bytes
  have hml : c.maxLocals = 1 := hml0
  have hown : s.vm.findClass "java/lang/StringLatin1" = some m.cls := findClass_of_methodNamed Bd.named
  have hnm := (name_of_methodNamed Bd.named Bd.method).1
  have X0 : Stand p l e ({ frames := 0, cells := 0, slots := 0, locals := 0 } : Room) s m #[(.int p1)] below meth c s₁ [] 0 0 := Stand.of_body Bd
  have e0 : s₁.heap = h0 := by rw [← hh, Bd.state]; rfl
  have N0 := Fr.nil n0
  have K0 : Keep h0 h0 [] := Keep.refl h0 _
  refine (show Gl p e below (fun o U' => ∃ v L, o = .returned v ∧ Q2 Z p1 h0 n0 v U'.heap L ∧ FrameEnd s o U' L ({ frames := 0, cells := 0, slots := 0, locals := 0 } : Room).cells ({ frames := 0, cells := 0, slots := 0, locals := 0 } : Room).slots) (s₁.setTop (entryFrame m #[(.int p1)] 1)) from ?_)
  obtain ⟨L0, hL0⟩ : ∃ z : Array Slot, z = #[.val (.int p1)] := ⟨_, rfl⟩
  refine Gl.st (B := (s₁.setTop (mkF m 0 L0 []))) (fun t k => castTop (efAt hL0 (ef_2 m p1)) k) ?_
  refine Gl.st (B := (s₁.setTop (mkF m 12 L0 [(.int (1 : Int32))]))) (fun t k => XS.iloadN X0.here hx rfl (hb hby d2_0) (ldAt hL0 rfl) (XS.sipush X0.here hx rfl (hb hby d2_1) (XS.icmpNo X0.here hx rfl (hb hby d2_4) rfl (flt hq4).2.2.1 (XS.iconst X0.here hx rfl (hb hby d2_7) (XS.goto X0.here hx rfl (pc0 := 8) (pc' := 12) rfl (hb hby d2_8) (by decide) (by decide) k))))) ?_
  obtain ⟨fs, hr, hrun, hended, hW, hsame⟩ := X0.leave (v := some (.int (nar .boolean (1 : Int32)))) (fun h => by rw [Bd.returns] at h; cases h)
  refine Gl.fin (retN X0 hx (t := .boolean) Bd.returns (by simp) (hb hby d2_12) hr) hrun hended ⟨_, _, rfl, ?_, ⟨_, rfl⟩, hW, hsame.mono (by decide) (by decide)⟩
  show Q2 Z p1 h0 n0 _ s₁.heap _
  rw [e0]
  exact ⟨rfl, N0, rfl⟩
theorem d3_0 : decode jdk_43_method_46_code 0 = .ok (.iconst 1, 1) := by decide +kernel
theorem d3_1 : decode jdk_43_method_46_code 1 = .ok (.newarray .byte, 2) := by decide +kernel
theorem d3_3 : decode jdk_43_method_46_code 3 = .ok (.dup, 1) := by decide +kernel
theorem d3_4 : decode jdk_43_method_46_code 4 = .ok (.iconst 0, 1) := by decide +kernel
theorem d3_5 : decode jdk_43_method_46_code 5 = .ok (.iload_n 0, 1) := by decide +kernel
theorem d3_6 : decode jdk_43_method_46_code 6 = .ok (.i2b, 1) := by decide +kernel
theorem d3_7 : decode jdk_43_method_46_code 7 = .ok (.bastore, 1) := by decide +kernel
theorem d3_8 : decode jdk_43_method_46_code 8 = .ok (.areturn, 1) := by decide +kernel
theorem pn_3 : plainName "java/lang/StringLatin1" = true := by first | (simp [plainName, overriddenIn]; done) | decide +kernel
theorem ef_3 (m : MethodId) (p1 : Int32) : entryFrame m #[(.int p1)] 1 = mkF m 0 #[.val (.int p1)] [] := by first | (simp [entryFrame, mkF, argsToLocals, Value.category]; done) | rfl
def Q3 (Z : State) (p1 : Int32) (h0 : Heap) (n0 : Nat) (v : Option Value) (h : Heap) (L : List Loc) : Prop := ∃ (t0 : Addr) (kx_t0 : ClassId), v = some (.ref t0) ∧ Fr n0 L ∧ Keep h0 h [] ∧ h0.size ≤ t0 ∧ Exa Z h t0 "[B" ∧ Arv Z h t0 kx_t0 .byte (1 : Int32) [(.int (nar .byte ((p1.toInt8.toInt32))))] (.int (0 : Int32))
set_option maxRecDepth 65536 in
set_option maxHeartbeats 40000000 in
theorem rm3 (l : Launch) (Z : State) (a0 : Array Value) (hw : ∀ d ∈ tables_1, d.before a0 Z = true) (ws : List Jvm.Cond) (p1 : Int32) (h0 : Heap) (n0 : Nat) (Z0 : n0 ≤ h0.size) :
    MetFree l (⟨"java/lang/StringLatin1", "toBytes", "(C)[B"⟩ : MethodName) (head1 (Jvm.Cond.code (⟨"java/lang/StringLatin1", "toBytes", "(C)[B"⟩ : MethodName) jdk_43_method_46_code 1 (some (.array .byte)) :: ws) ({ frames := 0, cells := 1, slots := 1, locals := 0 } : Room)) (fun a U => a = #[(.int p1)] ∧ Z.Warmed39 U.vm ∧ U.heap = h0) (fun _ _ _ _ _ => True) (fun _ U o U' => ∃ v L, o = .returned v ∧ Q3 Z p1 h0 n0 v U'.heap L ∧ FrameEnd U o U' L ({ frames := 0, cells := 1, slots := 1, locals := 0 } : Room).cells ({ frames := 0, cells := 1, slots := 1, locals := 0 } : Room).slots) := by
  refine MetFree.of_bodySF (plainFor_of_name pn_3) hisR ?_
  intro p e s m args below meth c s₁ Bd hml0 hP hK
  obtain ⟨rfl, hZ, hh⟩ := hP
  have hx := Bd.exec
  have hby := Bd.bytes
  have hml : c.maxLocals = 1 := hml0
  have hown : s.vm.findClass "java/lang/StringLatin1" = some m.cls := findClass_of_methodNamed Bd.named
  have hnm := (name_of_methodNamed Bd.named Bd.method).1
  have X0 : Stand p l e ({ frames := 0, cells := 1, slots := 1, locals := 0 } : Room) s m #[(.int p1)] below meth c s₁ [] 0 0 := Stand.of_body Bd
  have e0 : s₁.heap = h0 := by rw [← hh, Bd.state]; rfl
  have N0 := Fr.nil n0
  have K0 : Keep h0 h0 [] := Keep.refl h0 _
  refine (show Gl p e below (fun o U' => ∃ v L, o = .returned v ∧ Q3 Z p1 h0 n0 v U'.heap L ∧ FrameEnd s o U' L ({ frames := 0, cells := 1, slots := 1, locals := 0 } : Room).cells ({ frames := 0, cells := 1, slots := 1, locals := 0 } : Room).slots) (s₁.setTop (entryFrame m #[(.int p1)] 1)) from ?_)
  obtain ⟨L0, hL0⟩ : ∃ z : Array Slot, z = #[.val (.int p1)] := ⟨_, rfl⟩
  refine Gl.st (B := (s₁.setTop (mkF m 0 L0 []))) (fun t k => castTop (efAt hL0 (ef_3 m p1)) k) ?_
  refine Gl.st (B := (s₁.setTop (mkF m 1 L0 [(.int (1 : Int32))]))) (fun t k => XS.iconst X0.here hx rfl (hb hby d3_0) k) ?_
  obtain ⟨T1, h1, k1, X1, e1, E1, A1, Ex1, st1⟩ := newPE X0 hx hZ (tw hw 14 rfl) e0 (g := (mkF m 1 L0 [(.int (1 : Int32))])) rfl (hb hby d3_1) rfl (by decide) (cap := 1) (by decide) (by decide) (by decide) (by decide) (ad := "[B") rfl
  obtain ⟨b1, gq1⟩ : ∃ z, z = h0.size := ⟨_, rfl⟩
  rw [← gq1] at A1 Ex1 st1
  have V1 : Arv Z h1 b1 k1 .byte (1 : Int32) [(.int (0 : Int32))] (.int (0 : Int32)) := (Arv.new A1 (by decide)).pad (pad_rep [] (.int (0 : Int32)) 1)
  have g_b1 : n0 ≤ b1 := Nat.le_trans Z0 (Nat.le_of_eq gq1.symm)
  have sz_b1 : h0.size ≤ b1 := Nat.le_trans K0.1 (Nat.le_of_eq gq1.symm)
  have lt_b1 := V1.lt
  have Zc2 : n0 ≤ h1.size := Nat.le_trans Z0 E1.1
  have K3 : Keep h0 h1 [] := K0.ext E1
  refine Gl.st (B := (T1.setTop (mkF m 3 L0 [(.ref b1)]))) st1 ?_
  refine Gl.st (B := (T1.setTop (mkF m 7 L0 [(.int (p1.toInt8.toInt32)), (.int (0 : Int32)), (.ref b1), (.ref b1)]))) (fun t k => XS.dup X1.here hx rfl (hb hby d3_3) rfl rfl (XS.iconst X1.here hx rfl (hb hby d3_4) (XS.iloadN X1.here hx rfl (hb hby d3_5) (ldAt hL0 rfl) (XS.i2b X1.here hx rfl (hb hby d3_6) rfl k)))) ?_
  obtain ⟨x7_4, hx7_4⟩ : ∃ z : Int32, z = (p1.toInt8.toInt32) := ⟨_, rfl⟩
  refine Gl.cast (B := (T1.setTop (mkF m 7 L0 [(.int x7_4), (.int (0 : Int32)), (.ref b1), (.ref b1)]))) (by rw [hx7_4]) ?_
  obtain ⟨cl5, Ar5, q5, S5, P5, H5, G5⟩ := (id V1)
  have hin7_5 : ¬ ((0 : Int32) < 0 ∨ cl5.slots.size ≤ ((0 : Int32)).toNatClampNeg) := inb_of S5 ⟨by decide, by decide⟩
  obtain ⟨T5, h5, X5, e5, W5, st5⟩ := stB X1 hx hZ e1 Ar5 (j := (0 : Int32)) hin7_5 (g := (mkF m 7 L0 [(.int x7_4), (.int (0 : Int32)), (.ref b1), (.ref b1)])) rfl rfl (hb hby d3_7)
  have V5 : Arv Z h5 b1 k1 .byte (1 : Int32) [(.int (nar .byte x7_4))] (.int (0 : Int32)) := Arv.set Ar5 q5 S5 P5 H5 G5 (fits_nar_byte _) W5 0 rfl (Nat.le_of_ble_eq_true rfl)
  have Zc6 : n0 ≤ h5.size := Nat.le_trans Zc2 (Nat.le_of_eq W5.size.symm)
  have K7 : Keep h0 h5 [] := K3.wr W5 (Or.inr sz_b1)
  have N5 := Fr.snoc X5 N0 g_b1
  refine Gl.st (B := (T5.setTop (mkF m 8 L0 [(.ref b1)]))) st5 ?_
  obtain ⟨fs, hr, hrun, hended, hW, hsame⟩ := X5.leave (v := some (.ref b1)) (fun h => by rw [Bd.returns] at h; cases h)
  refine Gl.fin (X5.areturnOut hx rfl Bd.returns rfl (hb hby d3_8) hr) hrun hended ⟨_, _, rfl, ?_, ⟨_, rfl⟩, hW, hsame.mono (by decide) (by decide)⟩
  show Q3 Z p1 h0 n0 _ T5.heap _
  rw [e5]
  have c8 := (Ex1.wr W5)
  exact ⟨b1, k1, rfl, N5, K7, sz_b1, c8, (by subst hx7_4; exact V5)⟩
theorem sn0 {Z : State} {a0 : Array Value} (hw : ∀ d ∈ tables_1, d.before a0 Z = true) : Jvm.RoadKit.slotOf Z "java/lang/String" "coder" "B" ≠ Jvm.RoadKit.slotOf Z "java/lang/String" "value" "[B" := slot_ne (Or.inr (tw hw 25 rfl)) (Or.inr (tw hw 23 rfl)) (by decide) (t := .byte) (t' := (.array .byte)) (by decide) (by decide)
theorem sn1 {Z : State} {a0 : Array Value} (hw : ∀ d ∈ tables_1, d.before a0 Z = true) : Jvm.RoadKit.slotOf Z "java/lang/String" "value" "[B" ≠ Jvm.RoadKit.slotOf Z "java/lang/String" "coder" "B" := slot_ne (Or.inr (tw hw 23 rfl)) (Or.inr (tw hw 25 rfl)) (by decide) (t := (.array .byte)) (t' := .byte) (by decide) (by decide)
theorem d4_0 : decode jdk_42_method_151_code 0 = .ok (.aload_n 0, 1) := by decide +kernel
theorem d4_1 : decode jdk_42_method_151_code 1 = .ok (.invokespecial 1, 3) := by decide +kernel
theorem d4_4 : decode jdk_42_method_151_code 4 = .ok (.aload_n 0, 1) := by decide +kernel
theorem d4_5 : decode jdk_42_method_151_code 5 = .ok (.aload_n 1, 1) := by decide +kernel
theorem d4_6 : decode jdk_42_method_151_code 6 = .ok (.putfield 9, 3) := by decide +kernel
theorem d4_9 : decode jdk_42_method_151_code 9 = .ok (.aload_n 0, 1) := by decide +kernel
theorem d4_10 : decode jdk_42_method_151_code 10 = .ok (.iload_n 2, 1) := by decide +kernel
theorem d4_11 : decode jdk_42_method_151_code 11 = .ok (.putfield 15, 3) := by decide +kernel
theorem d4_14 : decode jdk_42_method_151_code 14 = .ok (.return_, 1) := by decide +kernel
theorem pn_4 : plainName "java/lang/String" = true := by first | (simp [plainName, overriddenIn]; done) | decide +kernel
theorem ef_4 (m : MethodId) (a1 : Addr) (a2 : Addr) (p3 : Int32) : entryFrame m #[(.ref a1), (.ref a2), (.int p3)] 3 = mkF m 0 #[.val (.ref a1), .val (.ref a2), .val (.int p3)] [] := by first | (simp [entryFrame, mkF, argsToLocals, Value.category]; done) | rfl
def Q4 (Z : State) (a1 : Addr) (a2 : Addr) (p3 : Int32) (u_value_a1 : Value) (u_coder_a1 : Value) (h0 : Heap) (n0 : Nat) (v : Option Value) (h : Heap) (L : List Loc) : Prop := v = none ∧ Fr n0 L ∧ Keep h0 h [a1] ∧ Exa Z h a1 "java/lang/String" ∧ Fld Z h a1 "java/lang/String" "coder" "B" (.int (nar .byte p3)) ∧ Fld Z h a1 "java/lang/String" "value" "[B" (.ref a2)
set_option maxRecDepth 65536 in
set_option maxHeartbeats 40000000 in
theorem rm4 (l : Launch) (Z : State) (a0 : Array Value) (hw : ∀ d ∈ tables_1, d.before a0 Z = true) (ws : List Jvm.Cond) (a1 : Addr) (a2 : Addr) (p3 : Int32) (u_value_a1 : Value) (u_coder_a1 : Value) (h0 : Heap) (n0 : Nat) (Z0 : n0 ≤ h0.size) (F_value_a1 : Fld Z h0 a1 "java/lang/String" "value" "[B" u_value_a1) (F_coder_a1 : Fld Z h0 a1 "java/lang/String" "coder" "B" u_coder_a1) (E_a1 : Exa Z h0 a1 "java/lang/String") (g_a1 : n0 ≤ a1) :
    MetFree l (⟨"java/lang/String", "<init>", "([BB)V"⟩ : MethodName) (head1 (Jvm.Cond.code (⟨"java/lang/String", "<init>", "([BB)V"⟩ : MethodName) jdk_42_method_151_code 3 none :: ws) ({ frames := 1, cells := 0, slots := 0, locals := 12 } : Room)) (fun a U => a = #[(.ref a1), (.ref a2), (.int p3)] ∧ Z.Warmed39 U.vm ∧ U.heap = h0) (fun _ _ _ _ _ => True) (fun _ U o U' => ∃ v L, o = .returned v ∧ Q4 Z a1 a2 p3 u_value_a1 u_coder_a1 h0 n0 v U'.heap L ∧ FrameEnd U o U' L ({ frames := 1, cells := 0, slots := 0, locals := 12 } : Room).cells ({ frames := 1, cells := 0, slots := 0, locals := 12 } : Room).slots) := by
  refine MetFree.of_bodySF (plainFor_of_name pn_4) hisR ?_
  intro p e s m args below meth c s₁ Bd hml0 hP hK
  obtain ⟨rfl, hZ, hh⟩ := hP
  have hx := Bd.exec
  have hby := Bd.bytes
  have hml : c.maxLocals = 3 := hml0
  have hown : s.vm.findClass "java/lang/String" = some m.cls := findClass_of_methodNamed Bd.named
  have hnm := (name_of_methodNamed Bd.named Bd.method).1
  have X0 : Stand p l e ({ frames := 1, cells := 0, slots := 0, locals := 12 } : Room) s m #[(.ref a1), (.ref a2), (.int p3)] below meth c s₁ [] 0 0 := Stand.of_body Bd
  have e0 : s₁.heap = h0 := by rw [← hh, Bd.state]; rfl
  have N0 := Fr.nil n0
  have K0 : Keep h0 h0 [a1] := Keep.refl h0 _
  refine (show Gl p e below (fun o U' => ∃ v L, o = .returned v ∧ Q4 Z a1 a2 p3 u_value_a1 u_coder_a1 h0 n0 v U'.heap L ∧ FrameEnd s o U' L ({ frames := 1, cells := 0, slots := 0, locals := 12 } : Room).cells ({ frames := 1, cells := 0, slots := 0, locals := 12 } : Room).slots) (s₁.setTop (entryFrame m #[(.ref a1), (.ref a2), (.int p3)] 3)) from ?_)
  obtain ⟨L0, hL0⟩ : ∃ z : Array Slot, z = #[.val (.ref a1), .val (.ref a2), .val (.int p3)] := ⟨_, rfl⟩
  refine Gl.st (B := (s₁.setTop (mkF m 0 L0 []))) (fun t k => castTop (efAt hL0 (ef_4 m a1 a2 p3)) k) ?_
  refine Gl.st (B := (s₁.setTop (mkF m 1 L0 [(.ref a1)]))) (fun t k => XS.aloadN X0.here hx rfl (hb hby d4_0) (ldAt hL0 rfl) rfl k) ?_
  obtain ⟨T1, X1, e1, st1⟩ := initO X0 hx hZ hown (tw hw 19 rfl) (tw hw 20 rfl) (tw hw 21 rfl) e0 (g := (mkF m 1 L0 [(.ref a1)])) rfl (szAt hml hL0 rfl) rfl (hb hby d4_1) (by decide) (W := 0) (by show 2 * 0 + _ ≤ _; exact Nat.le_of_eq rfl) (by decide)
  refine Gl.st (B := (T1.setTop (mkF m 4 L0 []))) st1 ?_
  refine Gl.st (B := (T1.setTop (mkF m 6 L0 [(.ref a2), (.ref a1)]))) (fun t k => XS.aloadN X1.here hx rfl (hb hby d4_4) (ldAt hL0 rfl) rfl (XS.aloadN X1.here hx rfl (hb hby d4_5) (ldAt hL0 rfl) rfl k)) ?_
  obtain ⟨T2, h2, X2, e2, W2, st2⟩ := putF X1 hx hZ hown (host := "") (Or.inl (tw hw 22 rfl)) Via.refl e1 F_value_a1 E_a1 (Or.inr ⟨(tw hw 23 rfl), rfl, hnm⟩) (tw hw 10 rfl) (ty := (.array .byte)) (by decide) rfl rfl (g := (mkF m 6 L0 [(.ref a2), (.ref a1)])) rfl rfl (hb hby d4_6)
  have Fw2 := F_value_a1.same W2
  have Zc3 : n0 ≤ h2.size := Nat.le_trans Z0 (Nat.le_of_eq W2.size.symm)
  have K4 : Keep h0 h2 [a1] := K0.wr W2 (Or.inl (List.mem_of_getElem? (i := 0) rfl))
  have N2 := Fr.snoc X2 N0 g_a1
  refine Gl.st (B := (T2.setTop (mkF m 9 L0 []))) st2 ?_
  refine Gl.st (B := (T2.setTop (mkF m 11 L0 [(.int p3), (.ref a1)]))) (fun t k => XS.aloadN X2.here hx rfl (hb hby d4_9) (ldAt hL0 rfl) rfl (XS.iloadN X2.here hx rfl (hb hby d4_10) (ldAt hL0 rfl) k)) ?_
  have c5 := (E_a1.wr W2)
  have c6 := (F_coder_a1.other W2 (Or.inr (sn0 hw)))
  obtain ⟨T7, h7, X7, e7, W7, st7⟩ := putFN X2 hx hZ hown (tw hw 24 rfl) Via.refl e2 c6 c5 (Or.inr ⟨(tw hw 25 rfl), rfl, hnm⟩) (tw hw 10 rfl) (ty := .byte) (v' := (.int (nar .byte p3))) (by decide) rfl (fits_nar_byte _) (g := (mkF m 11 L0 [(.int p3), (.ref a1)])) rfl rfl (hb hby d4_11)
  have Fw7 := c6.same W7
  have Zc8 : n0 ≤ h7.size := Nat.le_trans Zc3 (Nat.le_of_eq W7.size.symm)
  have K9 : Keep h0 h7 [a1] := K4.wr W7 (Or.inl (List.mem_of_getElem? (i := 0) rfl))
  have N7 := Fr.snoc X7 N2 g_a1
  refine Gl.st (B := (T7.setTop (mkF m 14 L0 []))) st7 ?_
  obtain ⟨fs, hr, hrun, hended, hW, hsame⟩ := X7.leave (v := none) (fun _ => rfl)
  refine Gl.fin (X7.returnOut hx Bd.returns (hb hby d4_14) hr) hrun hended ⟨_, _, rfl, ?_, ⟨_, rfl⟩, hW, hsame.mono (by decide) (by decide)⟩
  show Q4 Z a1 a2 p3 u_value_a1 u_coder_a1 h0 n0 _ T7.heap _
  rw [e7]
  have c10 := (c5.wr W7)
  have c11 := (Fw2.other W7 (Or.inr (sn1 hw)))
  exact ⟨rfl, N7, K9, c10, Fw7, c11⟩
theorem d1_0 : decode jdk_42_method_139_code 0 = .ok (.getstatic 38, 3) := by decide +kernel
theorem d1_3 : decode jdk_42_method_139_code 3 = .ok (.ifCond .eq 23, 3) := by decide +kernel
theorem d1_6 : decode jdk_42_method_139_code 6 = .ok (.iload_n 0, 1) := by decide +kernel
theorem d1_7 : decode jdk_42_method_139_code 7 = .ok (.invokestatic 1015, 3) := by decide +kernel
theorem d1_10 : decode jdk_42_method_139_code 10 = .ok (.ifCond .eq 16, 3) := by decide +kernel
theorem d1_13 : decode jdk_42_method_139_code 13 = .ok (.new 10, 3) := by decide +kernel
theorem d1_16 : decode jdk_42_method_139_code 16 = .ok (.dup, 1) := by decide +kernel
theorem d1_17 : decode jdk_42_method_139_code 17 = .ok (.iload_n 0, 1) := by decide +kernel
theorem d1_18 : decode jdk_42_method_139_code 18 = .ok (.invokestatic 1018, 3) := by decide +kernel
theorem d1_21 : decode jdk_42_method_139_code 21 = .ok (.iconst 0, 1) := by decide +kernel
theorem d1_22 : decode jdk_42_method_139_code 22 = .ok (.invokespecial 209, 3) := by decide +kernel
theorem d1_25 : decode jdk_42_method_139_code 25 = .ok (.areturn, 1) := by decide +kernel
theorem pn_1 : plainName "java/lang/String" = true := by first | (simp [plainName, overriddenIn]; done) | decide +kernel
theorem pd_1_0 : parseMethodDescriptor "(C)Z" = some ⟨[.char], some .boolean⟩ := by decide +kernel
theorem pd_1_1 : parseMethodDescriptor "(C)[B" = some ⟨[.char], some (.array .byte)⟩ := by decide +kernel
theorem pd_1_2 : parseMethodDescriptor "([BB)V" = some ⟨[(.array .byte), .byte], none⟩ := by decide +kernel
theorem ef_1 (m : MethodId) (p1 : Int32) : entryFrame m #[(.int p1)] 1 = mkF m 0 #[.val (.int p1)] [] := by first | (simp [entryFrame, mkF, argsToLocals, Value.category]; done) | rfl
def Q1 (Z : State) (p1 : Int32) (z_COMP1 : Int32) (h0 : Heap) (n0 : Nat) (v : Option Value) (h : Heap) (L : List Loc) : Prop := ∃ (t0 : Addr) (t1 : Addr) (kx_t1 : ClassId), v = some (.ref t0) ∧ Fr n0 L ∧ Keep h0 h [] ∧ h0.size ≤ t0 ∧ h0.size ≤ t1 ∧ Exa Z h t0 "java/lang/String" ∧ Fld Z h t0 "java/lang/String" "coder" "B" (.int ((nar .byte (0 : Int32)))) ∧ Fld Z h t0 "java/lang/String" "value" "[B" (.ref t1) ∧ Exa Z h t1 "[B" ∧ Arv Z h t1 kx_t1 .byte (1 : Int32) [(.int (nar .byte ((p1.toInt8.toInt32))))] (.int (0 : Int32))
set_option maxRecDepth 65536 in
set_option maxHeartbeats 40000000 in
theorem rm1 (l : Launch) (Z : State) (a0 : Array Value) (hw : ∀ d ∈ tables_1, d.before a0 Z = true) (ws : List Jvm.Cond) (p1 : Int32) (z_COMP1 : Int32) (h0 : Heap) (n0 : Nat) (Z0 : n0 ≤ h0.size) (S_COMP1 : Sta Z h0 "java/lang/String" "COMPACT_STRINGS" "Z" (.int z_COMP1)) (hq3 : ¬ (z_COMP1 = (0 : Int32))) (hr7_hq4 : ¬ ((255 : Int32) < p1)) :
    MetFree l (⟨"java/lang/String", "valueOf", "(C)Ljava/lang/String;"⟩ : MethodName) (head1 (Jvm.Cond.code (⟨"java/lang/String", "valueOf", "(C)Ljava/lang/String;"⟩ : MethodName) jdk_42_method_139_code 1 (some (.object "java/lang/String")) :: ws) ({ frames := 2, cells := 2, slots := 5, locals := 27 } : Room)) (fun a U => a = #[(.int p1)] ∧ Z.Warmed39 U.vm ∧ U.heap = h0) (fun _ _ _ _ _ => True) (fun _ U o U' => ∃ v L, o = .returned v ∧ Q1 Z p1 z_COMP1 h0 n0 v U'.heap L ∧ FrameEnd U o U' L ({ frames := 2, cells := 2, slots := 5, locals := 27 } : Room).cells ({ frames := 2, cells := 2, slots := 5, locals := 27 } : Room).slots) := by
  refine MetFree.of_bodySF (plainFor_of_name pn_1) hisR ?_
  intro p e s m args below meth c s₁ Bd hml0 hP hK
  obtain ⟨rfl, hZ, hh⟩ := hP
  have hx := Bd.exec
  have hby := Bd.bytes
  have hml : c.maxLocals = 1 := hml0
  have hown : s.vm.findClass "java/lang/String" = some m.cls := findClass_of_methodNamed Bd.named
  have hnm := (name_of_methodNamed Bd.named Bd.method).1
  have X0 : Stand p l e ({ frames := 2, cells := 2, slots := 5, locals := 27 } : Room) s m #[(.int p1)] below meth c s₁ [] 0 0 := Stand.of_body Bd
  have e0 : s₁.heap = h0 := by rw [← hh, Bd.state]; rfl
  have N0 := Fr.nil n0
  have K0 : Keep h0 h0 [] := Keep.refl h0 _
  refine (show Gl p e below (fun o U' => ∃ v L, o = .returned v ∧ Q1 Z p1 z_COMP1 h0 n0 v U'.heap L ∧ FrameEnd s o U' L ({ frames := 2, cells := 2, slots := 5, locals := 27 } : Room).cells ({ frames := 2, cells := 2, slots := 5, locals := 27 } : Room).slots) (s₁.setTop (entryFrame m #[(.int p1)] 1)) from ?_)
  obtain ⟨L0, hL0⟩ : ∃ z : Array Slot, z = #[.val (.int p1)] := ⟨_, rfl⟩
  refine Gl.st (B := (s₁.setTop (mkF m 0 L0 []))) (fun t k => castTop (efAt hL0 (ef_1 m p1)) k) ?_
  obtain ⟨T1, X1, e1, st1⟩ := getS2 X0 hx hZ hown (host := "") (Or.inl (tw hw 4 rfl)) Via.refl e0 S_COMP1 (g := (mkF m 0 L0 [])) rfl (hb hby d1_0)
  refine Gl.st (B := (T1.setTop (mkF m 3 L0 [(.int z_COMP1)]))) st1 ?_
  refine Gl.st (B := (T1.setTop (mkF m 7 L0 [(.int p1)]))) (fun t k => XS.ifNo X1.here hx rfl (hb hby d1_3) rfl ((if0 _ _).trans (feq hq3).1) (XS.iloadN X1.here hx rfl (hb hby d1_6) (ldAt hL0 rfl) k)) ?_
  obtain ⟨_, _, ⟨T3, L3q, k3, n3⟩, -, X3, ⟨Lc3, hQ3, l3, y3, z3⟩, st3⟩ := Jvm.LawKit.callS X1 hx (y := (⟨"java/lang/StringLatin1", "canEncode", "(C)Z"⟩ : MethodName)) hown (mvT hZ (tw hw 5 rfl)) (mvT hZ (tw hw 6 rfl)) (mvT hZ (tw hw 7 rfl)) (mvT hZ (tw hw 8 rfl)) (by decide) (backOf (W := 0) (rm2 l Z a0 hw [] p1 h0 n0 Z0 hr7_hq4) hZ (tw hw 8 rfl) (tw hw 7 rfl) (by decide) (by decide)) (g := (mkF m 7 L0 [(.int p1)])) rfl (szAt hml hL0 rfl) (argsL := [(.int p1)]) (rest := []) (lenOf pd_1_0 rfl) rfl (by show 2 * 0 + _ ≤ _; exact Nat.le_of_eq rfl) (hb hby d1_7) (fun _ _ => ⟨rfl, e1, (by decide : 0 + 0 ≤ _), (by decide : 0 + 0 ≤ _)⟩)
  dsimp only [Pt.U, Pt.locs, Pt.cells, Pt.slots] at X3 l3 y3 z3 st3 hQ3
  subst l3 y3 z3
  obtain ⟨rfl, N3q, eh3⟩ := hQ3
  have N3 := Fr.app N0 N3q
  refine Gl.st (B := (T3.setTop (mkF m 10 L0 [(.int (1 : Int32))]))) (fun t k => st3 t k) ?_
  refine Gl.st (B := (T3.setTop (mkF m 13 L0 []))) (fun t k => XS.ifNo X3.here hx rfl (hb hby d1_10) rfl (by decide) k) ?_
  obtain ⟨T4, h4, X4, e4, E4, A4, D4, -, st4⟩ := newO X3 hx hZ hown (tw hw 9 rfl) (tw hw 10 rfl) (tw hw 2 rfl) eh3 (g := (mkF m 13 L0 [])) rfl (hb hby d1_13) (by decide) (by decide)
  obtain ⟨b4, gq4⟩ : ∃ z, z = h0.size := ⟨_, rfl⟩
  rw [← gq4] at A4 D4 st4
  have g_b4 : n0 ≤ b4 := Nat.le_trans Z0 (Nat.le_of_eq gq4.symm)
  have sz_b4 : h0.size ≤ b4 := Nat.le_trans K0.1 (Nat.le_of_eq gq4.symm)
  have lt_b4 := A4.lt
  have Zc5 : n0 ≤ h4.size := Nat.le_trans Z0 E4.1
  have K6 : Keep h0 h4 [] := K0.ext E4
  have F4_value : Fld Z h4 b4 "java/lang/String" "value" "[B" .null := D4 (Or.inr (tw hw 23 rfl)) (ty := (.array .byte)) (by decide)
  have F4_coder : Fld Z h4 b4 "java/lang/String" "coder" "B" (.int (0 : Int32)) := D4 (Or.inr (tw hw 25 rfl)) (ty := .byte) (by decide)
  refine Gl.st (B := (T4.setTop (mkF m 16 L0 [(.ref b4)]))) st4 ?_
  refine Gl.st (B := (T4.setTop (mkF m 18 L0 [(.int p1), (.ref b4), (.ref b4)]))) (fun t k => XS.dup X4.here hx rfl (hb hby d1_16) rfl rfl (XS.iloadN X4.here hx rfl (hb hby d1_17) (ldAt hL0 rfl) k)) ?_
  obtain ⟨_, _, ⟨T7, L7q, k7, n7⟩, -, X7, ⟨Lc7, hQ7, l7, y7, z7⟩, st7⟩ := Jvm.LawKit.callS X4 hx (y := (⟨"java/lang/StringLatin1", "toBytes", "(C)[B"⟩ : MethodName)) hown (mvT hZ (tw hw 11 rfl)) (mvT hZ (tw hw 12 rfl)) (mvT hZ (tw hw 7 rfl)) (mvT hZ (tw hw 13 rfl)) (by decide) (backOf (W := 2) (rm3 l Z a0 hw [] p1 h4 n0 Zc5) hZ (tw hw 13 rfl) (tw hw 7 rfl) (by decide) (by decide)) (g := (mkF m 18 L0 [(.int p1), (.ref b4), (.ref b4)])) rfl (szAt hml hL0 rfl) (argsL := [(.int p1)]) (rest := [(.ref b4), (.ref b4)]) (lenOf pd_1_1 rfl) rfl (by show 2 * 0 + _ ≤ _; exact Nat.le_of_eq rfl) (hb hby d1_18) (fun _ _ => ⟨rfl, e4, (by decide : 1 + 1 ≤ _), (by decide : 4 + 1 ≤ _)⟩)
  dsimp only [Pt.U, Pt.locs, Pt.cells, Pt.slots] at X7 l7 y7 z7 st7 hQ7
  subst l7 y7 z7
  obtain ⟨b7_t0, k7_kx_t0, rfl, N7q, Kc7, fq7_0, fq7_1, fq7_2⟩ := hQ7
  have g_b7_t0 : n0 ≤ b7_t0 := Nat.le_trans Zc5 fq7_0
  have sz_b7_t0 : h0.size ≤ b7_t0 := Nat.le_trans K6.1 fq7_0
  have lt_b7_t0 := fq7_1.lt
  have Zc8 : n0 ≤ T7.heap.size := Nat.le_trans Zc5 Kc7.1
  have K9 : Keep h0 T7.heap [] := K6.trans Kc7 all0
  have N7 := Fr.app N3 N7q
  refine Gl.st (B := (T7.setTop (mkF m 21 L0 [(.ref b7_t0), (.ref b4), (.ref b4)]))) (fun t k => st7 t k) ?_
  refine Gl.st (B := (T7.setTop (mkF m 22 L0 [(.int (0 : Int32)), (.ref b7_t0), (.ref b4), (.ref b4)]))) (fun t k => XS.iconst X7.here hx rfl (hb hby d1_21) k) ?_
  have c11 := (F4_value.keep Kc7 nin0)
  have c12 := (F4_coder.keep Kc7 nin0)
  have c13 := (A4.keep Kc7)
  obtain ⟨_, _, ⟨T10, L10q, k10, n10⟩, -, X10, ⟨Lc10, hQ10, l10, y10, z10⟩, st10⟩ := X7.specialBack hx (y := (⟨"java/lang/String", "<init>", "([BB)V"⟩ : MethodName)) rfl hown (mvT hZ (tw hw 15 rfl)) (mvT hZ (tw hw 16 rfl)) (mvT hZ (tw hw 18 rfl)) (by decide) (backOf (W := 1) (rm4 l Z a0 hw [] b4 b7_t0 (0 : Int32) .null ((.int (0 : Int32))) T7.heap n0 Zc8 c11 c12 c13 g_b4) hZ (tw hw 18 rfl) (tw hw 2 rfl) (by decide) (by decide)) (g := (mkF m 22 L0 [(.int (0 : Int32)), (.ref b7_t0), (.ref b4), (.ref b4)])) rfl (szAt hml hL0 rfl) (Steps.refl _) (a := b4) (argsL := [(.ref b7_t0), (.int (0 : Int32))]) (rest := [(.ref b4)]) (lenOf pd_1_2 rfl) rfl (by show 2 * 0 + _ ≤ _; exact Nat.le_of_eq rfl) (hb hby d1_22) (fun _ _ => ⟨rfl, rfl, (by decide : 2 + 0 ≤ _), (by decide : 5 + 0 ≤ _)⟩)
  dsimp only [Pt.U, Pt.locs, Pt.cells, Pt.slots] at X10 l10 y10 z10 st10 hQ10
  subst l10 y10 z10
  obtain ⟨rfl, N10q, Kc10, fq10_0, fq10_1, fq10_2⟩ := hQ10
  have Zc14 : n0 ≤ T10.heap.size := Nat.le_trans Zc8 Kc10.1
  have K15 : Keep h0 T10.heap [] := K9.trans Kc10 (allS (Or.inr sz_b4) all0)
  obtain ⟨f22_16, hf22_16⟩ : ∃ z : Int32, z = (nar .byte (0 : Int32)) := ⟨_, rfl⟩
  rw [← hf22_16] at fq10_1
  have N10 := Fr.app N7 N10q
  refine Gl.st (B := (T10.setTop (mkF m 25 L0 [(.ref b4)]))) (fun t k => st10.trans k) ?_
  obtain ⟨fs, hr, hrun, hended, hW, hsame⟩ := X10.leave (v := some (.ref b4)) (fun h => by rw [Bd.returns] at h; cases h)
  refine Gl.fin (X10.areturnOut hx rfl Bd.returns rfl (hb hby d1_25) hr) hrun hended ⟨_, _, rfl, ?_, ⟨_, rfl⟩, hW, hsame.mono (by decide) (by decide)⟩
  show Q1 Z p1 z_COMP1 h0 n0 _ T10.heap _
  have c17 := (fq7_1.keep Kc10)
  have ne_b4_b7_t0_18 : b4 ≠ b7_t0 := Nat.ne_of_lt (Nat.lt_of_lt_of_le lt_b4 fq7_0)
  have c19 := (fq7_2.keep Kc10 (ninS (Ne.symm ne_b4_b7_t0_18) nin0))
  exact ⟨b4, b7_t0, k7_kx_t0, rfl, N10, K15, sz_b4, sz_b7_t0, fq10_0, (by subst hf22_16; exact fq10_1), fq10_2, c17, c19⟩
theorem d7_0 : decode jdk_30_method_1_code 0 = .ok (.aload_n 0, 1) := by decide +kernel
theorem d7_1 : decode jdk_30_method_1_code 1 = .ok (.invokespecial 1, 3) := by decide +kernel
theorem d7_4 : decode jdk_30_method_1_code 4 = .ok (.return_, 1) := by decide +kernel
theorem pn_7 : plainName "java/lang/Record" = true := by first | (simp [plainName, overriddenIn]; done) | decide +kernel
theorem ef_7 (m : MethodId) (a1 : Addr) : entryFrame m #[(.ref a1)] 1 = mkF m 0 #[.val (.ref a1)] [] := by first | (simp [entryFrame, mkF, argsToLocals, Value.category]; done) | rfl
def Q7 (Z : State) (a1 : Addr) (h0 : Heap) (n0 : Nat) (v : Option Value) (h : Heap) (L : List Loc) : Prop := v = none ∧ Fr n0 L ∧ h = h0
set_option maxRecDepth 65536 in
set_option maxHeartbeats 40000000 in
theorem rm7 (l : Launch) (Z : State) (a0 : Array Value) (hw : ∀ d ∈ tables_1, d.before a0 Z = true) (ws : List Jvm.Cond) (a1 : Addr) (h0 : Heap) (n0 : Nat) (Z0 : n0 ≤ h0.size) :
    MetFree l (⟨"java/lang/Record", "<init>", "()V"⟩ : MethodName) (head1 (Jvm.Cond.code (⟨"java/lang/Record", "<init>", "()V"⟩ : MethodName) jdk_30_method_1_code 1 none :: ws) ({ frames := 1, cells := 0, slots := 0, locals := 12 } : Room)) (fun a U => a = #[(.ref a1)] ∧ Z.Warmed39 U.vm ∧ U.heap = h0) (fun _ _ _ _ _ => True) (fun _ U o U' => ∃ v L, o = .returned v ∧ Q7 Z a1 h0 n0 v U'.heap L ∧ FrameEnd U o U' L ({ frames := 1, cells := 0, slots := 0, locals := 12 } : Room).cells ({ frames := 1, cells := 0, slots := 0, locals := 12 } : Room).slots) := by
  refine MetFree.of_bodySF (plainFor_of_name pn_7) hisR ?_
  intro p e s m args below meth c s₁ Bd hml0 hP hK
  obtain ⟨rfl, hZ, hh⟩ := hP
  have hx := Bd.exec
  have hby := Bd.bytes
  have hml : c.maxLocals = 1 := hml0
  have hown : s.vm.findClass "java/lang/Record" = some m.cls := findClass_of_methodNamed Bd.named
  have hnm := (name_of_methodNamed Bd.named Bd.method).1
  have X0 : Stand p l e ({ frames := 1, cells := 0, slots := 0, locals := 12 } : Room) s m #[(.ref a1)] below meth c s₁ [] 0 0 := Stand.of_body Bd
  have e0 : s₁.heap = h0 := by rw [← hh, Bd.state]; rfl
  have N0 := Fr.nil n0
  have K0 : Keep h0 h0 [] := Keep.refl h0 _
  refine (show Gl p e below (fun o U' => ∃ v L, o = .returned v ∧ Q7 Z a1 h0 n0 v U'.heap L ∧ FrameEnd s o U' L ({ frames := 1, cells := 0, slots := 0, locals := 12 } : Room).cells ({ frames := 1, cells := 0, slots := 0, locals := 12 } : Room).slots) (s₁.setTop (entryFrame m #[(.ref a1)] 1)) from ?_)
  obtain ⟨L0, hL0⟩ : ∃ z : Array Slot, z = #[.val (.ref a1)] := ⟨_, rfl⟩
  refine Gl.st (B := (s₁.setTop (mkF m 0 L0 []))) (fun t k => castTop (efAt hL0 (ef_7 m a1)) k) ?_
  refine Gl.st (B := (s₁.setTop (mkF m 1 L0 [(.ref a1)]))) (fun t k => XS.aloadN X0.here hx rfl (hb hby d7_0) (ldAt hL0 rfl) rfl k) ?_
  obtain ⟨T1, X1, e1, st1⟩ := initO X0 hx hZ hown (tw hw 37 rfl) (tw hw 20 rfl) (tw hw 21 rfl) e0 (g := (mkF m 1 L0 [(.ref a1)])) rfl (szAt hml hL0 rfl) rfl (hb hby d7_1) (by decide) (W := 0) (by show 2 * 0 + _ ≤ _; exact Nat.le_of_eq rfl) (by decide)
  refine Gl.st (B := (T1.setTop (mkF m 4 L0 []))) st1 ?_
  obtain ⟨fs, hr, hrun, hended, hW, hsame⟩ := X1.leave (v := none) (fun _ => rfl)
  refine Gl.fin (X1.returnOut hx Bd.returns (hb hby d7_4) hr) hrun hended ⟨_, _, rfl, ?_, ⟨_, rfl⟩, hW, hsame.mono (by decide) (by decide)⟩
  show Q7 Z a1 h0 n0 _ T1.heap _
  rw [e1]
  exact ⟨rfl, N0, rfl⟩
theorem sn2 {Z : State} {a0 : Array Value} (hw : ∀ d ∈ tables_1, d.before a0 Z = true) : Jvm.RoadKit.slotOf Z "com/example/limpet/limpet/protocol/JoinGroup$Protocol" "metadata" "[B" ≠ Jvm.RoadKit.slotOf Z "com/example/limpet/limpet/protocol/JoinGroup$Protocol" "name" "Ljava/lang/String;" := slot_ne (Or.inr (tw hw 41 rfl)) (Or.inr (tw hw 39 rfl)) (by decide) (t := (.array .byte)) (t' := (.object "java/lang/String")) (by decide) (by decide)
theorem sn3 {Z : State} {a0 : Array Value} (hw : ∀ d ∈ tables_1, d.before a0 Z = true) : Jvm.RoadKit.slotOf Z "com/example/limpet/limpet/protocol/JoinGroup$Protocol" "name" "Ljava/lang/String;" ≠ Jvm.RoadKit.slotOf Z "com/example/limpet/limpet/protocol/JoinGroup$Protocol" "metadata" "[B" := slot_ne (Or.inr (tw hw 39 rfl)) (Or.inr (tw hw 41 rfl)) (by decide) (t := (.object "java/lang/String")) (t' := (.array .byte)) (by decide) (by decide)
theorem d6_0 : decode prog_32_method_1_code 0 = .ok (.aload_n 0, 1) := by decide +kernel
theorem d6_1 : decode prog_32_method_1_code 1 = .ok (.invokespecial 1, 3) := by decide +kernel
theorem d6_4 : decode prog_32_method_1_code 4 = .ok (.aload_n 0, 1) := by decide +kernel
theorem d6_5 : decode prog_32_method_1_code 5 = .ok (.aload_n 1, 1) := by decide +kernel
theorem d6_6 : decode prog_32_method_1_code 6 = .ok (.putfield 7, 3) := by decide +kernel
theorem d6_9 : decode prog_32_method_1_code 9 = .ok (.aload_n 0, 1) := by decide +kernel
theorem d6_10 : decode prog_32_method_1_code 10 = .ok (.aload_n 2, 1) := by decide +kernel
theorem d6_11 : decode prog_32_method_1_code 11 = .ok (.putfield 13, 3) := by decide +kernel
theorem d6_14 : decode prog_32_method_1_code 14 = .ok (.return_, 1) := by decide +kernel
theorem pn_6 : plainName "com/example/limpet/limpet/protocol/JoinGroup$Protocol" = true := by first | (simp [plainName, overriddenIn]; done) | decide +kernel
theorem pd_6_0 : parseMethodDescriptor "()V" = some ⟨[], none⟩ := by decide +kernel
theorem ef_6 (m : MethodId) (a1 : Addr) (a2 : Addr) (a3 : Addr) : entryFrame m #[(.ref a1), (.ref a2), (.ref a3)] 3 = mkF m 0 #[.val (.ref a1), .val (.ref a2), .val (.ref a3)] [] := by first | (simp [entryFrame, mkF, argsToLocals, Value.category]; done) | rfl
def Q6 (Z : State) (a1 : Addr) (a2 : Addr) (a3 : Addr) (u_name_a1 : Value) (u_metadata_a1 : Value) (h0 : Heap) (n0 : Nat) (v : Option Value) (h : Heap) (L : List Loc) : Prop := v = none ∧ Fr n0 L ∧ Keep h0 h [a1] ∧ Exa Z h a1 "com/example/limpet/limpet/protocol/JoinGroup$Protocol" ∧ Fld Z h a1 "com/example/limpet/limpet/protocol/JoinGroup$Protocol" "metadata" "[B" (.ref a3) ∧ Fld Z h a1 "com/example/limpet/limpet/protocol/JoinGroup$Protocol" "name" "Ljava/lang/String;" (.ref a2)
set_option maxRecDepth 65536 in
set_option maxHeartbeats 40000000 in
theorem rm6 (l : Launch) (Z : State) (a0 : Array Value) (hw : ∀ d ∈ tables_1, d.before a0 Z = true) (ws : List Jvm.Cond) (a1 : Addr) (a2 : Addr) (a3 : Addr) (u_name_a1 : Value) (u_metadata_a1 : Value) (h0 : Heap) (n0 : Nat) (Z0 : n0 ≤ h0.size) (F_name_a1 : Fld Z h0 a1 "com/example/limpet/limpet/protocol/JoinGroup$Protocol" "name" "Ljava/lang/String;" u_name_a1) (F_metadata_a1 : Fld Z h0 a1 "com/example/limpet/limpet/protocol/JoinGroup$Protocol" "metadata" "[B" u_metadata_a1) (E_a1 : Exa Z h0 a1 "com/example/limpet/limpet/protocol/JoinGroup$Protocol") (g_a1 : n0 ≤ a1) :
    MetFree l (⟨"com/example/limpet/limpet/protocol/JoinGroup$Protocol", "<init>", "(Ljava/lang/String;[B)V"⟩ : MethodName) (head1 (Jvm.Cond.code (⟨"com/example/limpet/limpet/protocol/JoinGroup$Protocol", "<init>", "(Ljava/lang/String;[B)V"⟩ : MethodName) prog_32_method_1_code 3 none :: ws) ({ frames := 2, cells := 0, slots := 0, locals := 24 } : Room)) (fun a U => a = #[(.ref a1), (.ref a2), (.ref a3)] ∧ Z.Warmed39 U.vm ∧ U.heap = h0) (fun _ _ _ _ _ => True) (fun _ U o U' => ∃ v L, o = .returned v ∧ Q6 Z a1 a2 a3 u_name_a1 u_metadata_a1 h0 n0 v U'.heap L ∧ FrameEnd U o U' L ({ frames := 2, cells := 0, slots := 0, locals := 24 } : Room).cells ({ frames := 2, cells := 0, slots := 0, locals := 24 } : Room).slots) := by
  refine MetFree.of_bodySF (plainFor_of_name pn_6) hisR ?_
  intro p e s m args below meth c s₁ Bd hml0 hP hK
  obtain ⟨rfl, hZ, hh⟩ := hP
  have hx := Bd.exec
  have hby := Bd.bytes
  have hml : c.maxLocals = 3 := hml0
  have hown : s.vm.findClass "com/example/limpet/limpet/protocol/JoinGroup$Protocol" = some m.cls := findClass_of_methodNamed Bd.named
  have hnm := (name_of_methodNamed Bd.named Bd.method).1
  have X0 : Stand p l e ({ frames := 2, cells := 0, slots := 0, locals := 24 } : Room) s m #[(.ref a1), (.ref a2), (.ref a3)] below meth c s₁ [] 0 0 := Stand.of_body Bd
  have e0 : s₁.heap = h0 := by rw [← hh, Bd.state]; rfl
  have N0 := Fr.nil n0
  have K0 : Keep h0 h0 [a1] := Keep.refl h0 _
  refine (show Gl p e below (fun o U' => ∃ v L, o = .returned v ∧ Q6 Z a1 a2 a3 u_name_a1 u_metadata_a1 h0 n0 v U'.heap L ∧ FrameEnd s o U' L ({ frames := 2, cells := 0, slots := 0, locals := 24 } : Room).cells ({ frames := 2, cells := 0, slots := 0, locals := 24 } : Room).slots) (s₁.setTop (entryFrame m #[(.ref a1), (.ref a2), (.ref a3)] 3)) from ?_)
  obtain ⟨L0, hL0⟩ : ∃ z : Array Slot, z = #[.val (.ref a1), .val (.ref a2), .val (.ref a3)] := ⟨_, rfl⟩
  refine Gl.st (B := (s₁.setTop (mkF m 0 L0 []))) (fun t k => castTop (efAt hL0 (ef_6 m a1 a2 a3)) k) ?_
  refine Gl.st (B := (s₁.setTop (mkF m 1 L0 [(.ref a1)]))) (fun t k => XS.aloadN X0.here hx rfl (hb hby d6_0) (ldAt hL0 rfl) rfl k) ?_
  obtain ⟨_, _, ⟨T1, L1q, k1, n1⟩, -, X1, ⟨Lc1, hQ1, l1, y1, z1⟩, st1⟩ := X0.specialBack hx (y := (⟨"java/lang/Record", "<init>", "()V"⟩ : MethodName)) rfl hown (mvT hZ (tw hw 32 rfl)) (mvT hZ (tw hw 33 rfl)) (mvT hZ (tw hw 36 rfl)) (by decide) (backOf (W := 0) (rm7 l Z a0 hw [] a1 h0 n0 Z0) hZ (tw hw 36 rfl) (tw hw 35 rfl) (by decide) (by decide)) (g := (mkF m 1 L0 [(.ref a1)])) rfl (szAt hml hL0 rfl) (Steps.refl _) (a := a1) (argsL := []) (rest := []) (lenOf pd_6_0 rfl) rfl (by show 2 * 0 + _ ≤ _; exact Nat.le_of_eq rfl) (hb hby d6_1) (fun _ _ => ⟨rfl, e0, (by decide : 0 + 0 ≤ _), (by decide : 0 + 0 ≤ _)⟩)
  dsimp only [Pt.U, Pt.locs, Pt.cells, Pt.slots] at X1 l1 y1 z1 st1 hQ1
  subst l1 y1 z1
  obtain ⟨rfl, N1q, eh1⟩ := hQ1
  have N1 := Fr.app N0 N1q
  refine Gl.st (B := (T1.setTop (mkF m 4 L0 []))) (fun t k => st1.trans k) ?_
  refine Gl.st (B := (T1.setTop (mkF m 6 L0 [(.ref a2), (.ref a1)]))) (fun t k => XS.aloadN X1.here hx rfl (hb hby d6_4) (ldAt hL0 rfl) rfl (XS.aloadN X1.here hx rfl (hb hby d6_5) (ldAt hL0 rfl) rfl k)) ?_
  obtain ⟨T2, h2, X2, e2, W2, st2⟩ := putF X1 hx hZ hown (host := "") (Or.inl (tw hw 38 rfl)) Via.refl eh1 F_name_a1 E_a1 (Or.inr ⟨(tw hw 39 rfl), rfl, hnm⟩) (tw hw 27 rfl) (ty := (.object "java/lang/String")) (by decide) rfl rfl (g := (mkF m 6 L0 [(.ref a2), (.ref a1)])) rfl rfl (hb hby d6_6)
  have Fw2 := F_name_a1.same W2
  have Zc3 : n0 ≤ h2.size := Nat.le_trans Z0 (Nat.le_of_eq W2.size.symm)
  have K4 : Keep h0 h2 [a1] := K0.wr W2 (Or.inl (List.mem_of_getElem? (i := 0) rfl))
  have N2 := Fr.snoc X2 N1 g_a1
  refine Gl.st (B := (T2.setTop (mkF m 9 L0 []))) st2 ?_
  refine Gl.st (B := (T2.setTop (mkF m 11 L0 [(.ref a3), (.ref a1)]))) (fun t k => XS.aloadN X2.here hx rfl (hb hby d6_9) (ldAt hL0 rfl) rfl (XS.aloadN X2.here hx rfl (hb hby d6_10) (ldAt hL0 rfl) rfl k)) ?_
  have c5 := (E_a1.wr W2)
  have c6 := (F_metadata_a1.other W2 (Or.inr (sn2 hw)))
  obtain ⟨T7, h7, X7, e7, W7, st7⟩ := putF X2 hx hZ hown (host := "") (Or.inl (tw hw 40 rfl)) Via.refl e2 c6 c5 (Or.inr ⟨(tw hw 41 rfl), rfl, hnm⟩) (tw hw 27 rfl) (ty := (.array .byte)) (by decide) rfl rfl (g := (mkF m 11 L0 [(.ref a3), (.ref a1)])) rfl rfl (hb hby d6_11)
  have Fw7 := c6.same W7
  have Zc8 : n0 ≤ h7.size := Nat.le_trans Zc3 (Nat.le_of_eq W7.size.symm)
  have K9 : Keep h0 h7 [a1] := K4.wr W7 (Or.inl (List.mem_of_getElem? (i := 0) rfl))
  have N7 := Fr.snoc X7 N2 g_a1
  refine Gl.st (B := (T7.setTop (mkF m 14 L0 []))) st7 ?_
  obtain ⟨fs, hr, hrun, hended, hW, hsame⟩ := X7.leave (v := none) (fun _ => rfl)
  refine Gl.fin (X7.returnOut hx Bd.returns (hb hby d6_14) hr) hrun hended ⟨_, _, rfl, ?_, ⟨_, rfl⟩, hW, hsame.mono (by decide) (by decide)⟩
  show Q6 Z a1 a2 a3 u_name_a1 u_metadata_a1 h0 n0 _ T7.heap _
  rw [e7]
  have c10 := (c5.wr W7)
  have c11 := (Fw2.other W7 (Or.inr (sn3 hw)))
  exact ⟨rfl, N7, K9, c10, Fw7, c11⟩
theorem d10_0 : decode jdk_22_method_1_code 0 = .ok (.aload_n 0, 1) := by decide +kernel
theorem d10_1 : decode jdk_22_method_1_code 1 = .ok (.invokespecial 1, 3) := by decide +kernel
theorem d10_4 : decode jdk_22_method_1_code 4 = .ok (.return_, 1) := by decide +kernel
theorem pn_10 : plainName "java/util/AbstractCollection" = true := by first | (simp [plainName, overriddenIn]; done) | decide +kernel
theorem ef_10 (m : MethodId) (a1 : Addr) : entryFrame m #[(.ref a1)] 1 = mkF m 0 #[.val (.ref a1)] [] := by first | (simp [entryFrame, mkF, argsToLocals, Value.category]; done) | rfl
def Q10 (Z : State) (a1 : Addr) (h0 : Heap) (n0 : Nat) (v : Option Value) (h : Heap) (L : List Loc) : Prop := v = none ∧ Fr n0 L ∧ h = h0
set_option maxRecDepth 65536 in
set_option maxHeartbeats 40000000 in
theorem rm10 (l : Launch) (Z : State) (a0 : Array Value) (hw : ∀ d ∈ tables_1, d.before a0 Z = true) (ws : List Jvm.Cond) (a1 : Addr) (h0 : Heap) (n0 : Nat) (Z0 : n0 ≤ h0.size) :
    MetFree l (⟨"java/util/AbstractCollection", "<init>", "()V"⟩ : MethodName) (head1 (Jvm.Cond.code (⟨"java/util/AbstractCollection", "<init>", "()V"⟩ : MethodName) jdk_22_method_1_code 1 none :: ws) ({ frames := 1, cells := 0, slots := 0, locals := 12 } : Room)) (fun a U => a = #[(.ref a1)] ∧ Z.Warmed39 U.vm ∧ U.heap = h0) (fun _ _ _ _ _ => True) (fun _ U o U' => ∃ v L, o = .returned v ∧ Q10 Z a1 h0 n0 v U'.heap L ∧ FrameEnd U o U' L ({ frames := 1, cells := 0, slots := 0, locals := 12 } : Room).cells ({ frames := 1, cells := 0, slots := 0, locals := 12 } : Room).slots) := by
  refine MetFree.of_bodySF (plainFor_of_name pn_10) hisR ?_
  intro p e s m args below meth c s₁ Bd hml0 hP hK
  obtain ⟨rfl, hZ, hh⟩ := hP
  have hx := Bd.exec
  have hby := Bd.bytes
  have hml : c.maxLocals = 1 := hml0
  have hown : s.vm.findClass "java/util/AbstractCollection" = some m.cls := findClass_of_methodNamed Bd.named
  have hnm := (name_of_methodNamed Bd.named Bd.method).1
  have X0 : Stand p l e ({ frames := 1, cells := 0, slots := 0, locals := 12 } : Room) s m #[(.ref a1)] below meth c s₁ [] 0 0 := Stand.of_body Bd
  have e0 : s₁.heap = h0 := by rw [← hh, Bd.state]; rfl
  have N0 := Fr.nil n0
  have K0 : Keep h0 h0 [] := Keep.refl h0 _
  refine (show Gl p e below (fun o U' => ∃ v L, o = .returned v ∧ Q10 Z a1 h0 n0 v U'.heap L ∧ FrameEnd s o U' L ({ frames := 1, cells := 0, slots := 0, locals := 12 } : Room).cells ({ frames := 1, cells := 0, slots := 0, locals := 12 } : Room).slots) (s₁.setTop (entryFrame m #[(.ref a1)] 1)) from ?_)
  obtain ⟨L0, hL0⟩ : ∃ z : Array Slot, z = #[.val (.ref a1)] := ⟨_, rfl⟩
  refine Gl.st (B := (s₁.setTop (mkF m 0 L0 []))) (fun t k => castTop (efAt hL0 (ef_10 m a1)) k) ?_
  refine Gl.st (B := (s₁.setTop (mkF m 1 L0 [(.ref a1)]))) (fun t k => XS.aloadN X0.here hx rfl (hb hby d10_0) (ldAt hL0 rfl) rfl k) ?_
  obtain ⟨T1, X1, e1, st1⟩ := initO X0 hx hZ hown (tw hw 60 rfl) (tw hw 20 rfl) (tw hw 21 rfl) e0 (g := (mkF m 1 L0 [(.ref a1)])) rfl (szAt hml hL0 rfl) rfl (hb hby d10_1) (by decide) (W := 0) (by show 2 * 0 + _ ≤ _; exact Nat.le_of_eq rfl) (by decide)
  refine Gl.st (B := (T1.setTop (mkF m 4 L0 []))) st1 ?_
  obtain ⟨fs, hr, hrun, hended, hW, hsame⟩ := X1.leave (v := none) (fun _ => rfl)
  refine Gl.fin (X1.returnOut hx Bd.returns (hb hby d10_4) hr) hrun hended ⟨_, _, rfl, ?_, ⟨_, rfl⟩, hW, hsame.mono (by decide) (by decide)⟩
  show Q10 Z a1 h0 n0 _ T1.heap _
  rw [e1]
  exact ⟨rfl, N0, rfl⟩
theorem sn4 {Z : State} {a0 : Array Value} (hw : ∀ d ∈ tables_1, d.before a0 Z = true) : Jvm.RoadKit.slotOf Z "java/util/ArrayList" "elementData" "[Ljava/lang/Object;" ≠ Jvm.RoadKit.slotOf Z "java/util/AbstractList" "modCount" "I" := slot_ne (Or.inl (tw hw 65 rfl)) (Or.inl (tw hw 62 rfl)) (by decide) (t := (.array (.object "java/lang/Object"))) (t' := .int) (by decide) (by decide)
theorem sn5 {Z : State} {a0 : Array Value} (hw : ∀ d ∈ tables_1, d.before a0 Z = true) : Jvm.RoadKit.slotOf Z "java/util/ArrayList" "size" "I" ≠ Jvm.RoadKit.slotOf Z "java/util/AbstractList" "modCount" "I" := slot_ne (Or.inl (tw hw 78 rfl)) (Or.inl (tw hw 62 rfl)) (by decide) (t := .int) (t' := .int) (by decide) (by decide)
theorem d9_0 : decode jdk_39_method_1_code 0 = .ok (.aload_n 0, 1) := by decide +kernel
theorem d9_1 : decode jdk_39_method_1_code 1 = .ok (.invokespecial 1, 3) := by decide +kernel
theorem d9_4 : decode jdk_39_method_1_code 4 = .ok (.aload_n 0, 1) := by decide +kernel
theorem d9_5 : decode jdk_39_method_1_code 5 = .ok (.iconst 0, 1) := by decide +kernel
theorem d9_6 : decode jdk_39_method_1_code 6 = .ok (.putfield 7, 3) := by decide +kernel
theorem d9_9 : decode jdk_39_method_1_code 9 = .ok (.return_, 1) := by decide +kernel
theorem pn_9 : plainName "java/util/AbstractList" = true := by first | (simp [plainName, overriddenIn]; done) | decide +kernel
theorem pd_9_0 : parseMethodDescriptor "()V" = some ⟨[], none⟩ := by decide +kernel
theorem ef_9 (m : MethodId) (a1 : Addr) : entryFrame m #[(.ref a1)] 1 = mkF m 0 #[.val (.ref a1)] [] := by first | (simp [entryFrame, mkF, argsToLocals, Value.category]; done) | rfl
def Q9 (Z : State) (a1 : Addr) (u_modCount_a1 : Value) (u_elementData_a1 : Value) (u_size_a1 : Value) (h0 : Heap) (n0 : Nat) (v : Option Value) (h : Heap) (L : List Loc) : Prop := v = none ∧ Fr n0 L ∧ Keep h0 h [a1] ∧ Exa Z h a1 "java/util/ArrayList" ∧ Fld Z h a1 "java/util/ArrayList" "elementData" "[Ljava/lang/Object;" u_elementData_a1 ∧ Fld Z h a1 "java/util/AbstractList" "modCount" "I" (.int (0 : Int32)) ∧ Fld Z h a1 "java/util/ArrayList" "size" "I" u_size_a1
set_option maxRecDepth 65536 in
set_option maxHeartbeats 40000000 in
theorem rm9 (l : Launch) (Z : State) (a0 : Array Value) (hw : ∀ d ∈ tables_1, d.before a0 Z = true) (ws : List Jvm.Cond) (a1 : Addr) (u_modCount_a1 : Value) (u_elementData_a1 : Value) (u_size_a1 : Value) (h0 : Heap) (n0 : Nat) (Z0 : n0 ≤ h0.size) (F_modCount_a1 : Fld Z h0 a1 "java/util/AbstractList" "modCount" "I" u_modCount_a1) (F_elementData_a1 : Fld Z h0 a1 "java/util/ArrayList" "elementData" "[Ljava/lang/Object;" u_elementData_a1) (F_size_a1 : Fld Z h0 a1 "java/util/ArrayList" "size" "I" u_size_a1) (E_a1 : Exa Z h0 a1 "java/util/ArrayList") (g_a1 : n0 ≤ a1) :
    MetFree l (⟨"java/util/AbstractList", "<init>", "()V"⟩ : MethodName) (head1 (Jvm.Cond.code (⟨"java/util/AbstractList", "<init>", "()V"⟩ : MethodName) jdk_39_method_1_code 1 none :: ws) ({ frames := 2, cells := 0, slots := 0, locals := 24 } : Room)) (fun a U => a = #[(.ref a1)] ∧ Z.Warmed39 U.vm ∧ U.heap = h0) (fun _ _ _ _ _ => True) (fun _ U o U' => ∃ v L, o = .returned v ∧ Q9 Z a1 u_modCount_a1 u_elementData_a1 u_size_a1 h0 n0 v U'.heap L ∧ FrameEnd U o U' L ({ frames := 2, cells := 0, slots := 0, locals := 24 } : Room).cells ({ frames := 2, cells := 0, slots := 0, locals := 24 } : Room).slots) := by
  refine MetFree.of_bodySF (plainFor_of_name pn_9) hisR ?_
  intro p e s m args below meth c s₁ Bd hml0 hP hK
  obtain ⟨rfl, hZ, hh⟩ := hP
  have hx := Bd.exec
  have hby := Bd.bytes
  have hml : c.maxLocals = 1 := hml0
  have hown : s.vm.findClass "java/util/AbstractList" = some m.cls := findClass_of_methodNamed Bd.named
  have hnm := (name_of_methodNamed Bd.named Bd.method).1
  have X0 : Stand p l e ({ frames := 2, cells := 0, slots := 0, locals := 24 } : Room) s m #[(.ref a1)] below meth c s₁ [] 0 0 := Stand.of_body Bd
  have e0 : s₁.heap = h0 := by rw [← hh, Bd.state]; rfl
  have N0 := Fr.nil n0
  have K0 : Keep h0 h0 [a1] := Keep.refl h0 _
  refine (show Gl p e below (fun o U' => ∃ v L, o = .returned v ∧ Q9 Z a1 u_modCount_a1 u_elementData_a1 u_size_a1 h0 n0 v U'.heap L ∧ FrameEnd s o U' L ({ frames := 2, cells := 0, slots := 0, locals := 24 } : Room).cells ({ frames := 2, cells := 0, slots := 0, locals := 24 } : Room).slots) (s₁.setTop (entryFrame m #[(.ref a1)] 1)) from ?_)
  obtain ⟨L0, hL0⟩ : ∃ z : Array Slot, z = #[.val (.ref a1)] := ⟨_, rfl⟩
  refine Gl.st (B := (s₁.setTop (mkF m 0 L0 []))) (fun t k => castTop (efAt hL0 (ef_9 m a1)) k) ?_
  refine Gl.st (B := (s₁.setTop (mkF m 1 L0 [(.ref a1)]))) (fun t k => XS.aloadN X0.here hx rfl (hb hby d9_0) (ldAt hL0 rfl) rfl k) ?_
  obtain ⟨_, _, ⟨T1, L1q, k1, n1⟩, -, X1, ⟨Lc1, hQ1, l1, y1, z1⟩, st1⟩ := X0.specialBack hx (y := (⟨"java/util/AbstractCollection", "<init>", "()V"⟩ : MethodName)) rfl hown (mvT hZ (tw hw 54 rfl)) (mvT hZ (tw hw 55 rfl)) (mvT hZ (tw hw 59 rfl)) (by decide) (backOf (W := 0) (rm10 l Z a0 hw [] a1 h0 n0 Z0) hZ (tw hw 59 rfl) (tw hw 58 rfl) (by decide) (by decide)) (g := (mkF m 1 L0 [(.ref a1)])) rfl (szAt hml hL0 rfl) (Steps.refl _) (a := a1) (argsL := []) (rest := []) (lenOf pd_9_0 rfl) rfl (by show 2 * 0 + _ ≤ _; exact Nat.le_of_eq rfl) (hb hby d9_1) (fun _ _ => ⟨rfl, e0, (by decide : 0 + 0 ≤ _), (by decide : 0 + 0 ≤ _)⟩)
  dsimp only [Pt.U, Pt.locs, Pt.cells, Pt.slots] at X1 l1 y1 z1 st1 hQ1
  subst l1 y1 z1
  obtain ⟨rfl, N1q, eh1⟩ := hQ1
  have N1 := Fr.app N0 N1q
  refine Gl.st (B := (T1.setTop (mkF m 4 L0 []))) (fun t k => st1.trans k) ?_
  refine Gl.st (B := (T1.setTop (mkF m 6 L0 [(.int (0 : Int32)), (.ref a1)]))) (fun t k => XS.aloadN X1.here hx rfl (hb hby d9_4) (ldAt hL0 rfl) rfl (XS.iconst X1.here hx rfl (hb hby d9_5) k)) ?_
  obtain ⟨T2, h2, X2, e2, W2, st2⟩ := putF X1 hx hZ hown (host := "") (Or.inl (tw hw 61 rfl)) Via.refl eh1 F_modCount_a1 E_a1 (Or.inl (tw hw 62 rfl)) (tw hw 43 rfl) (ty := .int) (by decide) rfl rfl (g := (mkF m 6 L0 [(.int (0 : Int32)), (.ref a1)])) rfl rfl (hb hby d9_6)
  have Fw2 := F_modCount_a1.same W2
  have Zc3 : n0 ≤ h2.size := Nat.le_trans Z0 (Nat.le_of_eq W2.size.symm)
  have K4 : Keep h0 h2 [a1] := K0.wr W2 (Or.inl (List.mem_of_getElem? (i := 0) rfl))
  have N2 := Fr.snoc X2 N1 g_a1
  refine Gl.st (B := (T2.setTop (mkF m 9 L0 []))) st2 ?_
  obtain ⟨fs, hr, hrun, hended, hW, hsame⟩ := X2.leave (v := none) (fun _ => rfl)
  refine Gl.fin (X2.returnOut hx Bd.returns (hb hby d9_9) hr) hrun hended ⟨_, _, rfl, ?_, ⟨_, rfl⟩, hW, hsame.mono (by decide) (by decide)⟩
  show Q9 Z a1 u_modCount_a1 u_elementData_a1 u_size_a1 h0 n0 _ T2.heap _
  rw [e2]
  have c5 := (E_a1.wr W2)
  have c6 := (F_elementData_a1.other W2 (Or.inr (sn4 hw)))
  have c7 := (F_size_a1.other W2 (Or.inr (sn5 hw)))
  exact ⟨rfl, N2, K4, c5, c6, Fw2, c7⟩
theorem sn6 {Z : State} {a0 : Array Value} (hw : ∀ d ∈ tables_1, d.before a0 Z = true) : Jvm.RoadKit.slotOf Z "java/util/AbstractList" "modCount" "I" ≠ Jvm.RoadKit.slotOf Z "java/util/ArrayList" "elementData" "[Ljava/lang/Object;" := slot_ne (Or.inl (tw hw 62 rfl)) (Or.inl (tw hw 65 rfl)) (by decide) (t := .int) (t' := (.array (.object "java/lang/Object"))) (by decide) (by decide)
theorem sn7 {Z : State} {a0 : Array Value} (hw : ∀ d ∈ tables_1, d.before a0 Z = true) : Jvm.RoadKit.slotOf Z "java/util/ArrayList" "size" "I" ≠ Jvm.RoadKit.slotOf Z "java/util/ArrayList" "elementData" "[Ljava/lang/Object;" := slot_ne (Or.inl (tw hw 78 rfl)) (Or.inl (tw hw 65 rfl)) (by decide) (t := .int) (t' := (.array (.object "java/lang/Object"))) (by decide) (by decide)
theorem d8_0 : decode jdk_38_method_2_code 0 = .ok (.aload_n 0, 1) := by decide +kernel
theorem d8_1 : decode jdk_38_method_2_code 1 = .ok (.invokespecial 1, 3) := by decide +kernel
theorem d8_4 : decode jdk_38_method_2_code 4 = .ok (.aload_n 0, 1) := by decide +kernel
theorem d8_5 : decode jdk_38_method_2_code 5 = .ok (.getstatic 39, 3) := by decide +kernel
theorem d8_8 : decode jdk_38_method_2_code 8 = .ok (.putfield 9, 3) := by decide +kernel
theorem d8_11 : decode jdk_38_method_2_code 11 = .ok (.return_, 1) := by decide +kernel
theorem pn_8 : plainName "java/util/ArrayList" = true := by first | (simp [plainName, overriddenIn]; done) | decide +kernel
theorem pd_8_0 : parseMethodDescriptor "()V" = some ⟨[], none⟩ := by decide +kernel
theorem ef_8 (m : MethodId) (a1 : Addr) : entryFrame m #[(.ref a1)] 1 = mkF m 0 #[.val (.ref a1)] [] := by first | (simp [entryFrame, mkF, argsToLocals, Value.category]; done) | rfl
def Q8 (Z : State) (a1 : Addr) (u_modCount_a1 : Value) (u_elementData_a1 : Value) (u_size_a1 : Value) (z_DEFA0 : Addr) (h0 : Heap) (n0 : Nat) (v : Option Value) (h : Heap) (L : List Loc) : Prop := v = none ∧ Fr n0 L ∧ Keep h0 h [a1] ∧ Exa Z h a1 "java/util/ArrayList" ∧ Fld Z h a1 "java/util/ArrayList" "elementData" "[Ljava/lang/Object;" (.ref z_DEFA0) ∧ Fld Z h a1 "java/util/AbstractList" "modCount" "I" (.int (0 : Int32)) ∧ Fld Z h a1 "java/util/ArrayList" "size" "I" u_size_a1
set_option maxRecDepth 65536 in
set_option maxHeartbeats 40000000 in
theorem rm8 (l : Launch) (Z : State) (a0 : Array Value) (hw : ∀ d ∈ tables_1, d.before a0 Z = true) (ws : List Jvm.Cond) (a1 : Addr) (u_modCount_a1 : Value) (u_elementData_a1 : Value) (u_size_a1 : Value) (z_DEFA0 : Addr) (h0 : Heap) (n0 : Nat) (Z0 : n0 ≤ h0.size) (F_modCount_a1 : Fld Z h0 a1 "java/util/AbstractList" "modCount" "I" u_modCount_a1) (F_elementData_a1 : Fld Z h0 a1 "java/util/ArrayList" "elementData" "[Ljava/lang/Object;" u_elementData_a1) (F_size_a1 : Fld Z h0 a1 "java/util/ArrayList" "size" "I" u_size_a1) (E_a1 : Exa Z h0 a1 "java/util/ArrayList") (g_a1 : n0 ≤ a1) (S_DEFA0 : Sta Z h0 "java/util/ArrayList" "DEFAULTCAPACITY_EMPTY_ELEMENTDATA" "[Ljava/lang/Object;" (.ref z_DEFA0)) :
    MetFree l (⟨"java/util/ArrayList", "<init>", "()V"⟩ : MethodName) (head1 (Jvm.Cond.code (⟨"java/util/ArrayList", "<init>", "()V"⟩ : MethodName) jdk_38_method_2_code 1 none :: ws) ({ frames := 3, cells := 0, slots := 0, locals := 36 } : Room)) (fun a U => a = #[(.ref a1)] ∧ Z.Warmed39 U.vm ∧ U.heap = h0) (fun _ _ _ _ _ => True) (fun _ U o U' => ∃ v L, o = .returned v ∧ Q8 Z a1 u_modCount_a1 u_elementData_a1 u_size_a1 z_DEFA0 h0 n0 v U'.heap L ∧ FrameEnd U o U' L ({ frames := 3, cells := 0, slots := 0, locals := 36 } : Room).cells ({ frames := 3, cells := 0, slots := 0, locals := 36 } : Room).slots) := by
  refine MetFree.of_bodySF (plainFor_of_name pn_8) hisR ?_
  intro p e s m args below meth c s₁ Bd hml0 hP hK
  obtain ⟨rfl, hZ, hh⟩ := hP
  have hx := Bd.exec
  have hby := Bd.bytes
  have hml : c.maxLocals = 1 := hml0
  have hown : s.vm.findClass "java/util/ArrayList" = some m.cls := findClass_of_methodNamed Bd.named
  have hnm := (name_of_methodNamed Bd.named Bd.method).1
  have X0 : Stand p l e ({ frames := 3, cells := 0, slots := 0, locals := 36 } : Room) s m #[(.ref a1)] below meth c s₁ [] 0 0 := Stand.of_body Bd
  have e0 : s₁.heap = h0 := by rw [← hh, Bd.state]; rfl
  have N0 := Fr.nil n0
  have K0 : Keep h0 h0 [a1] := Keep.refl h0 _
  refine (show Gl p e below (fun o U' => ∃ v L, o = .returned v ∧ Q8 Z a1 u_modCount_a1 u_elementData_a1 u_size_a1 z_DEFA0 h0 n0 v U'.heap L ∧ FrameEnd s o U' L ({ frames := 3, cells := 0, slots := 0, locals := 36 } : Room).cells ({ frames := 3, cells := 0, slots := 0, locals := 36 } : Room).slots) (s₁.setTop (entryFrame m #[(.ref a1)] 1)) from ?_)
  obtain ⟨L0, hL0⟩ : ∃ z : Array Slot, z = #[.val (.ref a1)] := ⟨_, rfl⟩
  refine Gl.st (B := (s₁.setTop (mkF m 0 L0 []))) (fun t k => castTop (efAt hL0 (ef_8 m a1)) k) ?_
  refine Gl.st (B := (s₁.setTop (mkF m 1 L0 [(.ref a1)]))) (fun t k => XS.aloadN X0.here hx rfl (hb hby d8_0) (ldAt hL0 rfl) rfl k) ?_
  obtain ⟨_, _, ⟨T1, L1q, k1, n1⟩, -, X1, ⟨Lc1, hQ1, l1, y1, z1⟩, st1⟩ := X0.specialBack hx (y := (⟨"java/util/AbstractList", "<init>", "()V"⟩ : MethodName)) rfl hown (mvT hZ (tw hw 48 rfl)) (mvT hZ (tw hw 49 rfl)) (mvT hZ (tw hw 53 rfl)) (by decide) (backOf (W := 0) (rm9 l Z a0 hw [] a1 u_modCount_a1 u_elementData_a1 u_size_a1 h0 n0 Z0 F_modCount_a1 F_elementData_a1 F_size_a1 E_a1 g_a1) hZ (tw hw 53 rfl) (tw hw 52 rfl) (by decide) (by decide)) (g := (mkF m 1 L0 [(.ref a1)])) rfl (szAt hml hL0 rfl) (Steps.refl _) (a := a1) (argsL := []) (rest := []) (lenOf pd_8_0 rfl) rfl (by show 2 * 0 + _ ≤ _; exact Nat.le_of_eq rfl) (hb hby d8_1) (fun _ _ => ⟨rfl, e0, (by decide : 0 + 0 ≤ _), (by decide : 0 + 0 ≤ _)⟩)
  dsimp only [Pt.U, Pt.locs, Pt.cells, Pt.slots] at X1 l1 y1 z1 st1 hQ1
  subst l1 y1 z1
  obtain ⟨rfl, N1q, Kc1, fq1_0, fq1_1, fq1_2, fq1_3⟩ := hQ1
  have Zc2 : n0 ≤ T1.heap.size := Nat.le_trans Z0 Kc1.1
  have K3 : Keep h0 T1.heap [a1] := K0.trans Kc1 (allS (Or.inl (List.mem_of_getElem? (i := 0) rfl)) all0)
  have N1 := Fr.app N0 N1q
  refine Gl.st (B := (T1.setTop (mkF m 4 L0 []))) (fun t k => st1.trans k) ?_
  refine Gl.st (B := (T1.setTop (mkF m 5 L0 [(.ref a1)]))) (fun t k => XS.aloadN X1.here hx rfl (hb hby d8_4) (ldAt hL0 rfl) rfl k) ?_
  have c4 := (own_sta_keep S_DEFA0 Kc1 (allS (own_exa_plain E_a1) all0))
  obtain ⟨T5, X5, e5, st5⟩ := getS2 X1 hx hZ hown (host := "") (Or.inl (tw hw 63 rfl)) Via.refl rfl c4 (g := (mkF m 5 L0 [(.ref a1)])) rfl (hb hby d8_5)
  refine Gl.st (B := (T5.setTop (mkF m 8 L0 [(.ref z_DEFA0), (.ref a1)]))) st5 ?_
  obtain ⟨T6, h6, X6, e6, W6, st6⟩ := putF X5 hx hZ hown (host := "") (Or.inl (tw hw 64 rfl)) Via.refl e5 fq1_1 fq1_0 (Or.inl (tw hw 65 rfl)) (tw hw 43 rfl) (ty := (.array (.object "java/lang/Object"))) (by decide) rfl rfl (g := (mkF m 8 L0 [(.ref z_DEFA0), (.ref a1)])) rfl rfl (hb hby d8_8)
  have Fw6 := fq1_1.same W6
  have Zc7 : n0 ≤ h6.size := Nat.le_trans Zc2 (Nat.le_of_eq W6.size.symm)
  have K8 : Keep h0 h6 [a1] := K3.wr W6 (Or.inl (List.mem_of_getElem? (i := 0) rfl))
  have N6 := Fr.snoc X6 N1 g_a1
  refine Gl.st (B := (T6.setTop (mkF m 11 L0 []))) st6 ?_
  obtain ⟨fs, hr, hrun, hended, hW, hsame⟩ := X6.leave (v := none) (fun _ => rfl)
  refine Gl.fin (X6.returnOut hx Bd.returns (hb hby d8_11) hr) hrun hended ⟨_, _, rfl, ?_, ⟨_, rfl⟩, hW, hsame.mono (by decide) (by decide)⟩
  show Q8 Z a1 u_modCount_a1 u_elementData_a1 u_size_a1 z_DEFA0 h0 n0 _ T6.heap _
  rw [e6]
  have c9 := (fq1_0.wr W6)
  have c10 := (fq1_2.other W6 (Or.inr (sn6 hw)))
  have c11 := (fq1_3.other W6 (Or.inr (sn7 hw)))
  exact ⟨rfl, N6, K8, c9, Fw6, c10, c11⟩
theorem d14_0 : decode jdk_38_method_6_code 0 = .ok (.aload_n 0, 1) := by decide +kernel
theorem d14_1 : decode jdk_38_method_6_code 1 = .ok (.getfield 9, 3) := by decide +kernel
theorem d14_4 : decode jdk_38_method_6_code 4 = .ok (.arraylength, 1) := by decide +kernel
theorem d14_5 : decode jdk_38_method_6_code 5 = .ok (.istore_n 2, 1) := by decide +kernel
theorem d14_6 : decode jdk_38_method_6_code 6 = .ok (.iload_n 2, 1) := by decide +kernel
theorem d14_7 : decode jdk_38_method_6_code 7 = .ok (.ifCond .gt 13, 3) := by decide +kernel
theorem d14_10 : decode jdk_38_method_6_code 10 = .ok (.aload_n 0, 1) := by decide +kernel
theorem d14_11 : decode jdk_38_method_6_code 11 = .ok (.getfield 9, 3) := by decide +kernel
theorem d14_14 : decode jdk_38_method_6_code 14 = .ok (.getstatic 39, 3) := by decide +kernel
theorem d14_17 : decode jdk_38_method_6_code 17 = .ok (.if_acmp .eq 28, 3) := by decide +kernel
theorem d14_45 : decode jdk_38_method_6_code 45 = .ok (.aload_n 0, 1) := by decide +kernel
theorem d14_46 : decode jdk_38_method_6_code 46 = .ok (.bipush 10, 2) := by decide +kernel
theorem d14_48 : decode jdk_38_method_6_code 48 = .ok (.iload_n 1, 1) := by decide +kernel
theorem d14_49 : decode jdk_38_method_6_code 49 = .ok (.invokestatic 79, 3) := by decide +kernel
theorem d14_52 : decode jdk_38_method_6_code 52 = .ok (.anewarray 7, 3) := by decide +kernel
theorem d14_55 : decode jdk_38_method_6_code 55 = .ok (.dup_x1, 1) := by decide +kernel
theorem d14_56 : decode jdk_38_method_6_code 56 = .ok (.putfield 9, 3) := by decide +kernel
theorem d14_59 : decode jdk_38_method_6_code 59 = .ok (.areturn, 1) := by decide +kernel
theorem pn_14 : plainName "java/util/ArrayList" = true := by first | (simp [plainName, overriddenIn]; done) | decide +kernel
theorem pd_14_0 : parseMethodDescriptor "(II)I" = some ⟨[.int, .int], some .int⟩ := by decide +kernel
theorem ef_14 (m : MethodId) (a1 : Addr) : entryFrame m #[(.ref a1), (.int (1 : Int32))] 4 = mkF m 0 #[.val (.ref a1), .val (.int (1 : Int32)), .unset, .unset] [] := by first | (simp [entryFrame, mkF, argsToLocals, Value.category]; done) | rfl
def Q14 (Z : State) (a1 : Addr) (kx_z_DEFA0 : ClassId) (u_modCount_a1 : Value) (u_size_a1 : Value) (z_DEFA0 : Addr) (h0 : Heap) (n0 : Nat) (v : Option Value) (h : Heap) (L : List Loc) : Prop := ∃ (t0 : Addr) (kx_t0 : ClassId), v = some (.ref t0) ∧ Fr n0 L ∧ Keep h0 h [a1] ∧ h0.size ≤ t0 ∧ Exa Z h a1 "java/util/ArrayList" ∧ Fld Z h a1 "java/util/ArrayList" "elementData" "[Ljava/lang/Object;" (.ref t0) ∧ Fld Z h a1 "java/util/AbstractList" "modCount" "I" u_modCount_a1 ∧ Fld Z h a1 "java/util/ArrayList" "size" "I" u_size_a1 ∧ Arv Z h t0 kx_t0 (.object "java/lang/Object") (10 : Int32) [.null, .null, .null, .null, .null, .null, .null, .null, .null, .null] .null ∧ Ovr Z kx_t0 "java/lang/Object"
set_option maxRecDepth 65536 in
set_option maxHeartbeats 40000000 in
theorem rm14 (l : Launch) (Z : State) (a0 : Array Value) (hw : ∀ d ∈ tables_1, d.before a0 Z = true) (ws : List Jvm.Cond) (a1 : Addr) (kx_z_DEFA0 : ClassId) (u_modCount_a1 : Value) (u_size_a1 : Value) (z_DEFA0 : Addr) (h0 : Heap) (n0 : Nat) (Z0 : n0 ≤ h0.size) (V_z_DEFA0 : Arv Z h0 z_DEFA0 kx_z_DEFA0 (.object "java/lang/Object") (0 : Int32) [] .null) (F_modCount_a1 : Fld Z h0 a1 "java/util/AbstractList" "modCount" "I" u_modCount_a1) (F_size_a1 : Fld Z h0 a1 "java/util/ArrayList" "size" "I" u_size_a1) (F_elementData_a1 : Fld Z h0 a1 "java/util/ArrayList" "elementData" "[Ljava/lang/Object;" (.ref z_DEFA0)) (S_DEFA0 : Sta Z h0 "java/util/ArrayList" "DEFAULTCAPACITY_EMPTY_ELEMENTDATA" "[Ljava/lang/Object;" (.ref z_DEFA0)) (E_a1 : Exa Z h0 a1 "java/util/ArrayList") (g_a1 : n0 ≤ a1) :
    MetFree l (⟨"java/util/ArrayList", "grow", "(I)[Ljava/lang/Object;"⟩ : MethodName) (head1 (Jvm.Cond.code (⟨"java/util/ArrayList", "grow", "(I)[Ljava/lang/Object;"⟩ : MethodName) jdk_38_method_6_code 4 (some (.array (.object "java/lang/Object"))) :: ws) ({ frames := 1, cells := 1, slots := 10, locals := 14 } : Room)) (fun a U => a = #[(.ref a1), (.int (1 : Int32))] ∧ Z.Warmed39 U.vm ∧ U.heap = h0) (fun _ _ _ _ _ => True) (fun _ U o U' => ∃ v L, o = .returned v ∧ Q14 Z a1 kx_z_DEFA0 u_modCount_a1 u_size_a1 z_DEFA0 h0 n0 v U'.heap L ∧ FrameEnd U o U' L ({ frames := 1, cells := 1, slots := 10, locals := 14 } : Room).cells ({ frames := 1, cells := 1, slots := 10, locals := 14 } : Room).slots) := by
  refine MetFree.of_bodySF (plainFor_of_name pn_14) hisR ?_
  intro p e s m args below meth c s₁ Bd hml0 hP hK
  obtain ⟨rfl, hZ, hh⟩ := hP
  have hx := Bd.exec
  have hby := Bd.bytes
  have hml : c.maxLocals = 4 := hml0
  have hown : s.vm.findClass "java/util/ArrayList" = some m.cls := findClass_of_methodNamed Bd.named
  have hnm := (name_of_methodNamed Bd.named Bd.method).1
  have X0 : Stand p l e ({ frames := 1, cells := 1, slots := 10, locals := 14 } : Room) s m #[(.ref a1), (.int (1 : Int32))] below meth c s₁ [] 0 0 := Stand.of_body Bd
  have e0 : s₁.heap = h0 := by rw [← hh, Bd.state]; rfl
  have N0 := Fr.nil n0
  have K0 : Keep h0 h0 [a1] := Keep.refl h0 _
  refine (show Gl p e below (fun o U' => ∃ v L, o = .returned v ∧ Q14 Z a1 kx_z_DEFA0 u_modCount_a1 u_size_a1 z_DEFA0 h0 n0 v U'.heap L ∧ FrameEnd s o U' L ({ frames := 1, cells := 1, slots := 10, locals := 14 } : Room).cells ({ frames := 1, cells := 1, slots := 10, locals := 14 } : Room).slots) (s₁.setTop (entryFrame m #[(.ref a1), (.int (1 : Int32))] 4)) from ?_)
  obtain ⟨L0, hL0⟩ : ∃ z : Array Slot, z = #[.val (.ref a1), .val (.int (1 : Int32)), .unset, .unset] := ⟨_, rfl⟩
  refine Gl.st (B := (s₁.setTop (mkF m 0 L0 []))) (fun t k => castTop (efAt hL0 (ef_14 m a1)) k) ?_
  refine Gl.st (B := (s₁.setTop (mkF m 1 L0 [(.ref a1)]))) (fun t k => XS.aloadN X0.here hx rfl (hb hby d14_0) (ldAt hL0 rfl) rfl k) ?_
  obtain ⟨T1, X1, e1, st1⟩ := getF X0 hx hZ hown (host := "") (Or.inl (tw hw 64 rfl)) Via.refl e0 F_elementData_a1 (g := (mkF m 1 L0 [(.ref a1)])) rfl rfl (hb hby d14_1)
  refine Gl.st (B := (T1.setTop (mkF m 4 L0 [(.ref z_DEFA0)]))) st1 ?_
  obtain ⟨cl2, Ar2, q2, S2, P2, H2, G2⟩ := (id V_z_DEFA0)
  refine Gl.st (B := (T1.setTop (mkF m 5 L0 [(.int cl2.slots.size.toInt32)]))) (fun t k => X1.arraylength hx (by rw [e1]; exact Ar2.1) (State.isArrayOf_alike hZ.alike Ar2.2.1) (g := (mkF m 4 L0 [(.ref z_DEFA0)])) rfl rfl (hb hby d14_4) _ k) ?_
  refine Gl.cast (B := (T1.setTop (mkF m 5 L0 [(.int (0 : Int32))]))) (by rw [len_of S2 P2]) ?_
  obtain ⟨L3, hL3⟩ : ∃ z : Array Slot, z = #[.val (.ref a1), .val (.int (1 : Int32)), .val (.int (0 : Int32)), .unset] := ⟨_, rfl⟩
  refine Gl.st (B := (T1.setTop (mkF m 11 L3 [(.ref a1)]))) (fun t k => XS.istoreN X1.here hx rfl (hb hby d14_5) rfl (l' := L3) (stAt hL0 hL3 rfl rfl) (XS.iloadN X1.here hx rfl (hb hby d14_6) (ldAt hL3 rfl) (XS.ifNo X1.here hx rfl (hb hby d14_7) rfl (by decide) (XS.aloadN X1.here hx rfl (hb hby d14_10) (ldAt hL3 rfl) rfl k)))) ?_
  obtain ⟨T4, X4, e4, st4⟩ := getF X1 hx hZ hown (host := "") (Or.inl (tw hw 64 rfl)) Via.refl e1 F_elementData_a1 (g := (mkF m 11 L3 [(.ref a1)])) rfl rfl (hb hby d14_11)
  refine Gl.st (B := (T4.setTop (mkF m 14 L3 [(.ref z_DEFA0)]))) st4 ?_
  obtain ⟨T5, X5, e5, st5⟩ := getS2 X4 hx hZ hown (host := "") (Or.inl (tw hw 63 rfl)) Via.refl e4 S_DEFA0 (g := (mkF m 14 L3 [(.ref z_DEFA0)])) rfl (hb hby d14_14)
  refine Gl.st (B := (T5.setTop (mkF m 17 L3 [(.ref z_DEFA0), (.ref z_DEFA0)]))) st5 ?_
  refine Gl.st (B := (T5.setTop (mkF m 49 L3 [(.int (1 : Int32)), (.int (10 : Int32)), (.ref a1)]))) (fun t k => Jvm.RoadKit.acmp (g := (mkF m 17 L3 [(.ref z_DEFA0), (.ref z_DEFA0)])) X5 hx rfl rfl rfl (pc0 := 17) (pc' := 45) (same := true) rfl (hb hby d14_17) rfl (decide_eq_true rfl) (by decide) (by decide) (XS.aloadN X5.here hx rfl (hb hby d14_45) (ldAt hL3 rfl) rfl (XS.bipush X5.here hx rfl (hb hby d14_46) (XS.iloadN X5.here hx rfl (hb hby d14_48) (ldAt hL3 rfl) k)))) ?_
  obtain ⟨_, _, ⟨T6, L6q, k6, n6⟩, -, X6, ⟨Lc6, hQ6, l6, y6, z6⟩, st6⟩ := Jvm.LawKit.callS X5 hx (y := (⟨"java/lang/Math", "max", "(II)I"⟩ : MethodName)) hown (mvT hZ (tw hw 94 rfl)) (mvT hZ (tw hw 95 rfl)) (mvT hZ (tw hw 96 rfl)) (mvT hZ (tw hw 97 rfl)) (by decide) (backOf (W := 1) (rm15 l Z a0 hw [] (10 : Int32) (1 : Int32) h0 n0 Z0) hZ (tw hw 97 rfl) (tw hw 96 rfl) (by decide) (by decide)) (g := (mkF m 49 L3 [(.int (1 : Int32)), (.int (10 : Int32)), (.ref a1)])) rfl (szAt hml hL3 rfl) (argsL := [(.int (10 : Int32)), (.int (1 : Int32))]) (rest := [(.ref a1)]) (lenOf pd_14_0 rfl) rfl (by show 2 * 0 + _ ≤ _; exact Nat.le_of_eq rfl) (hb hby d14_49) (fun _ _ => ⟨rfl, e5, (by decide : 0 + 0 ≤ _), (by decide : 0 + 0 ≤ _)⟩)
  dsimp only [Pt.U, Pt.locs, Pt.cells, Pt.slots] at X6 l6 y6 z6 st6 hQ6
  subst l6 y6 z6
  obtain ⟨rfl, N6q, eh6⟩ := hQ6
  have N6 := Fr.app N0 N6q
  refine Gl.st (B := (T6.setTop (mkF m 52 L3 [(.int ((if (10 : Int32) < (1 : Int32) then (1 : Int32) else (10 : Int32)))), (.ref a1)]))) (fun t k => st6 t k) ?_
  refine Gl.cast (B := (T6.setTop (mkF m 52 L3 [(.int (10 : Int32)), (.ref a1)]))) (by rw [if_neg (by decide : ¬ ((10 : Int32) < (1 : Int32)))]) ?_
  obtain ⟨T7, h7, k7, X7, e7, E7, A7, O7, st7⟩ := newR X6 hx hZ hown (C := "java/lang/Object") (tw hw 98 rfl) (tw hw 99 rfl) eh6 (g := (mkF m 52 L3 [(.int (10 : Int32)), (.ref a1)])) rfl (hb hby d14_52) rfl (by decide) (cap := 10) (by decide) (by decide) (by decide) (by decide)
  obtain ⟨b7, gq7⟩ : ∃ z, z = h0.size := ⟨_, rfl⟩
  rw [← gq7] at A7 st7
  have V7 : Arv Z h7 b7 k7 (.object "java/lang/Object") (10 : Int32) [.null, .null, .null, .null, .null, .null, .null, .null, .null, .null] .null := (Arv.new A7 (by decide)).pad (pad_rep [] .null 10)
  have g_b7 : n0 ≤ b7 := Nat.le_trans Z0 (Nat.le_of_eq gq7.symm)
  have sz_b7 : h0.size ≤ b7 := Nat.le_trans K0.1 (Nat.le_of_eq gq7.symm)
  have lt_b7 := V7.lt
  have Zc8 : n0 ≤ h7.size := Nat.le_trans Z0 E7.1
  have K9 : Keep h0 h7 [a1] := K0.ext E7
  refine Gl.st (B := (T7.setTop (mkF m 55 L3 [(.ref b7), (.ref a1)]))) st7 ?_
  refine Gl.st (B := (T7.setTop (mkF m 56 L3 [(.ref b7), (.ref a1), (.ref b7)]))) (fun t k => XS.dupX1 X7.here hx rfl (hb hby d14_55) rfl rfl rfl k) ?_
  have c10 := (E_a1.ext E7)
  have c11 := (F_elementData_a1.ext E7)
  obtain ⟨T12, h12, X12, e12, W12, st12⟩ := putF X7 hx hZ hown (host := "") (Or.inl (tw hw 64 rfl)) Via.refl e7 c11 c10 (Or.inl (tw hw 65 rfl)) (tw hw 43 rfl) (ty := (.array (.object "java/lang/Object"))) (by decide) rfl rfl (g := (mkF m 56 L3 [(.ref b7), (.ref a1), (.ref b7)])) rfl rfl (hb hby d14_56)
  have Fw12 := c11.same W12
  have Zc13 : n0 ≤ h12.size := Nat.le_trans Zc8 (Nat.le_of_eq W12.size.symm)
  have K14 : Keep h0 h12 [a1] := K9.wr W12 (Or.inl (List.mem_of_getElem? (i := 0) rfl))
  have N12 := Fr.snoc X12 N6 g_a1
  refine Gl.st (B := (T12.setTop (mkF m 59 L3 [(.ref b7)]))) st12 ?_
  obtain ⟨fs, hr, hrun, hended, hW, hsame⟩ := X12.leave (v := some (.ref b7)) (fun h => by rw [Bd.returns] at h; cases h)
  refine Gl.fin (X12.areturnOut hx rfl Bd.returns rfl (hb hby d14_59) hr) hrun hended ⟨_, _, rfl, ?_, ⟨_, rfl⟩, hW, hsame.mono (by decide) (by decide)⟩
  show Q14 Z a1 kx_z_DEFA0 u_modCount_a1 u_size_a1 z_DEFA0 h0 n0 _ T12.heap _
  rw [e12]
  have c15 := (c10.wr W12)
  have c16 := ((F_modCount_a1.ext E7).other W12 (Or.inr (sn6 hw)))
  have c17 := ((F_size_a1.ext E7).other W12 (Or.inr (sn7 hw)))
  have ne_a1_b7_18 : a1 ≠ b7 := Nat.ne_of_lt (Nat.lt_of_lt_of_le F_modCount_a1.lt (Nat.le_of_eq gq7.symm))
  have c19 := (V7.other W12 (Ne.symm ne_a1_b7_18))
  exact ⟨b7, k7, rfl, N12, K14, sz_b7, c15, Fw12, c16, c17, c19, O7⟩
theorem d13_0 : decode jdk_38_method_7_code 0 = .ok (.aload_n 0, 1) := by decide +kernel
theorem d13_1 : decode jdk_38_method_7_code 1 = .ok (.aload_n 0, 1) := by decide +kernel
theorem d13_2 : decode jdk_38_method_7_code 2 = .ok (.getfield 48, 3) := by decide +kernel
theorem d13_5 : decode jdk_38_method_7_code 5 = .ok (.iconst 1, 1) := by decide +kernel
theorem d13_6 : decode jdk_38_method_7_code 6 = .ok (.iadd, 1) := by decide +kernel
theorem d13_7 : decode jdk_38_method_7_code 7 = .ok (.invokevirtual 69, 3) := by decide +kernel
theorem d13_10 : decode jdk_38_method_7_code 10 = .ok (.areturn, 1) := by decide +kernel
theorem pn_13 : plainName "java/util/ArrayList" = true := by first | (simp [plainName, overriddenIn]; done) | decide +kernel
theorem pd_13_0 : parseMethodDescriptor "(I)[Ljava/lang/Object;" = some ⟨[.int], some (.array (.object "java/lang/Object"))⟩ := by decide +kernel
theorem ef_13 (m : MethodId) (a1 : Addr) : entryFrame m #[(.ref a1)] 1 = mkF m 0 #[.val (.ref a1)] [] := by first | (simp [entryFrame, mkF, argsToLocals, Value.category]; done) | rfl
def Q13 (Z : State) (a1 : Addr) (kx_z_DEFA0 : ClassId) (u_modCount_a1 : Value) (z_DEFA0 : Addr) (h0 : Heap) (n0 : Nat) (v : Option Value) (h : Heap) (L : List Loc) : Prop := ∃ (t0 : Addr) (kx_t0 : ClassId), v = some (.ref t0) ∧ Fr n0 L ∧ Keep h0 h [a1] ∧ h0.size ≤ t0 ∧ Exa Z h a1 "java/util/ArrayList" ∧ Fld Z h a1 "java/util/ArrayList" "elementData" "[Ljava/lang/Object;" (.ref t0) ∧ Fld Z h a1 "java/util/AbstractList" "modCount" "I" u_modCount_a1 ∧ Fld Z h a1 "java/util/ArrayList" "size" "I" (.int (0 : Int32)) ∧ Arv Z h t0 kx_t0 (.object "java/lang/Object") (10 : Int32) [.null, .null, .null, .null, .null, .null, .null, .null, .null, .null] .null ∧ Ovr Z kx_t0 "java/lang/Object"
set_option maxRecDepth 65536 in
set_option maxHeartbeats 40000000 in
theorem rm13 (l : Launch) (Z : State) (a0 : Array Value) (hw : ∀ d ∈ tables_1, d.before a0 Z = true) (ws : List Jvm.Cond) (a1 : Addr) (kx_z_DEFA0 : ClassId) (u_modCount_a1 : Value) (z_DEFA0 : Addr) (h0 : Heap) (n0 : Nat) (Z0 : n0 ≤ h0.size) (V_z_DEFA0 : Arv Z h0 z_DEFA0 kx_z_DEFA0 (.object "java/lang/Object") (0 : Int32) [] .null) (F_modCount_a1 : Fld Z h0 a1 "java/util/AbstractList" "modCount" "I" u_modCount_a1) (F_size_a1 : Fld Z h0 a1 "java/util/ArrayList" "size" "I" (.int (0 : Int32))) (F_elementData_a1 : Fld Z h0 a1 "java/util/ArrayList" "elementData" "[Ljava/lang/Object;" (.ref z_DEFA0)) (S_DEFA0 : Sta Z h0 "java/util/ArrayList" "DEFAULTCAPACITY_EMPTY_ELEMENTDATA" "[Ljava/lang/Object;" (.ref z_DEFA0)) (E_a1 : Exa Z h0 a1 "java/util/ArrayList") (g_a1 : n0 ≤ a1) :
    MetFree l (⟨"java/util/ArrayList", "grow", "()[Ljava/lang/Object;"⟩ : MethodName) (head1 (Jvm.Cond.code (⟨"java/util/ArrayList", "grow", "()[Ljava/lang/Object;"⟩ : MethodName) jdk_38_method_7_code 1 (some (.array (.object "java/lang/Object"))) :: ws) ({ frames := 2, cells := 1, slots := 10, locals := 29 } : Room)) (fun a U => a = #[(.ref a1)] ∧ Z.Warmed39 U.vm ∧ U.heap = h0) (fun _ _ _ _ _ => True) (fun _ U o U' => ∃ v L, o = .returned v ∧ Q13 Z a1 kx_z_DEFA0 u_modCount_a1 z_DEFA0 h0 n0 v U'.heap L ∧ FrameEnd U o U' L ({ frames := 2, cells := 1, slots := 10, locals := 29 } : Room).cells ({ frames := 2, cells := 1, slots := 10, locals := 29 } : Room).slots) := by
  refine MetFree.of_bodySF (plainFor_of_name pn_13) hisR ?_
  intro p e s m args below meth c s₁ Bd hml0 hP hK
  obtain ⟨rfl, hZ, hh⟩ := hP
  have hx := Bd.exec
  have hby := Bd.bytes
  have hml : c.maxLocals = 1 := hml0
  have hown : s.vm.findClass "java/util/ArrayList" = some m.cls := findClass_of_methodNamed Bd.named
  have hnm := (name_of_methodNamed Bd.named Bd.method).1
  have X0 : Stand p l e ({ frames := 2, cells := 1, slots := 10, locals := 29 } : Room) s m #[(.ref a1)] below meth c s₁ [] 0 0 := Stand.of_body Bd
  have e0 : s₁.heap = h0 := by rw [← hh, Bd.state]; rfl
  have N0 := Fr.nil n0
  have K0 : Keep h0 h0 [a1] := Keep.refl h0 _
  refine (show Gl p e below (fun o U' => ∃ v L, o = .returned v ∧ Q13 Z a1 kx_z_DEFA0 u_modCount_a1 z_DEFA0 h0 n0 v U'.heap L ∧ FrameEnd s o U' L ({ frames := 2, cells := 1, slots := 10, locals := 29 } : Room).cells ({ frames := 2, cells := 1, slots := 10, locals := 29 } : Room).slots) (s₁.setTop (entryFrame m #[(.ref a1)] 1)) from ?_)
  obtain ⟨L0, hL0⟩ : ∃ z : Array Slot, z = #[.val (.ref a1)] := ⟨_, rfl⟩
  refine Gl.st (B := (s₁.setTop (mkF m 0 L0 []))) (fun t k => castTop (efAt hL0 (ef_13 m a1)) k) ?_
  refine Gl.st (B := (s₁.setTop (mkF m 2 L0 [(.ref a1), (.ref a1)]))) (fun t k => XS.aloadN X0.here hx rfl (hb hby d13_0) (ldAt hL0 rfl) rfl (XS.aloadN X0.here hx rfl (hb hby d13_1) (ldAt hL0 rfl) rfl k)) ?_
  obtain ⟨T1, X1, e1, st1⟩ := getF X0 hx hZ hown (host := "") (Or.inl (tw hw 77 rfl)) Via.refl e0 F_size_a1 (g := (mkF m 2 L0 [(.ref a1), (.ref a1)])) rfl rfl (hb hby d13_2)
  refine Gl.st (B := (T1.setTop (mkF m 5 L0 [(.int (0 : Int32)), (.ref a1)]))) st1 ?_
  refine Gl.st (B := (T1.setTop (mkF m 7 L0 [(.int (1 : Int32)), (.ref a1)]))) (fun t k => XS.iconst X1.here hx rfl (hb hby d13_5) (XS.iadd X1.here hx rfl (hb hby d13_6) rfl k)) ?_
  obtain ⟨cq2, q2, q2'⟩ := E_a1.cell
  obtain ⟨_, _, ⟨T2, L2q, k2, n2⟩, -, X2, ⟨Lc2, hQ2, l2, y2, z2⟩, st2⟩ := X1.privateBack hx (y := (⟨"java/util/ArrayList", "grow", "(I)[Ljava/lang/Object;"⟩ : MethodName)) hown (mvT hZ (tw hw 89 rfl)) (mvT hZ (tw hw 90 rfl)) (mvT hZ (tw hw 92 rfl)) (Cond.privateMethod_at (mvP hZ (tw hw 91 rfl) (args := #[]))) (mvT hZ (tw hw 93 rfl)) (by decide) (backOf (W := 0) (rm14 l Z a0 hw [] a1 kx_z_DEFA0 u_modCount_a1 ((.int (0 : Int32))) z_DEFA0 h0 n0 Z0 V_z_DEFA0 F_modCount_a1 F_size_a1 F_elementData_a1 S_DEFA0 E_a1 g_a1) hZ (tw hw 93 rfl) (tw hw 44 rfl) (by decide) (by decide)) (g := (mkF m 7 L0 [(.int (1 : Int32)), (.ref a1)])) rfl (szAt hml hL0 rfl) (Steps.refl _) (a := a1) (by rw [e1]; exact q2) q2' (argsL := [(.int (1 : Int32))]) (rest := []) (lenOf pd_13_0 rfl) rfl (by show 2 * 0 + _ ≤ _; exact Nat.le_of_eq rfl) (hb hby d13_7) (fun _ _ => ⟨rfl, e1, (by decide : 0 + 1 ≤ _), (by decide : 0 + 10 ≤ _)⟩)
  dsimp only [Pt.U, Pt.locs, Pt.cells, Pt.slots] at X2 l2 y2 z2 st2 hQ2
  subst l2 y2 z2
  obtain ⟨b2_t0, k2_kx_t0, rfl, N2q, Kc2, fq2_0, fq2_1, fq2_2, fq2_3, fq2_4, fq2_5, fq2_6⟩ := hQ2
  have g_b2_t0 : n0 ≤ b2_t0 := Nat.le_trans Z0 fq2_0
  have sz_b2_t0 : h0.size ≤ b2_t0 := Nat.le_trans K0.1 fq2_0
  have lt_b2_t0 := fq2_5.lt
  have Zc3 : n0 ≤ T2.heap.size := Nat.le_trans Z0 Kc2.1
  have K4 : Keep h0 T2.heap [a1] := K0.trans Kc2 (allS (Or.inl (List.mem_of_getElem? (i := 0) rfl)) all0)
  have N2 := Fr.app N0 N2q
  refine Gl.st (B := (T2.setTop (mkF m 10 L0 [(.ref b2_t0)]))) (fun t k => st2.trans k) ?_
  obtain ⟨fs, hr, hrun, hended, hW, hsame⟩ := X2.leave (v := some (.ref b2_t0)) (fun h => by rw [Bd.returns] at h; cases h)
  refine Gl.fin (X2.areturnOut hx rfl Bd.returns rfl (hb hby d13_10) hr) hrun hended ⟨_, _, rfl, ?_, ⟨_, rfl⟩, hW, hsame.mono (by decide) (by decide)⟩
  show Q13 Z a1 kx_z_DEFA0 u_modCount_a1 z_DEFA0 h0 n0 _ T2.heap _
  exact ⟨b2_t0, k2_kx_t0, rfl, N2, K4, sz_b2_t0, fq2_1, fq2_2, fq2_3, fq2_4, fq2_5, fq2_6⟩
theorem sn8 {Z : State} {a0 : Array Value} (hw : ∀ d ∈ tables_1, d.before a0 Z = true) : Jvm.RoadKit.slotOf Z "java/util/ArrayList" "elementData" "[Ljava/lang/Object;" ≠ Jvm.RoadKit.slotOf Z "java/util/ArrayList" "size" "I" := slot_ne (Or.inl (tw hw 65 rfl)) (Or.inl (tw hw 78 rfl)) (by decide) (t := (.array (.object "java/lang/Object"))) (t' := .int) (by decide) (by decide)
theorem sn9 {Z : State} {a0 : Array Value} (hw : ∀ d ∈ tables_1, d.before a0 Z = true) : Jvm.RoadKit.slotOf Z "java/util/AbstractList" "modCount" "I" ≠ Jvm.RoadKit.slotOf Z "java/util/ArrayList" "size" "I" := slot_ne (Or.inl (tw hw 62 rfl)) (Or.inl (tw hw 78 rfl)) (by decide) (t := .int) (t' := .int) (by decide) (by decide)
theorem d12_0 : decode jdk_38_method_24_code 0 = .ok (.iload_n 3, 1) := by decide +kernel
theorem d12_1 : decode jdk_38_method_24_code 1 = .ok (.aload_n 2, 1) := by decide +kernel
theorem d12_2 : decode jdk_38_method_24_code 2 = .ok (.arraylength, 1) := by decide +kernel
theorem d12_3 : decode jdk_38_method_24_code 3 = .ok (.if_icmp .ne 8, 3) := by decide +kernel
theorem d12_6 : decode jdk_38_method_24_code 6 = .ok (.aload_n 0, 1) := by decide +kernel
theorem d12_7 : decode jdk_38_method_24_code 7 = .ok (.invokevirtual 129, 3) := by decide +kernel
theorem d12_10 : decode jdk_38_method_24_code 10 = .ok (.astore_n 2, 1) := by decide +kernel
theorem d12_11 : decode jdk_38_method_24_code 11 = .ok (.aload_n 2, 1) := by decide +kernel
theorem d12_12 : decode jdk_38_method_24_code 12 = .ok (.iload_n 3, 1) := by decide +kernel
theorem d12_13 : decode jdk_38_method_24_code 13 = .ok (.aload_n 1, 1) := by decide +kernel
theorem d12_14 : decode jdk_38_method_24_code 14 = .ok (.aastore, 1) := by decide +kernel
theorem d12_15 : decode jdk_38_method_24_code 15 = .ok (.aload_n 0, 1) := by decide +kernel
theorem d12_16 : decode jdk_38_method_24_code 16 = .ok (.iload_n 3, 1) := by decide +kernel
theorem d12_17 : decode jdk_38_method_24_code 17 = .ok (.iconst 1, 1) := by decide +kernel
theorem d12_18 : decode jdk_38_method_24_code 18 = .ok (.iadd, 1) := by decide +kernel
theorem d12_19 : decode jdk_38_method_24_code 19 = .ok (.putfield 48, 3) := by decide +kernel
theorem d12_22 : decode jdk_38_method_24_code 22 = .ok (.return_, 1) := by decide +kernel
theorem pn_12 : plainName "java/util/ArrayList" = true := by first | (simp [plainName, overriddenIn]; done) | decide +kernel
theorem pd_12_0 : parseMethodDescriptor "()[Ljava/lang/Object;" = some ⟨[], some (.array (.object "java/lang/Object"))⟩ := by decide +kernel
theorem ef_12 (m : MethodId) (a1 : Addr) (a2 : Addr) (a3 : Addr) : entryFrame m #[(.ref a1), (.ref a2), (.ref a3), (.int (0 : Int32))] 4 = mkF m 0 #[.val (.ref a1), .val (.ref a2), .val (.ref a3), .val (.int (0 : Int32))] [] := by first | (simp [entryFrame, mkF, argsToLocals, Value.category]; done) | rfl
def Q12 (Z : State) (a1 : Addr) (a2 : Addr) (a3 : Addr) (kx_z_DEFA0 : ClassId) (kx_a3 : ClassId) (u_modCount_a1 : Value) (z_DEFA0 : Addr) (h0 : Heap) (n0 : Nat) (v : Option Value) (h : Heap) (L : List Loc) : Prop := ∃ (t0 : Addr) (kx_t0 : ClassId), v = none ∧ Fr n0 L ∧ Keep h0 h [a1] ∧ h0.size ≤ t0 ∧ Exa Z h a1 "java/util/ArrayList" ∧ Fld Z h a1 "java/util/ArrayList" "elementData" "[Ljava/lang/Object;" (.ref t0) ∧ Fld Z h a1 "java/util/AbstractList" "modCount" "I" u_modCount_a1 ∧ Fld Z h a1 "java/util/ArrayList" "size" "I" (.int (1 : Int32)) ∧ Arv Z h t0 kx_t0 (.object "java/lang/Object") (10 : Int32) [(.ref a2), .null, .null, .null, .null, .null, .null, .null, .null, .null] .null ∧ Ovr Z kx_t0 "java/lang/Object"
set_option maxRecDepth 65536 in
set_option maxHeartbeats 40000000 in
theorem rm12 (l : Launch) (Z : State) (a0 : Array Value) (hw : ∀ d ∈ tables_1, d.before a0 Z = true) (ws : List Jvm.Cond) (a1 : Addr) (a2 : Addr) (a3 : Addr) (kx_z_DEFA0 : ClassId) (kx_a3 : ClassId) (u_modCount_a1 : Value) (z_DEFA0 : Addr) (h0 : Heap) (n0 : Nat) (Z0 : n0 ≤ h0.size) (V_z_DEFA0 : Arv Z h0 z_DEFA0 kx_z_DEFA0 (.object "java/lang/Object") (0 : Int32) [] .null) (V_a3 : Arv Z h0 a3 kx_a3 (.object "java/lang/Object") (0 : Int32) [] .null) (F_modCount_a1 : Fld Z h0 a1 "java/util/AbstractList" "modCount" "I" u_modCount_a1) (F_size_a1 : Fld Z h0 a1 "java/util/ArrayList" "size" "I" (.int (0 : Int32))) (F_elementData_a1 : Fld Z h0 a1 "java/util/ArrayList" "elementData" "[Ljava/lang/Object;" (.ref z_DEFA0)) (S_DEFA0 : Sta Z h0 "java/util/ArrayList" "DEFAULTCAPACITY_EMPTY_ELEMENTDATA" "[Ljava/lang/Object;" (.ref z_DEFA0)) (E_a1 : Exa Z h0 a1 "java/util/ArrayList") (g_a1 : n0 ≤ a1) (E_a2 : Exa Z h0 a2 "com/example/limpet/limpet/protocol/JoinGroup$Protocol") :
    MetFree l (⟨"java/util/ArrayList", "add", "(Ljava/lang/Object;[Ljava/lang/Object;I)V"⟩ : MethodName) (head1 (Jvm.Cond.code (⟨"java/util/ArrayList", "add", "(Ljava/lang/Object;[Ljava/lang/Object;I)V"⟩ : MethodName) jdk_38_method_24_code 4 none :: ws) ({ frames := 3, cells := 1, slots := 10, locals := 41 } : Room)) (fun a U => a = #[(.ref a1), (.ref a2), (.ref a3), (.int (0 : Int32))] ∧ Z.Warmed39 U.vm ∧ U.heap = h0) (fun _ _ _ _ _ => True) (fun _ U o U' => ∃ v L, o = .returned v ∧ Q12 Z a1 a2 a3 kx_z_DEFA0 kx_a3 u_modCount_a1 z_DEFA0 h0 n0 v U'.heap L ∧ FrameEnd U o U' L ({ frames := 3, cells := 1, slots := 10, locals := 41 } : Room).cells ({ frames := 3, cells := 1, slots := 10, locals := 41 } : Room).slots) := by
  refine MetFree.of_bodySF (plainFor_of_name pn_12) hisR ?_
  intro p e s m args below meth c s₁ Bd hml0 hP hK
  obtain ⟨rfl, hZ, hh⟩ := hP
  have hx := Bd.exec
  have hby := Bd.bytes
  have hml : c.maxLocals = 4 := hml0
  have hown : s.vm.findClass "java/util/ArrayList" = some m.cls := findClass_of_methodNamed Bd.named
  have hnm := (name_of_methodNamed Bd.named Bd.method).1
  have X0 : Stand p l e ({ frames := 3, cells := 1, slots := 10, locals := 41 } : Room) s m #[(.ref a1), (.ref a2), (.ref a3), (.int (0 : Int32))] below meth c s₁ [] 0 0 := Stand.of_body Bd
  have e0 : s₁.heap = h0 := by rw [← hh, Bd.state]; rfl
  have N0 := Fr.nil n0
  have K0 : Keep h0 h0 [a1] := Keep.refl h0 _
  refine (show Gl p e below (fun o U' => ∃ v L, o = .returned v ∧ Q12 Z a1 a2 a3 kx_z_DEFA0 kx_a3 u_modCount_a1 z_DEFA0 h0 n0 v U'.heap L ∧ FrameEnd s o U' L ({ frames := 3, cells := 1, slots := 10, locals := 41 } : Room).cells ({ frames := 3, cells := 1, slots := 10, locals := 41 } : Room).slots) (s₁.setTop (entryFrame m #[(.ref a1), (.ref a2), (.ref a3), (.int (0 : Int32))] 4)) from ?_)
  obtain ⟨L0, hL0⟩ : ∃ z : Array Slot, z = #[.val (.ref a1), .val (.ref a2), .val (.ref a3), .val (.int (0 : Int32))] := ⟨_, rfl⟩
  refine Gl.st (B := (s₁.setTop (mkF m 0 L0 []))) (fun t k => castTop (efAt hL0 (ef_12 m a1 a2 a3)) k) ?_
  refine Gl.st (B := (s₁.setTop (mkF m 2 L0 [(.ref a3), (.int (0 : Int32))]))) (fun t k => XS.iloadN X0.here hx rfl (hb hby d12_0) (ldAt hL0 rfl) (XS.aloadN X0.here hx rfl (hb hby d12_1) (ldAt hL0 rfl) rfl k)) ?_
  obtain ⟨cl1, Ar1, q1, S1, P1, H1, G1⟩ := (id V_a3)
  refine Gl.st (B := (s₁.setTop (mkF m 3 L0 [(.int cl1.slots.size.toInt32), (.int (0 : Int32))]))) (fun t k => X0.arraylength hx (by rw [e0]; exact Ar1.1) (State.isArrayOf_alike hZ.alike Ar1.2.1) (g := (mkF m 2 L0 [(.ref a3), (.int (0 : Int32))])) rfl rfl (hb hby d12_2) _ k) ?_
  refine Gl.cast (B := (s₁.setTop (mkF m 3 L0 [(.int (0 : Int32)), (.int (0 : Int32))]))) (by rw [len_of S1 P1]) ?_
  refine Gl.st (B := (s₁.setTop (mkF m 7 L0 [(.ref a1)]))) (fun t k => XS.icmpNo X0.here hx rfl (hb hby d12_3) rfl (by decide) (XS.aloadN X0.here hx rfl (hb hby d12_6) (ldAt hL0 rfl) rfl k)) ?_
  obtain ⟨cq2, q2, q2'⟩ := E_a1.cell
  obtain ⟨_, _, ⟨T2, L2q, k2, n2⟩, -, X2, ⟨Lc2, hQ2, l2, y2, z2⟩, st2⟩ := X0.privateBack hx (y := (⟨"java/util/ArrayList", "grow", "()[Ljava/lang/Object;"⟩ : MethodName)) hown (mvT hZ (tw hw 84 rfl)) (mvT hZ (tw hw 85 rfl)) (mvT hZ (tw hw 87 rfl)) (Cond.privateMethod_at (mvP hZ (tw hw 86 rfl) (args := #[]))) (mvT hZ (tw hw 88 rfl)) (by decide) (backOf (W := 0) (rm13 l Z a0 hw [] a1 kx_z_DEFA0 u_modCount_a1 z_DEFA0 h0 n0 Z0 V_z_DEFA0 F_modCount_a1 F_size_a1 F_elementData_a1 S_DEFA0 E_a1 g_a1) hZ (tw hw 88 rfl) (tw hw 44 rfl) (by decide) (by decide)) (g := (mkF m 7 L0 [(.ref a1)])) rfl (szAt hml hL0 rfl) (Steps.refl _) (a := a1) (by rw [e0]; exact q2) q2' (argsL := []) (rest := []) (lenOf pd_12_0 rfl) rfl (by show 2 * 0 + _ ≤ _; exact Nat.le_of_eq rfl) (hb hby d12_7) (fun _ _ => ⟨rfl, e0, (by decide : 0 + 1 ≤ _), (by decide : 0 + 10 ≤ _)⟩)
  dsimp only [Pt.U, Pt.locs, Pt.cells, Pt.slots] at X2 l2 y2 z2 st2 hQ2
  subst l2 y2 z2
  obtain ⟨b2_t0, k2_kx_t0, rfl, N2q, Kc2, fq2_0, fq2_1, fq2_2, fq2_3, fq2_4, fq2_5, fq2_6⟩ := hQ2
  have g_b2_t0 : n0 ≤ b2_t0 := Nat.le_trans Z0 fq2_0
  have sz_b2_t0 : h0.size ≤ b2_t0 := Nat.le_trans K0.1 fq2_0
  have lt_b2_t0 := fq2_5.lt
  have Zc3 : n0 ≤ T2.heap.size := Nat.le_trans Z0 Kc2.1
  have K4 : Keep h0 T2.heap [a1] := K0.trans Kc2 (allS (Or.inl (List.mem_of_getElem? (i := 0) rfl)) all0)
  have N2 := Fr.app N0 N2q
  refine Gl.st (B := (T2.setTop (mkF m 10 L0 [(.ref b2_t0)]))) (fun t k => st2.trans k) ?_
  obtain ⟨L5, hL5⟩ : ∃ z : Array Slot, z = #[.val (.ref a1), .val (.ref a2), .val (.ref b2_t0), .val (.int (0 : Int32))] := ⟨_, rfl⟩
  refine Gl.st (B := (T2.setTop (mkF m 14 L5 [(.ref a2), (.int (0 : Int32)), (.ref b2_t0)]))) (fun t k => XS.astoreN X2.here hx rfl (hb hby d12_10) rfl rfl (l' := L5) (stAt hL0 hL5 rfl rfl) (XS.aloadN X2.here hx rfl (hb hby d12_11) (ldAt hL5 rfl) rfl (XS.iloadN X2.here hx rfl (hb hby d12_12) (ldAt hL5 rfl) (XS.aloadN X2.here hx rfl (hb hby d12_13) (ldAt hL5 rfl) rfl k)))) ?_
  have c6 := (E_a2.keep Kc2)
  obtain ⟨cl7, Ar7, q7, S7, P7, H7, G7⟩ := (id fq2_5)
  have hin14_7 : ¬ ((0 : Int32) < 0 ∨ cl7.slots.size ≤ ((0 : Int32)).toNatClampNeg) := inb_of S7 ⟨by decide, by decide⟩
  obtain ⟨T7, h7, X7, e7, W7, st7⟩ := stR X2 hx hZ rfl Ar7 (j := (0 : Int32)) hin14_7 rfl (Sto.ofV Ar7 q7 fq2_6 (Ins.of_exa c6 (tw hw 100 rfl))) (g := (mkF m 14 L5 [(.ref a2), (.int (0 : Int32)), (.ref b2_t0)])) rfl rfl (hb hby d12_14)
  have V7 : Arv Z h7 b2_t0 k2_kx_t0 (.object "java/lang/Object") (10 : Int32) [(.ref a2), .null, .null, .null, .null, .null, .null, .null, .null, .null] .null := Arv.set Ar7 q7 S7 P7 H7 G7 rfl W7 0 rfl (Nat.le_of_ble_eq_true rfl)
  have Zc8 : n0 ≤ h7.size := Nat.le_trans Zc3 (Nat.le_of_eq W7.size.symm)
  have K9 : Keep h0 h7 [a1] := K4.wr W7 (Or.inr sz_b2_t0)
  have N7 := Fr.snoc X7 N2 g_b2_t0
  refine Gl.st (B := (T7.setTop (mkF m 15 L5 []))) st7 ?_
  refine Gl.st (B := (T7.setTop (mkF m 19 L5 [(.int (1 : Int32)), (.ref a1)]))) (fun t k => XS.aloadN X7.here hx rfl (hb hby d12_15) (ldAt hL5 rfl) rfl (XS.iloadN X7.here hx rfl (hb hby d12_16) (ldAt hL5 rfl) (XS.iconst X7.here hx rfl (hb hby d12_17) (XS.iadd X7.here hx rfl (hb hby d12_18) rfl k)))) ?_
  have c10 := (fq2_1.wr W7)
  have ne_a1_b2_t0_11 : a1 ≠ b2_t0 := Nat.ne_of_lt (Nat.lt_of_lt_of_le F_modCount_a1.lt fq2_0)
  have c12 := (fq2_4.other W7 (Or.inl ne_a1_b2_t0_11))
  obtain ⟨T13, h13, X13, e13, W13, st13⟩ := putF X7 hx hZ hown (host := "") (Or.inl (tw hw 77 rfl)) Via.refl e7 c12 c10 (Or.inl (tw hw 78 rfl)) (tw hw 43 rfl) (ty := .int) (by decide) rfl rfl (g := (mkF m 19 L5 [(.int (1 : Int32)), (.ref a1)])) rfl rfl (hb hby d12_19)
  have Fw13 := c12.same W13
  have Zc14 : n0 ≤ h13.size := Nat.le_trans Zc8 (Nat.le_of_eq W13.size.symm)
  have K15 : Keep h0 h13 [a1] := K9.wr W13 (Or.inl (List.mem_of_getElem? (i := 0) rfl))
  have N13 := Fr.snoc X13 N7 g_a1
  refine Gl.st (B := (T13.setTop (mkF m 22 L5 []))) st13 ?_
  obtain ⟨fs, hr, hrun, hended, hW, hsame⟩ := X13.leave (v := none) (fun _ => rfl)
  refine Gl.fin (X13.returnOut hx Bd.returns (hb hby d12_22) hr) hrun hended ⟨_, _, rfl, ?_, ⟨_, rfl⟩, hW, hsame.mono (by decide) (by decide)⟩
  show Q12 Z a1 a2 a3 kx_z_DEFA0 kx_a3 u_modCount_a1 z_DEFA0 h0 n0 _ T13.heap _
  rw [e13]
  have c16 := (c10.wr W13)
  have c17 := ((fq2_2.other W7 (Or.inl ne_a1_b2_t0_11)).other W13 (Or.inr (sn8 hw)))
  have c18 := ((fq2_3.other W7 (Or.inl ne_a1_b2_t0_11)).other W13 (Or.inr (sn9 hw)))
  have c19 := (V7.other W13 (Ne.symm ne_a1_b2_t0_11))
  exact ⟨b2_t0, k2_kx_t0, rfl, N13, K15, sz_b2_t0, c16, c17, c18, Fw13, c19, fq2_6⟩
theorem d11_0 : decode jdk_38_method_25_code 0 = .ok (.aload_n 0, 1) := by decide +kernel
theorem d11_1 : decode jdk_38_method_25_code 1 = .ok (.dup, 1) := by decide +kernel
theorem d11_2 : decode jdk_38_method_25_code 2 = .ok (.getfield 63, 3) := by decide +kernel
theorem d11_5 : decode jdk_38_method_25_code 5 = .ok (.iconst 1, 1) := by decide +kernel
theorem d11_6 : decode jdk_38_method_25_code 6 = .ok (.iadd, 1) := by decide +kernel
theorem d11_7 : decode jdk_38_method_25_code 7 = .ok (.putfield 63, 3) := by decide +kernel
theorem d11_10 : decode jdk_38_method_25_code 10 = .ok (.aload_n 0, 1) := by decide +kernel
theorem d11_11 : decode jdk_38_method_25_code 11 = .ok (.aload_n 1, 1) := by decide +kernel
theorem d11_12 : decode jdk_38_method_25_code 12 = .ok (.aload_n 0, 1) := by decide +kernel
theorem d11_13 : decode jdk_38_method_25_code 13 = .ok (.getfield 9, 3) := by decide +kernel
theorem d11_16 : decode jdk_38_method_25_code 16 = .ok (.aload_n 0, 1) := by decide +kernel
theorem d11_17 : decode jdk_38_method_25_code 17 = .ok (.getfield 48, 3) := by decide +kernel
theorem d11_20 : decode jdk_38_method_25_code 20 = .ok (.invokevirtual 131, 3) := by decide +kernel
theorem d11_23 : decode jdk_38_method_25_code 23 = .ok (.iconst 1, 1) := by decide +kernel
theorem d11_24 : decode jdk_38_method_25_code 24 = .ok (.ireturn, 1) := by decide +kernel
theorem pn_11 : plainName "java/util/ArrayList" = true := by first | (simp [plainName, overriddenIn]; done) | decide +kernel
theorem pd_11_0 : parseMethodDescriptor "(Ljava/lang/Object;[Ljava/lang/Object;I)V" = some ⟨[(.object "java/lang/Object"), (.array (.object "java/lang/Object")), .int], none⟩ := by decide +kernel
theorem ef_11 (m : MethodId) (a1 : Addr) (a2 : Addr) : entryFrame m #[(.ref a1), (.ref a2)] 2 = mkF m 0 #[.val (.ref a1), .val (.ref a2)] [] := by first | (simp [entryFrame, mkF, argsToLocals, Value.category]; done) | rfl
def Q11 (Z : State) (a1 : Addr) (a2 : Addr) (kx_z_DEFA0 : ClassId) (w_modCount_a1 : Int32) (z_DEFA0 : Addr) (h0 : Heap) (n0 : Nat) (v : Option Value) (h : Heap) (L : List Loc) : Prop := ∃ (t0 : Addr) (kx_t0 : ClassId), v = some (.int (1 : Int32)) ∧ Fr n0 L ∧ Keep h0 h [a1] ∧ h0.size ≤ t0 ∧ Exa Z h a1 "java/util/ArrayList" ∧ Fld Z h a1 "java/util/ArrayList" "elementData" "[Ljava/lang/Object;" (.ref t0) ∧ Fld Z h a1 "java/util/AbstractList" "modCount" "I" (.int ((w_modCount_a1 + (1 : Int32)))) ∧ Fld Z h a1 "java/util/ArrayList" "size" "I" (.int (1 : Int32)) ∧ Arv Z h t0 kx_t0 (.object "java/lang/Object") (10 : Int32) [(.ref a2), .null, .null, .null, .null, .null, .null, .null, .null, .null] .null ∧ Ovr Z kx_t0 "java/lang/Object"
set_option maxRecDepth 65536 in
set_option maxHeartbeats 40000000 in
theorem rm11 (l : Launch) (Z : State) (a0 : Array Value) (hw : ∀ d ∈ tables_1, d.before a0 Z = true) (ws : List Jvm.Cond) (a1 : Addr) (a2 : Addr) (kx_z_DEFA0 : ClassId) (w_modCount_a1 : Int32) (z_DEFA0 : Addr) (h0 : Heap) (n0 : Nat) (Z0 : n0 ≤ h0.size) (V_z_DEFA0 : Arv Z h0 z_DEFA0 kx_z_DEFA0 (.object "java/lang/Object") (0 : Int32) [] .null) (F_modCount_a1 : Fld Z h0 a1 "java/util/AbstractList" "modCount" "I" (.int w_modCount_a1)) (E_a1 : Exa Z h0 a1 "java/util/ArrayList") (g_a1 : n0 ≤ a1) (F_elementData_a1 : Fld Z h0 a1 "java/util/ArrayList" "elementData" "[Ljava/lang/Object;" (.ref z_DEFA0)) (F_size_a1 : Fld Z h0 a1 "java/util/ArrayList" "size" "I" (.int (0 : Int32))) (S_DEFA0 : Sta Z h0 "java/util/ArrayList" "DEFAULTCAPACITY_EMPTY_ELEMENTDATA" "[Ljava/lang/Object;" (.ref z_DEFA0)) (ne_a1_z_DEFA0 : a1 ≠ z_DEFA0) (E_a2 : Exa Z h0 a2 "com/example/limpet/limpet/protocol/JoinGroup$Protocol") :
    MetFree l (⟨"java/util/ArrayList", "add", "(Ljava/lang/Object;)Z"⟩ : MethodName) (head1 (Jvm.Cond.code (⟨"java/util/ArrayList", "add", "(Ljava/lang/Object;)Z"⟩ : MethodName) jdk_38_method_25_code 2 (some .boolean) :: ws) ({ frames := 4, cells := 1, slots := 10, locals := 56 } : Room)) (fun a U => a = #[(.ref a1), (.ref a2)] ∧ Z.Warmed39 U.vm ∧ U.heap = h0) (fun _ _ _ _ _ => True) (fun _ U o U' => ∃ v L, o = .returned v ∧ Q11 Z a1 a2 kx_z_DEFA0 w_modCount_a1 z_DEFA0 h0 n0 v U'.heap L ∧ FrameEnd U o U' L ({ frames := 4, cells := 1, slots := 10, locals := 56 } : Room).cells ({ frames := 4, cells := 1, slots := 10, locals := 56 } : Room).slots) := by
  refine MetFree.of_bodySF (plainFor_of_name pn_11) hisR ?_
  intro p e s m args below meth c s₁ Bd hml0 hP hK
  obtain ⟨rfl, hZ, hh⟩ := hP
  have hx := Bd.exec
  have hby := Bd.bytes
  have hml : c.maxLocals = 2 := hml0
  have hown : s.vm.findClass "java/util/ArrayList" = some m.cls := findClass_of_methodNamed Bd.named
  have hnm := (name_of_methodNamed Bd.named Bd.method).1
  have X0 : Stand p l e ({ frames := 4, cells := 1, slots := 10, locals := 56 } : Room) s m #[(.ref a1), (.ref a2)] below meth c s₁ [] 0 0 := Stand.of_body Bd
  have e0 : s₁.heap = h0 := by rw [← hh, Bd.state]; rfl
  have N0 := Fr.nil n0
  have K0 : Keep h0 h0 [a1] := Keep.refl h0 _
  refine (show Gl p e below (fun o U' => ∃ v L, o = .returned v ∧ Q11 Z a1 a2 kx_z_DEFA0 w_modCount_a1 z_DEFA0 h0 n0 v U'.heap L ∧ FrameEnd s o U' L ({ frames := 4, cells := 1, slots := 10, locals := 56 } : Room).cells ({ frames := 4, cells := 1, slots := 10, locals := 56 } : Room).slots) (s₁.setTop (entryFrame m #[(.ref a1), (.ref a2)] 2)) from ?_)
  obtain ⟨L0, hL0⟩ : ∃ z : Array Slot, z = #[.val (.ref a1), .val (.ref a2)] := ⟨_, rfl⟩
  refine Gl.st (B := (s₁.setTop (mkF m 0 L0 []))) (fun t k => castTop (efAt hL0 (ef_11 m a1 a2)) k) ?_
  refine Gl.st (B := (s₁.setTop (mkF m 2 L0 [(.ref a1), (.ref a1)]))) (fun t k => XS.aloadN X0.here hx rfl (hb hby d11_0) (ldAt hL0 rfl) rfl (XS.dup X0.here hx rfl (hb hby d11_1) rfl rfl k)) ?_
  obtain ⟨T1, X1, e1, st1⟩ := getF X0 hx hZ hown (host := "") (Or.inl (tw hw 75 rfl)) (Via.of (tw hw 76 rfl)) e0 F_modCount_a1 (g := (mkF m 2 L0 [(.ref a1), (.ref a1)])) rfl rfl (hb hby d11_2)
  refine Gl.st (B := (T1.setTop (mkF m 5 L0 [(.int w_modCount_a1), (.ref a1)]))) st1 ?_
  refine Gl.st (B := (T1.setTop (mkF m 7 L0 [(.int (w_modCount_a1 + (1 : Int32))), (.ref a1)]))) (fun t k => XS.iconst X1.here hx rfl (hb hby d11_5) (XS.iadd X1.here hx rfl (hb hby d11_6) rfl k)) ?_
  obtain ⟨x7_2, hx7_2⟩ : ∃ z : Int32, z = (w_modCount_a1 + (1 : Int32)) := ⟨_, rfl⟩
  refine Gl.cast (B := (T1.setTop (mkF m 7 L0 [(.int x7_2), (.ref a1)]))) (by rw [hx7_2]) ?_
  obtain ⟨T3, h3, X3, e3, W3, st3⟩ := putF X1 hx hZ hown (host := "") (Or.inl (tw hw 75 rfl)) (Via.of (tw hw 76 rfl)) e1 F_modCount_a1 E_a1 (Or.inl (tw hw 62 rfl)) (tw hw 43 rfl) (ty := .int) (by decide) rfl rfl (g := (mkF m 7 L0 [(.int x7_2), (.ref a1)])) rfl rfl (hb hby d11_7)
  have Fw3 := F_modCount_a1.same W3
  have Zc4 : n0 ≤ h3.size := Nat.le_trans Z0 (Nat.le_of_eq W3.size.symm)
  have K5 : Keep h0 h3 [a1] := K0.wr W3 (Or.inl (List.mem_of_getElem? (i := 0) rfl))
  have N3 := Fr.snoc X3 N0 g_a1
  refine Gl.st (B := (T3.setTop (mkF m 10 L0 []))) st3 ?_
  refine Gl.st (B := (T3.setTop (mkF m 13 L0 [(.ref a1), (.ref a2), (.ref a1)]))) (fun t k => XS.aloadN X3.here hx rfl (hb hby d11_10) (ldAt hL0 rfl) rfl (XS.aloadN X3.here hx rfl (hb hby d11_11) (ldAt hL0 rfl) rfl (XS.aloadN X3.here hx rfl (hb hby d11_12) (ldAt hL0 rfl) rfl k))) ?_
  have c6 := (F_elementData_a1.other W3 (Or.inr (sn4 hw)))
  obtain ⟨T7, X7, e7, st7⟩ := getF X3 hx hZ hown (host := "") (Or.inl (tw hw 64 rfl)) Via.refl e3 c6 (g := (mkF m 13 L0 [(.ref a1), (.ref a2), (.ref a1)])) rfl rfl (hb hby d11_13)
  refine Gl.st (B := (T7.setTop (mkF m 16 L0 [(.ref z_DEFA0), (.ref a2), (.ref a1)]))) st7 ?_
  refine Gl.st (B := (T7.setTop (mkF m 17 L0 [(.ref a1), (.ref z_DEFA0), (.ref a2), (.ref a1)]))) (fun t k => XS.aloadN X7.here hx rfl (hb hby d11_16) (ldAt hL0 rfl) rfl k) ?_
  have c8 := (F_size_a1.other W3 (Or.inr (sn5 hw)))
  obtain ⟨T9, X9, e9, st9⟩ := getF X7 hx hZ hown (host := "") (Or.inl (tw hw 77 rfl)) Via.refl e7 c8 (g := (mkF m 17 L0 [(.ref a1), (.ref z_DEFA0), (.ref a2), (.ref a1)])) rfl rfl (hb hby d11_17)
  refine Gl.st (B := (T9.setTop (mkF m 20 L0 [(.int (0 : Int32)), (.ref z_DEFA0), (.ref a2), (.ref a1)]))) st9 ?_
  have c11 := (S_DEFA0.wr W3)
  have c12 := (V_z_DEFA0.other W3 (Ne.symm ne_a1_z_DEFA0))
  have c13 := (E_a1.wr W3)
  have c14 := (E_a2.wr W3)
  obtain ⟨cq10, q10, q10'⟩ := c13.cell
  obtain ⟨_, _, ⟨T10, L10q, k10, n10⟩, -, X10, ⟨Lc10, hQ10, l10, y10, z10⟩, st10⟩ := X9.privateBack hx (y := (⟨"java/util/ArrayList", "add", "(Ljava/lang/Object;[Ljava/lang/Object;I)V"⟩ : MethodName)) hown (mvT hZ (tw hw 79 rfl)) (mvT hZ (tw hw 80 rfl)) (mvT hZ (tw hw 82 rfl)) (Cond.privateMethod_at (mvP hZ (tw hw 81 rfl) (args := #[]))) (mvT hZ (tw hw 83 rfl)) (by decide) (backOf (W := 0) (rm12 l Z a0 hw [] a1 a2 z_DEFA0 kx_z_DEFA0 kx_z_DEFA0 ((.int x7_2)) z_DEFA0 h3 n0 Zc4 c12 c12 Fw3 c8 c6 c11 c13 g_a1 c14) hZ (tw hw 83 rfl) (tw hw 44 rfl) (by decide) (by decide)) (g := (mkF m 20 L0 [(.int (0 : Int32)), (.ref z_DEFA0), (.ref a2), (.ref a1)])) rfl (szAt hml hL0 rfl) (Steps.refl _) (a := a1) (by rw [e9]; exact q10) q10' (argsL := [(.ref a2), (.ref z_DEFA0), (.int (0 : Int32))]) (rest := []) (lenOf pd_11_0 rfl) rfl (by show 2 * 0 + _ ≤ _; exact Nat.le_of_eq rfl) (hb hby d11_20) (fun _ _ => ⟨rfl, e9, (by decide : 0 + 1 ≤ _), (by decide : 0 + 10 ≤ _)⟩)
  dsimp only [Pt.U, Pt.locs, Pt.cells, Pt.slots] at X10 l10 y10 z10 st10 hQ10
  subst l10 y10 z10
  obtain ⟨b10_t0, k10_kx_t0, rfl, N10q, Kc10, fq10_0, fq10_1, fq10_2, fq10_3, fq10_4, fq10_5, fq10_6⟩ := hQ10
  have g_b10_t0 : n0 ≤ b10_t0 := Nat.le_trans Zc4 fq10_0
  have sz_b10_t0 : h0.size ≤ b10_t0 := Nat.le_trans K5.1 fq10_0
  have lt_b10_t0 := fq10_5.lt
  have Zc15 : n0 ≤ T10.heap.size := Nat.le_trans Zc4 Kc10.1
  have K16 : Keep h0 T10.heap [a1] := K5.trans Kc10 (allS (Or.inl (List.mem_of_getElem? (i := 0) rfl)) all0)
  have N10 := Fr.app N3 N10q
  refine Gl.st (B := (T10.setTop (mkF m 23 L0 []))) (fun t k => st10.trans k) ?_
  refine Gl.st (B := (T10.setTop (mkF m 24 L0 [(.int (1 : Int32))]))) (fun t k => XS.iconst X10.here hx rfl (hb hby d11_23) k) ?_
  obtain ⟨fs, hr, hrun, hended, hW, hsame⟩ := X10.leave (v := some (.int (nar .boolean (1 : Int32)))) (fun h => by rw [Bd.returns] at h; cases h)
  refine Gl.fin (retN X10 hx (t := .boolean) Bd.returns (by simp) (hb hby d11_24) hr) hrun hended ⟨_, _, rfl, ?_, ⟨_, rfl⟩, hW, hsame.mono (by decide) (by decide)⟩
  show Q11 Z a1 a2 kx_z_DEFA0 w_modCount_a1 z_DEFA0 h0 n0 _ T10.heap _
  exact ⟨b10_t0, k10_kx_t0, rfl, N10, K16, sz_b10_t0, fq10_1, fq10_2, (by subst hx7_2; exact fq10_3), fq10_4, fq10_5, fq10_6⟩
theorem sn10 {Z : State} {a0 : Array Value} (hw : ∀ d ∈ tables_1, d.before a0 Z = true) : Jvm.RoadKit.slotOf Z "com/example/limpet/limpet/group/Member" "id" "Ljava/lang/String;" ≠ Jvm.RoadKit.slotOf Z "com/example/limpet/limpet/group/Member" "assignment" "[B" := slot_ne (Or.inr (tw hw 111 rfl)) (Or.inl (tw hw 109 rfl)) (by decide) (t := (.object "java/lang/String")) (t' := (.array .byte)) (by decide) (by decide)
theorem sn11 {Z : State} {a0 : Array Value} (hw : ∀ d ∈ tables_1, d.before a0 Z = true) : Jvm.RoadKit.slotOf Z "com/example/limpet/limpet/group/Member" "instanceId" "Ljava/lang/String;" ≠ Jvm.RoadKit.slotOf Z "com/example/limpet/limpet/group/Member" "assignment" "[B" := slot_ne (Or.inr (tw hw 113 rfl)) (Or.inl (tw hw 109 rfl)) (by decide) (t := (.object "java/lang/String")) (t' := (.array .byte)) (by decide) (by decide)
theorem sn12 {Z : State} {a0 : Array Value} (hw : ∀ d ∈ tables_1, d.before a0 Z = true) : Jvm.RoadKit.slotOf Z "com/example/limpet/limpet/group/Member" "instanceId" "Ljava/lang/String;" ≠ Jvm.RoadKit.slotOf Z "com/example/limpet/limpet/group/Member" "id" "Ljava/lang/String;" := slot_ne (Or.inr (tw hw 113 rfl)) (Or.inr (tw hw 111 rfl)) (by decide) (t := (.object "java/lang/String")) (t' := (.object "java/lang/String")) (by decide) (by decide)
theorem sn13 {Z : State} {a0 : Array Value} (hw : ∀ d ∈ tables_1, d.before a0 Z = true) : Jvm.RoadKit.slotOf Z "com/example/limpet/limpet/group/Member" "assignment" "[B" ≠ Jvm.RoadKit.slotOf Z "com/example/limpet/limpet/group/Member" "id" "Ljava/lang/String;" := slot_ne (Or.inl (tw hw 109 rfl)) (Or.inr (tw hw 111 rfl)) (by decide) (t := (.array .byte)) (t' := (.object "java/lang/String")) (by decide) (by decide)
theorem sn14 {Z : State} {a0 : Array Value} (hw : ∀ d ∈ tables_1, d.before a0 Z = true) : Jvm.RoadKit.slotOf Z "com/example/limpet/limpet/group/Member" "assignment" "[B" ≠ Jvm.RoadKit.slotOf Z "com/example/limpet/limpet/group/Member" "instanceId" "Ljava/lang/String;" := slot_ne (Or.inl (tw hw 109 rfl)) (Or.inr (tw hw 113 rfl)) (by decide) (t := (.array .byte)) (t' := (.object "java/lang/String")) (by decide) (by decide)
theorem sn15 {Z : State} {a0 : Array Value} (hw : ∀ d ∈ tables_1, d.before a0 Z = true) : Jvm.RoadKit.slotOf Z "com/example/limpet/limpet/group/Member" "generation" "I" ≠ Jvm.RoadKit.slotOf Z "com/example/limpet/limpet/group/Member" "assignment" "[B" := slot_ne (Or.inl (tw hw 115 rfl)) (Or.inl (tw hw 109 rfl)) (by decide) (t := .int) (t' := (.array .byte)) (by decide) (by decide)
theorem sn16 {Z : State} {a0 : Array Value} (hw : ∀ d ∈ tables_1, d.before a0 Z = true) : Jvm.RoadKit.slotOf Z "com/example/limpet/limpet/group/Member" "generation" "I" ≠ Jvm.RoadKit.slotOf Z "com/example/limpet/limpet/group/Member" "id" "Ljava/lang/String;" := slot_ne (Or.inl (tw hw 115 rfl)) (Or.inr (tw hw 111 rfl)) (by decide) (t := .int) (t' := (.object "java/lang/String")) (by decide) (by decide)
theorem sn17 {Z : State} {a0 : Array Value} (hw : ∀ d ∈ tables_1, d.before a0 Z = true) : Jvm.RoadKit.slotOf Z "com/example/limpet/limpet/group/Member" "generation" "I" ≠ Jvm.RoadKit.slotOf Z "com/example/limpet/limpet/group/Member" "instanceId" "Ljava/lang/String;" := slot_ne (Or.inl (tw hw 115 rfl)) (Or.inr (tw hw 113 rfl)) (by decide) (t := .int) (t' := (.object "java/lang/String")) (by decide) (by decide)
theorem sn18 {Z : State} {a0 : Array Value} (hw : ∀ d ∈ tables_1, d.before a0 Z = true) : Jvm.RoadKit.slotOf Z "com/example/limpet/limpet/group/Member" "id" "Ljava/lang/String;" ≠ Jvm.RoadKit.slotOf Z "com/example/limpet/limpet/group/Member" "instanceId" "Ljava/lang/String;" := slot_ne (Or.inr (tw hw 111 rfl)) (Or.inr (tw hw 113 rfl)) (by decide) (t := (.object "java/lang/String")) (t' := (.object "java/lang/String")) (by decide) (by decide)
theorem sn19 {Z : State} {a0 : Array Value} (hw : ∀ d ∈ tables_1, d.before a0 Z = true) : Jvm.RoadKit.slotOf Z "com/example/limpet/limpet/group/Member" "pendingJoin" "Ljava/util/function/Consumer;" ≠ Jvm.RoadKit.slotOf Z "com/example/limpet/limpet/group/Member" "assignment" "[B" := slot_ne (Or.inl (tw hw 174 rfl)) (Or.inl (tw hw 109 rfl)) (by decide) (t := (.object "java/util/function/Consumer")) (t' := (.array .byte)) (by decide) (by decide)
theorem sn20 {Z : State} {a0 : Array Value} (hw : ∀ d ∈ tables_1, d.before a0 Z = true) : Jvm.RoadKit.slotOf Z "com/example/limpet/limpet/group/Member" "pendingJoin" "Ljava/util/function/Consumer;" ≠ Jvm.RoadKit.slotOf Z "com/example/limpet/limpet/group/Member" "id" "Ljava/lang/String;" := slot_ne (Or.inl (tw hw 174 rfl)) (Or.inr (tw hw 111 rfl)) (by decide) (t := (.object "java/util/function/Consumer")) (t' := (.object "java/lang/String")) (by decide) (by decide)
theorem sn21 {Z : State} {a0 : Array Value} (hw : ∀ d ∈ tables_1, d.before a0 Z = true) : Jvm.RoadKit.slotOf Z "com/example/limpet/limpet/group/Member" "pendingJoin" "Ljava/util/function/Consumer;" ≠ Jvm.RoadKit.slotOf Z "com/example/limpet/limpet/group/Member" "instanceId" "Ljava/lang/String;" := slot_ne (Or.inl (tw hw 174 rfl)) (Or.inr (tw hw 113 rfl)) (by decide) (t := (.object "java/util/function/Consumer")) (t' := (.object "java/lang/String")) (by decide) (by decide)
theorem sn22 {Z : State} {a0 : Array Value} (hw : ∀ d ∈ tables_1, d.before a0 Z = true) : Jvm.RoadKit.slotOf Z "com/example/limpet/limpet/group/Member" "pendingSync" "Ljava/util/function/Consumer;" ≠ Jvm.RoadKit.slotOf Z "com/example/limpet/limpet/group/Member" "assignment" "[B" := slot_ne (Or.inl (tw hw 176 rfl)) (Or.inl (tw hw 109 rfl)) (by decide) (t := (.object "java/util/function/Consumer")) (t' := (.array .byte)) (by decide) (by decide)
theorem sn23 {Z : State} {a0 : Array Value} (hw : ∀ d ∈ tables_1, d.before a0 Z = true) : Jvm.RoadKit.slotOf Z "com/example/limpet/limpet/group/Member" "pendingSync" "Ljava/util/function/Consumer;" ≠ Jvm.RoadKit.slotOf Z "com/example/limpet/limpet/group/Member" "id" "Ljava/lang/String;" := slot_ne (Or.inl (tw hw 176 rfl)) (Or.inr (tw hw 111 rfl)) (by decide) (t := (.object "java/util/function/Consumer")) (t' := (.object "java/lang/String")) (by decide) (by decide)
theorem sn24 {Z : State} {a0 : Array Value} (hw : ∀ d ∈ tables_1, d.before a0 Z = true) : Jvm.RoadKit.slotOf Z "com/example/limpet/limpet/group/Member" "pendingSync" "Ljava/util/function/Consumer;" ≠ Jvm.RoadKit.slotOf Z "com/example/limpet/limpet/group/Member" "instanceId" "Ljava/lang/String;" := slot_ne (Or.inl (tw hw 176 rfl)) (Or.inr (tw hw 113 rfl)) (by decide) (t := (.object "java/util/function/Consumer")) (t' := (.object "java/lang/String")) (by decide) (by decide)
theorem sn25 {Z : State} {a0 : Array Value} (hw : ∀ d ∈ tables_1, d.before a0 Z = true) : Jvm.RoadKit.slotOf Z "com/example/limpet/limpet/group/Member" "protocols" "Ljava/util/List;" ≠ Jvm.RoadKit.slotOf Z "com/example/limpet/limpet/group/Member" "assignment" "[B" := slot_ne (Or.inl (tw hw 118 rfl)) (Or.inl (tw hw 109 rfl)) (by decide) (t := (.object "java/util/List")) (t' := (.array .byte)) (by decide) (by decide)
theorem sn26 {Z : State} {a0 : Array Value} (hw : ∀ d ∈ tables_1, d.before a0 Z = true) : Jvm.RoadKit.slotOf Z "com/example/limpet/limpet/group/Member" "protocols" "Ljava/util/List;" ≠ Jvm.RoadKit.slotOf Z "com/example/limpet/limpet/group/Member" "id" "Ljava/lang/String;" := slot_ne (Or.inl (tw hw 118 rfl)) (Or.inr (tw hw 111 rfl)) (by decide) (t := (.object "java/util/List")) (t' := (.object "java/lang/String")) (by decide) (by decide)
theorem sn27 {Z : State} {a0 : Array Value} (hw : ∀ d ∈ tables_1, d.before a0 Z = true) : Jvm.RoadKit.slotOf Z "com/example/limpet/limpet/group/Member" "protocols" "Ljava/util/List;" ≠ Jvm.RoadKit.slotOf Z "com/example/limpet/limpet/group/Member" "instanceId" "Ljava/lang/String;" := slot_ne (Or.inl (tw hw 118 rfl)) (Or.inr (tw hw 113 rfl)) (by decide) (t := (.object "java/util/List")) (t' := (.object "java/lang/String")) (by decide) (by decide)
theorem sn28 {Z : State} {a0 : Array Value} (hw : ∀ d ∈ tables_1, d.before a0 Z = true) : Jvm.RoadKit.slotOf Z "com/example/limpet/limpet/group/Member" "rebalanceTimeoutMs" "I" ≠ Jvm.RoadKit.slotOf Z "com/example/limpet/limpet/group/Member" "assignment" "[B" := slot_ne (Or.inl (tw hw 122 rfl)) (Or.inl (tw hw 109 rfl)) (by decide) (t := .int) (t' := (.array .byte)) (by decide) (by decide)
theorem sn29 {Z : State} {a0 : Array Value} (hw : ∀ d ∈ tables_1, d.before a0 Z = true) : Jvm.RoadKit.slotOf Z "com/example/limpet/limpet/group/Member" "rebalanceTimeoutMs" "I" ≠ Jvm.RoadKit.slotOf Z "com/example/limpet/limpet/group/Member" "id" "Ljava/lang/String;" := slot_ne (Or.inl (tw hw 122 rfl)) (Or.inr (tw hw 111 rfl)) (by decide) (t := .int) (t' := (.object "java/lang/String")) (by decide) (by decide)
theorem sn30 {Z : State} {a0 : Array Value} (hw : ∀ d ∈ tables_1, d.before a0 Z = true) : Jvm.RoadKit.slotOf Z "com/example/limpet/limpet/group/Member" "rebalanceTimeoutMs" "I" ≠ Jvm.RoadKit.slotOf Z "com/example/limpet/limpet/group/Member" "instanceId" "Ljava/lang/String;" := slot_ne (Or.inl (tw hw 122 rfl)) (Or.inr (tw hw 113 rfl)) (by decide) (t := .int) (t' := (.object "java/lang/String")) (by decide) (by decide)
theorem sn31 {Z : State} {a0 : Array Value} (hw : ∀ d ∈ tables_1, d.before a0 Z = true) : Jvm.RoadKit.slotOf Z "com/example/limpet/limpet/group/Member" "sessionDeadline" "J" ≠ Jvm.RoadKit.slotOf Z "com/example/limpet/limpet/group/Member" "assignment" "[B" := slot_ne (Or.inl (tw hw 125 rfl)) (Or.inl (tw hw 109 rfl)) (by decide) (t := .long) (t' := (.array .byte)) (by decide) (by decide)
theorem sn32 {Z : State} {a0 : Array Value} (hw : ∀ d ∈ tables_1, d.before a0 Z = true) : Jvm.RoadKit.slotOf Z "com/example/limpet/limpet/group/Member" "sessionDeadline" "J" ≠ Jvm.RoadKit.slotOf Z "com/example/limpet/limpet/group/Member" "id" "Ljava/lang/String;" := slot_ne (Or.inl (tw hw 125 rfl)) (Or.inr (tw hw 111 rfl)) (by decide) (t := .long) (t' := (.object "java/lang/String")) (by decide) (by decide)
theorem sn33 {Z : State} {a0 : Array Value} (hw : ∀ d ∈ tables_1, d.before a0 Z = true) : Jvm.RoadKit.slotOf Z "com/example/limpet/limpet/group/Member" "sessionDeadline" "J" ≠ Jvm.RoadKit.slotOf Z "com/example/limpet/limpet/group/Member" "instanceId" "Ljava/lang/String;" := slot_ne (Or.inl (tw hw 125 rfl)) (Or.inr (tw hw 113 rfl)) (by decide) (t := .long) (t' := (.object "java/lang/String")) (by decide) (by decide)
theorem sn34 {Z : State} {a0 : Array Value} (hw : ∀ d ∈ tables_1, d.before a0 Z = true) : Jvm.RoadKit.slotOf Z "com/example/limpet/limpet/group/Member" "sessionTimeoutMs" "I" ≠ Jvm.RoadKit.slotOf Z "com/example/limpet/limpet/group/Member" "assignment" "[B" := slot_ne (Or.inl (tw hw 120 rfl)) (Or.inl (tw hw 109 rfl)) (by decide) (t := .int) (t' := (.array .byte)) (by decide) (by decide)
theorem sn35 {Z : State} {a0 : Array Value} (hw : ∀ d ∈ tables_1, d.before a0 Z = true) : Jvm.RoadKit.slotOf Z "com/example/limpet/limpet/group/Member" "sessionTimeoutMs" "I" ≠ Jvm.RoadKit.slotOf Z "com/example/limpet/limpet/group/Member" "id" "Ljava/lang/String;" := slot_ne (Or.inl (tw hw 120 rfl)) (Or.inr (tw hw 111 rfl)) (by decide) (t := .int) (t' := (.object "java/lang/String")) (by decide) (by decide)
theorem sn36 {Z : State} {a0 : Array Value} (hw : ∀ d ∈ tables_1, d.before a0 Z = true) : Jvm.RoadKit.slotOf Z "com/example/limpet/limpet/group/Member" "sessionTimeoutMs" "I" ≠ Jvm.RoadKit.slotOf Z "com/example/limpet/limpet/group/Member" "instanceId" "Ljava/lang/String;" := slot_ne (Or.inl (tw hw 120 rfl)) (Or.inr (tw hw 113 rfl)) (by decide) (t := .int) (t' := (.object "java/lang/String")) (by decide) (by decide)
theorem d16_0 : decode prog_8_method_1_code 0 = .ok (.aload_n 0, 1) := by decide +kernel
theorem d16_1 : decode prog_8_method_1_code 1 = .ok (.invokespecial 1, 3) := by decide +kernel
theorem d16_4 : decode prog_8_method_1_code 4 = .ok (.aload_n 0, 1) := by decide +kernel
theorem d16_5 : decode prog_8_method_1_code 5 = .ok (.iconst 0, 1) := by decide +kernel
theorem d16_6 : decode prog_8_method_1_code 6 = .ok (.newarray .byte, 2) := by decide +kernel
theorem d16_8 : decode prog_8_method_1_code 8 = .ok (.putfield 7, 3) := by decide +kernel
theorem d16_11 : decode prog_8_method_1_code 11 = .ok (.aload_n 0, 1) := by decide +kernel
theorem d16_12 : decode prog_8_method_1_code 12 = .ok (.aload_n 1, 1) := by decide +kernel
theorem d16_13 : decode prog_8_method_1_code 13 = .ok (.putfield 13, 3) := by decide +kernel
theorem d16_16 : decode prog_8_method_1_code 16 = .ok (.aload_n 0, 1) := by decide +kernel
theorem d16_17 : decode prog_8_method_1_code 17 = .ok (.aload_n 2, 1) := by decide +kernel
theorem d16_18 : decode prog_8_method_1_code 18 = .ok (.putfield 17, 3) := by decide +kernel
theorem d16_21 : decode prog_8_method_1_code 21 = .ok (.return_, 1) := by decide +kernel
theorem pn_16 : plainName "com/example/limpet/limpet/group/Member" = true := by first | (simp [plainName, overriddenIn]; done) | decide +kernel
theorem ef_16 (m : MethodId) (a1 : Addr) (a2 : Addr) (a3 : Addr) : entryFrame m #[(.ref a1), (.ref a2), (.ref a3)] 3 = mkF m 0 #[.val (.ref a1), .val (.ref a2), .val (.ref a3)] [] := by first | (simp [entryFrame, mkF, argsToLocals, Value.category]; done) | rfl
def Q16 (Z : State) (a1 : Addr) (a2 : Addr) (a3 : Addr) (u_assignment_a1 : Value) (u_id_a1 : Value) (u_instanceId_a1 : Value) (u_generation_a1 : Value) (u_protocols_a1 : Value) (u_sess2_a1 : Value) (u_reba3_a1 : Value) (u_sess4_a1 : Value) (u_pendingJoin_a1 : Value) (u_pendingSync_a1 : Value) (h0 : Heap) (n0 : Nat) (v : Option Value) (h : Heap) (L : List Loc) : Prop := ∃ (t0 : Addr) (kx_t0 : ClassId), v = none ∧ Fr n0 L ∧ Keep h0 h [a1] ∧ h0.size ≤ t0 ∧ Exa Z h a1 "com/example/limpet/limpet/group/Member" ∧ Fld Z h a1 "com/example/limpet/limpet/group/Member" "assignment" "[B" (.ref t0) ∧ Fld Z h a1 "com/example/limpet/limpet/group/Member" "generation" "I" u_generation_a1 ∧ Fld Z h a1 "com/example/limpet/limpet/group/Member" "id" "Ljava/lang/String;" (.ref a2) ∧ Fld Z h a1 "com/example/limpet/limpet/group/Member" "instanceId" "Ljava/lang/String;" (.ref a3) ∧ Fld Z h a1 "com/example/limpet/limpet/group/Member" "pendingJoin" "Ljava/util/function/Consumer;" u_pendingJoin_a1 ∧ Fld Z h a1 "com/example/limpet/limpet/group/Member" "pendingSync" "Ljava/util/function/Consumer;" u_pendingSync_a1 ∧ Fld Z h a1 "com/example/limpet/limpet/group/Member" "protocols" "Ljava/util/List;" u_protocols_a1 ∧ Fld Z h a1 "com/example/limpet/limpet/group/Member" "rebalanceTimeoutMs" "I" u_reba3_a1 ∧ Fld Z h a1 "com/example/limpet/limpet/group/Member" "sessionDeadline" "J" u_sess4_a1 ∧ Fld Z h a1 "com/example/limpet/limpet/group/Member" "sessionTimeoutMs" "I" u_sess2_a1 ∧ Exa Z h t0 "[B" ∧ Arv Z h t0 kx_t0 .byte (0 : Int32) [] (.int (0 : Int32))
set_option maxRecDepth 65536 in
set_option maxHeartbeats 40000000 in
theorem rm16 (l : Launch) (Z : State) (a0 : Array Value) (hw : ∀ d ∈ tables_1, d.before a0 Z = true) (ws : List Jvm.Cond) (a1 : Addr) (a2 : Addr) (a3 : Addr) (u_assignment_a1 : Value) (u_id_a1 : Value) (u_instanceId_a1 : Value) (u_generation_a1 : Value) (u_protocols_a1 : Value) (u_sess2_a1 : Value) (u_reba3_a1 : Value) (u_sess4_a1 : Value) (u_pendingJoin_a1 : Value) (u_pendingSync_a1 : Value) (h0 : Heap) (n0 : Nat) (Z0 : n0 ≤ h0.size) (F_assignment_a1 : Fld Z h0 a1 "com/example/limpet/limpet/group/Member" "assignment" "[B" u_assignment_a1) (F_id_a1 : Fld Z h0 a1 "com/example/limpet/limpet/group/Member" "id" "Ljava/lang/String;" u_id_a1) (F_instanceId_a1 : Fld Z h0 a1 "com/example/limpet/limpet/group/Member" "instanceId" "Ljava/lang/String;" u_instanceId_a1) (F_generation_a1 : Fld Z h0 a1 "com/example/limpet/limpet/group/Member" "generation" "I" u_generation_a1) (F_protocols_a1 : Fld Z h0 a1 "com/example/limpet/limpet/group/Member" "protocols" "Ljava/util/List;" u_protocols_a1) (F_sess2_a1 : Fld Z h0 a1 "com/example/limpet/limpet/group/Member" "sessionTimeoutMs" "I" u_sess2_a1) (F_reba3_a1 : Fld Z h0 a1 "com/example/limpet/limpet/group/Member" "rebalanceTimeoutMs" "I" u_reba3_a1) (F_sess4_a1 : Fld Z h0 a1 "com/example/limpet/limpet/group/Member" "sessionDeadline" "J" u_sess4_a1) (F_pendingJoin_a1 : Fld Z h0 a1 "com/example/limpet/limpet/group/Member" "pendingJoin" "Ljava/util/function/Consumer;" u_pendingJoin_a1) (F_pendingSync_a1 : Fld Z h0 a1 "com/example/limpet/limpet/group/Member" "pendingSync" "Ljava/util/function/Consumer;" u_pendingSync_a1) (E_a1 : Exa Z h0 a1 "com/example/limpet/limpet/group/Member") (g_a1 : n0 ≤ a1) :
    MetFree l (⟨"com/example/limpet/limpet/group/Member", "<init>", "(Ljava/lang/String;Ljava/lang/String;)V"⟩ : MethodName) (head1 (Jvm.Cond.code (⟨"com/example/limpet/limpet/group/Member", "<init>", "(Ljava/lang/String;Ljava/lang/String;)V"⟩ : MethodName) prog_8_method_1_code 3 none :: ws) ({ frames := 1, cells := 1, slots := 0, locals := 12 } : Room)) (fun a U => a = #[(.ref a1), (.ref a2), (.ref a3)] ∧ Z.Warmed39 U.vm ∧ U.heap = h0) (fun _ _ _ _ _ => True) (fun _ U o U' => ∃ v L, o = .returned v ∧ Q16 Z a1 a2 a3 u_assignment_a1 u_id_a1 u_instanceId_a1 u_generation_a1 u_protocols_a1 u_sess2_a1 u_reba3_a1 u_sess4_a1 u_pendingJoin_a1 u_pendingSync_a1 h0 n0 v U'.heap L ∧ FrameEnd U o U' L ({ frames := 1, cells := 1, slots := 0, locals := 12 } : Room).cells ({ frames := 1, cells := 1, slots := 0, locals := 12 } : Room).slots) := by
  refine MetFree.of_bodySF (plainFor_of_name pn_16) hisR ?_
  intro p e s m args below meth c s₁ Bd hml0 hP hK
  obtain ⟨rfl, hZ, hh⟩ := hP
  have hx := Bd.exec
  have hby := Bd.bytes
  have hml : c.maxLocals = 3 := hml0
  have hown : s.vm.findClass "com/example/limpet/limpet/group/Member" = some m.cls := findClass_of_methodNamed Bd.named
  have hnm := (name_of_methodNamed Bd.named Bd.method).1
  have X0 : Stand p l e ({ frames := 1, cells := 1, slots := 0, locals := 12 } : Room) s m #[(.ref a1), (.ref a2), (.ref a3)] below meth c s₁ [] 0 0 := Stand.of_body Bd
  have e0 : s₁.heap = h0 := by rw [← hh, Bd.state]; rfl
  have N0 := Fr.nil n0
  have K0 : Keep h0 h0 [a1] := Keep.refl h0 _
  refine (show Gl p e below (fun o U' => ∃ v L, o = .returned v ∧ Q16 Z a1 a2 a3 u_assignment_a1 u_id_a1 u_instanceId_a1 u_generation_a1 u_protocols_a1 u_sess2_a1 u_reba3_a1 u_sess4_a1 u_pendingJoin_a1 u_pendingSync_a1 h0 n0 v U'.heap L ∧ FrameEnd s o U' L ({ frames := 1, cells := 1, slots := 0, locals := 12 } : Room).cells ({ frames := 1, cells := 1, slots := 0, locals := 12 } : Room).slots) (s₁.setTop (entryFrame m #[(.ref a1), (.ref a2), (.ref a3)] 3)) from ?_)
  obtain ⟨L0, hL0⟩ : ∃ z : Array Slot, z = #[.val (.ref a1), .val (.ref a2), .val (.ref a3)] := ⟨_, rfl⟩
  refine Gl.st (B := (s₁.setTop (mkF m 0 L0 []))) (fun t k => castTop (efAt hL0 (ef_16 m a1 a2 a3)) k) ?_
  refine Gl.st (B := (s₁.setTop (mkF m 1 L0 [(.ref a1)]))) (fun t k => XS.aloadN X0.here hx rfl (hb hby d16_0) (ldAt hL0 rfl) rfl k) ?_
  obtain ⟨T1, X1, e1, st1⟩ := initO X0 hx hZ hown (tw hw 107 rfl) (tw hw 20 rfl) (tw hw 21 rfl) e0 (g := (mkF m 1 L0 [(.ref a1)])) rfl (szAt hml hL0 rfl) rfl (hb hby d16_1) (by decide) (W := 0) (by show 2 * 0 + _ ≤ _; exact Nat.le_of_eq rfl) (by decide)
  refine Gl.st (B := (T1.setTop (mkF m 4 L0 []))) st1 ?_
  refine Gl.st (B := (T1.setTop (mkF m 6 L0 [(.int (0 : Int32)), (.ref a1)]))) (fun t k => XS.aloadN X1.here hx rfl (hb hby d16_4) (ldAt hL0 rfl) rfl (XS.iconst X1.here hx rfl (hb hby d16_5) k)) ?_
  obtain ⟨T2, h2, k2, X2, e2, E2, A2, Ex2, st2⟩ := newPE X1 hx hZ (tw hw 14 rfl) e1 (g := (mkF m 6 L0 [(.int (0 : Int32)), (.ref a1)])) rfl (hb hby d16_6) rfl (by decide) (cap := 0) (by decide) (by decide) (by decide) (by decide) (ad := "[B") rfl
  obtain ⟨b2, gq2⟩ : ∃ z, z = h0.size := ⟨_, rfl⟩
  rw [← gq2] at A2 Ex2 st2
  have V2 : Arv Z h2 b2 k2 .byte (0 : Int32) [] (.int (0 : Int32)) := Arv.new A2 (by decide)
  have g_b2 : n0 ≤ b2 := Nat.le_trans Z0 (Nat.le_of_eq gq2.symm)
  have sz_b2 : h0.size ≤ b2 := Nat.le_trans K0.1 (Nat.le_of_eq gq2.symm)
  have lt_b2 := V2.lt
  have Zc3 : n0 ≤ h2.size := Nat.le_trans Z0 E2.1
  have K4 : Keep h0 h2 [a1] := K0.ext E2
  refine Gl.st (B := (T2.setTop (mkF m 8 L0 [(.ref b2), (.ref a1)]))) st2 ?_
  have c5 := (E_a1.ext E2)
  have c6 := (F_assignment_a1.ext E2)
  obtain ⟨T7, h7, X7, e7, W7, st7⟩ := putF X2 hx hZ hown (host := "") (Or.inl (tw hw 108 rfl)) Via.refl e2 c6 c5 (Or.inl (tw hw 109 rfl)) (tw hw 102 rfl) (ty := (.array .byte)) (by decide) rfl rfl (g := (mkF m 8 L0 [(.ref b2), (.ref a1)])) rfl rfl (hb hby d16_8)
  have Fw7 := c6.same W7
  have Zc8 : n0 ≤ h7.size := Nat.le_trans Zc3 (Nat.le_of_eq W7.size.symm)
  have K9 : Keep h0 h7 [a1] := K4.wr W7 (Or.inl (List.mem_of_getElem? (i := 0) rfl))
  have N7 := Fr.snoc X7 N0 g_a1
  refine Gl.st (B := (T7.setTop (mkF m 11 L0 []))) st7 ?_
  refine Gl.st (B := (T7.setTop (mkF m 13 L0 [(.ref a2), (.ref a1)]))) (fun t k => XS.aloadN X7.here hx rfl (hb hby d16_11) (ldAt hL0 rfl) rfl (XS.aloadN X7.here hx rfl (hb hby d16_12) (ldAt hL0 rfl) rfl k)) ?_
  have c10 := (c5.wr W7)
  have c11 := ((F_id_a1.ext E2).other W7 (Or.inr (sn10 hw)))
  obtain ⟨T12, h12, X12, e12, W12, st12⟩ := putF X7 hx hZ hown (host := "") (Or.inl (tw hw 110 rfl)) Via.refl e7 c11 c10 (Or.inr ⟨(tw hw 111 rfl), rfl, hnm⟩) (tw hw 102 rfl) (ty := (.object "java/lang/String")) (by decide) rfl rfl (g := (mkF m 13 L0 [(.ref a2), (.ref a1)])) rfl rfl (hb hby d16_13)
  have Fw12 := c11.same W12
  have Zc13 : n0 ≤ h12.size := Nat.le_trans Zc8 (Nat.le_of_eq W12.size.symm)
  have K14 : Keep h0 h12 [a1] := K9.wr W12 (Or.inl (List.mem_of_getElem? (i := 0) rfl))
  have N12 := Fr.snoc X12 N7 g_a1
  refine Gl.st (B := (T12.setTop (mkF m 16 L0 []))) st12 ?_
  refine Gl.st (B := (T12.setTop (mkF m 18 L0 [(.ref a3), (.ref a1)]))) (fun t k => XS.aloadN X12.here hx rfl (hb hby d16_16) (ldAt hL0 rfl) rfl (XS.aloadN X12.here hx rfl (hb hby d16_17) (ldAt hL0 rfl) rfl k)) ?_
  have c15 := (c10.wr W12)
  have c16 := (((F_instanceId_a1.ext E2).other W7 (Or.inr (sn11 hw))).other W12 (Or.inr (sn12 hw)))
  obtain ⟨T17, h17, X17, e17, W17, st17⟩ := putF X12 hx hZ hown (host := "") (Or.inl (tw hw 112 rfl)) Via.refl e12 c16 c15 (Or.inr ⟨(tw hw 113 rfl), rfl, hnm⟩) (tw hw 102 rfl) (ty := (.object "java/lang/String")) (by decide) rfl rfl (g := (mkF m 18 L0 [(.ref a3), (.ref a1)])) rfl rfl (hb hby d16_18)
  have Fw17 := c16.same W17
  have Zc18 : n0 ≤ h17.size := Nat.le_trans Zc13 (Nat.le_of_eq W17.size.symm)
  have K19 : Keep h0 h17 [a1] := K14.wr W17 (Or.inl (List.mem_of_getElem? (i := 0) rfl))
  have N17 := Fr.snoc X17 N12 g_a1
  refine Gl.st (B := (T17.setTop (mkF m 21 L0 []))) st17 ?_
  obtain ⟨fs, hr, hrun, hended, hW, hsame⟩ := X17.leave (v := none) (fun _ => rfl)
  refine Gl.fin (X17.returnOut hx Bd.returns (hb hby d16_21) hr) hrun hended ⟨_, _, rfl, ?_, ⟨_, rfl⟩, hW, hsame.mono (by decide) (by decide)⟩
  show Q16 Z a1 a2 a3 u_assignment_a1 u_id_a1 u_instanceId_a1 u_generation_a1 u_protocols_a1 u_sess2_a1 u_reba3_a1 u_sess4_a1 u_pendingJoin_a1 u_pendingSync_a1 h0 n0 _ T17.heap _
  rw [e17]
  have c20 := (c15.wr W17)
  have c21 := ((Fw7.other W12 (Or.inr (sn13 hw))).other W17 (Or.inr (sn14 hw)))
  have c22 := ((((F_generation_a1.ext E2).other W7 (Or.inr (sn15 hw))).other W12 (Or.inr (sn16 hw))).other W17 (Or.inr (sn17 hw)))
  have c23 := (Fw12.other W17 (Or.inr (sn18 hw)))
  have c24 := ((((F_pendingJoin_a1.ext E2).other W7 (Or.inr (sn19 hw))).other W12 (Or.inr (sn20 hw))).other W17 (Or.inr (sn21 hw)))
  have c25 := ((((F_pendingSync_a1.ext E2).other W7 (Or.inr (sn22 hw))).other W12 (Or.inr (sn23 hw))).other W17 (Or.inr (sn24 hw)))
  have c26 := ((((F_protocols_a1.ext E2).other W7 (Or.inr (sn25 hw))).other W12 (Or.inr (sn26 hw))).other W17 (Or.inr (sn27 hw)))
  have c27 := ((((F_reba3_a1.ext E2).other W7 (Or.inr (sn28 hw))).other W12 (Or.inr (sn29 hw))).other W17 (Or.inr (sn30 hw)))
  have c28 := ((((F_sess4_a1.ext E2).other W7 (Or.inr (sn31 hw))).other W12 (Or.inr (sn32 hw))).other W17 (Or.inr (sn33 hw)))
  have c29 := ((((F_sess2_a1.ext E2).other W7 (Or.inr (sn34 hw))).other W12 (Or.inr (sn35 hw))).other W17 (Or.inr (sn36 hw)))
  have c30 := (((Ex2.wr W7).wr W12).wr W17)
  have ne_a1_b2_31 : a1 ≠ b2 := Nat.ne_of_lt (Nat.lt_of_lt_of_le F_assignment_a1.lt (Nat.le_of_eq gq2.symm))
  have c32 := (((V2.other W7 (Ne.symm ne_a1_b2_31)).other W12 (Ne.symm ne_a1_b2_31)).other W17 (Ne.symm ne_a1_b2_31))
  exact ⟨b2, k2, rfl, N17, K19, sz_b2, c20, c21, c22, c23, Fw17, c24, c25, c26, c27, c28, c29, c30, c32⟩
theorem ef_16n (m : MethodId) (a1 : Addr) (a2 : Addr) : entryFrame m #[(.ref a1), (.ref a2), .null] 3 = mkF m 0 #[.val (.ref a1), .val (.ref a2), .val .null] [] := by first | (simp [entryFrame, mkF, argsToLocals, Value.category]; done) | rfl
def Q16n (Z : State) (a1 : Addr) (a2 : Addr) (u_assignment_a1 : Value) (u_id_a1 : Value) (u_instanceId_a1 : Value) (u_generation_a1 : Value) (u_protocols_a1 : Value) (u_sess2_a1 : Value) (u_reba3_a1 : Value) (u_sess4_a1 : Value) (u_pendingJoin_a1 : Value) (u_pendingSync_a1 : Value) (h0 : Heap) (n0 : Nat) (v : Option Value) (h : Heap) (L : List Loc) : Prop := ∃ (t0 : Addr) (kx_t0 : ClassId), v = none ∧ Fr n0 L ∧ Keep h0 h [a1] ∧ h0.size ≤ t0 ∧ Exa Z h a1 "com/example/limpet/limpet/group/Member" ∧ Fld Z h a1 "com/example/limpet/limpet/group/Member" "assignment" "[B" (.ref t0) ∧ Fld Z h a1 "com/example/limpet/limpet/group/Member" "generation" "I" u_generation_a1 ∧ Fld Z h a1 "com/example/limpet/limpet/group/Member" "id" "Ljava/lang/String;" (.ref a2) ∧ Fld Z h a1 "com/example/limpet/limpet/group/Member" "instanceId" "Ljava/lang/String;" .null ∧ Fld Z h a1 "com/example/limpet/limpet/group/Member" "pendingJoin" "Ljava/util/function/Consumer;" u_pendingJoin_a1 ∧ Fld Z h a1 "com/example/limpet/limpet/group/Member" "pendingSync" "Ljava/util/function/Consumer;" u_pendingSync_a1 ∧ Fld Z h a1 "com/example/limpet/limpet/group/Member" "protocols" "Ljava/util/List;" u_protocols_a1 ∧ Fld Z h a1 "com/example/limpet/limpet/group/Member" "rebalanceTimeoutMs" "I" u_reba3_a1 ∧ Fld Z h a1 "com/example/limpet/limpet/group/Member" "sessionDeadline" "J" u_sess4_a1 ∧ Fld Z h a1 "com/example/limpet/limpet/group/Member" "sessionTimeoutMs" "I" u_sess2_a1 ∧ Exa Z h t0 "[B" ∧ Arv Z h t0 kx_t0 .byte (0 : Int32) [] (.int (0 : Int32))
set_option maxRecDepth 65536 in
set_option maxHeartbeats 40000000 in
theorem rm16n (l : Launch) (Z : State) (a0 : Array Value) (hw : ∀ d ∈ tables_1, d.before a0 Z = true) (ws : List Jvm.Cond) (a1 : Addr) (a2 : Addr) (u_assignment_a1 : Value) (u_id_a1 : Value) (u_instanceId_a1 : Value) (u_generation_a1 : Value) (u_protocols_a1 : Value) (u_sess2_a1 : Value) (u_reba3_a1 : Value) (u_sess4_a1 : Value) (u_pendingJoin_a1 : Value) (u_pendingSync_a1 : Value) (h0 : Heap) (n0 : Nat) (Z0 : n0 ≤ h0.size) (F_assignment_a1 : Fld Z h0 a1 "com/example/limpet/limpet/group/Member" "assignment" "[B" u_assignment_a1) (F_id_a1 : Fld Z h0 a1 "com/example/limpet/limpet/group/Member" "id" "Ljava/lang/String;" u_id_a1) (F_instanceId_a1 : Fld Z h0 a1 "com/example/limpet/limpet/group/Member" "instanceId" "Ljava/lang/String;" u_instanceId_a1) (F_generation_a1 : Fld Z h0 a1 "com/example/limpet/limpet/group/Member" "generation" "I" u_generation_a1) (F_protocols_a1 : Fld Z h0 a1 "com/example/limpet/limpet/group/Member" "protocols" "Ljava/util/List;" u_protocols_a1) (F_sess2_a1 : Fld Z h0 a1 "com/example/limpet/limpet/group/Member" "sessionTimeoutMs" "I" u_sess2_a1) (F_reba3_a1 : Fld Z h0 a1 "com/example/limpet/limpet/group/Member" "rebalanceTimeoutMs" "I" u_reba3_a1) (F_sess4_a1 : Fld Z h0 a1 "com/example/limpet/limpet/group/Member" "sessionDeadline" "J" u_sess4_a1) (F_pendingJoin_a1 : Fld Z h0 a1 "com/example/limpet/limpet/group/Member" "pendingJoin" "Ljava/util/function/Consumer;" u_pendingJoin_a1) (F_pendingSync_a1 : Fld Z h0 a1 "com/example/limpet/limpet/group/Member" "pendingSync" "Ljava/util/function/Consumer;" u_pendingSync_a1) (E_a1 : Exa Z h0 a1 "com/example/limpet/limpet/group/Member") (g_a1 : n0 ≤ a1) :
    MetFree l (⟨"com/example/limpet/limpet/group/Member", "<init>", "(Ljava/lang/String;Ljava/lang/String;)V"⟩ : MethodName) (head1 (Jvm.Cond.code (⟨"com/example/limpet/limpet/group/Member", "<init>", "(Ljava/lang/String;Ljava/lang/String;)V"⟩ : MethodName) prog_8_method_1_code 3 none :: ws) ({ frames := 1, cells := 1, slots := 0, locals := 12 } : Room)) (fun a U => a = #[(.ref a1), (.ref a2), .null] ∧ Z.Warmed39 U.vm ∧ U.heap = h0) (fun _ _ _ _ _ => True) (fun _ U o U' => ∃ v L, o = .returned v ∧ Q16n Z a1 a2 u_assignment_a1 u_id_a1 u_instanceId_a1 u_generation_a1 u_protocols_a1 u_sess2_a1 u_reba3_a1 u_sess4_a1 u_pendingJoin_a1 u_pendingSync_a1 h0 n0 v U'.heap L ∧ FrameEnd U o U' L ({ frames := 1, cells := 1, slots := 0, locals := 12 } : Room).cells ({ frames := 1, cells := 1, slots := 0, locals := 12 } : Room).slots) := by
  refine MetFree.of_bodySF (plainFor_of_name pn_16) hisR ?_
  intro p e s m args below meth c s₁ Bd hml0 hP hK
  obtain ⟨rfl, hZ, hh⟩ := hP
  have hx := Bd.exec
  have hby := Bd.bytes
  have hml : c.maxLocals = 3 := hml0
  have hown : s.vm.findClass "com/example/limpet/limpet/group/Member" = some m.cls := findClass_of_methodNamed Bd.named
  have hnm := (name_of_methodNamed Bd.named Bd.method).1
  have X0 : Stand p l e ({ frames := 1, cells := 1, slots := 0, locals := 12 } : Room) s m #[(.ref a1), (.ref a2), .null] below meth c s₁ [] 0 0 := Stand.of_body Bd
  have e0 : s₁.heap = h0 := by rw [← hh, Bd.state]; rfl
  have N0 := Fr.nil n0
  have K0 : Keep h0 h0 [a1] := Keep.refl h0 _
  refine (show Gl p e below (fun o U' => ∃ v L, o = .returned v ∧ Q16n Z a1 a2 u_assignment_a1 u_id_a1 u_instanceId_a1 u_generation_a1 u_protocols_a1 u_sess2_a1 u_reba3_a1 u_sess4_a1 u_pendingJoin_a1 u_pendingSync_a1 h0 n0 v U'.heap L ∧ FrameEnd s o U' L ({ frames := 1, cells := 1, slots := 0, locals := 12 } : Room).cells ({ frames := 1, cells := 1, slots := 0, locals := 12 } : Room).slots) (s₁.setTop (entryFrame m #[(.ref a1), (.ref a2), .null] 3)) from ?_)
  obtain ⟨L0, hL0⟩ : ∃ z : Array Slot, z = #[.val (.ref a1), .val (.ref a2), .val .null] := ⟨_, rfl⟩
  refine Gl.st (B := (s₁.setTop (mkF m 0 L0 []))) (fun t k => castTop (efAt hL0 (ef_16n m a1 a2)) k) ?_
  refine Gl.st (B := (s₁.setTop (mkF m 1 L0 [(.ref a1)]))) (fun t k => XS.aloadN X0.here hx rfl (hb hby d16_0) (ldAt hL0 rfl) rfl k) ?_
  obtain ⟨T1, X1, e1, st1⟩ := initO X0 hx hZ hown (tw hw 107 rfl) (tw hw 20 rfl) (tw hw 21 rfl) e0 (g := (mkF m 1 L0 [(.ref a1)])) rfl (szAt hml hL0 rfl) rfl (hb hby d16_1) (by decide) (W := 0) (by show 2 * 0 + _ ≤ _; exact Nat.le_of_eq rfl) (by decide)
  refine Gl.st (B := (T1.setTop (mkF m 4 L0 []))) st1 ?_
  refine Gl.st (B := (T1.setTop (mkF m 6 L0 [(.int (0 : Int32)), (.ref a1)]))) (fun t k => XS.aloadN X1.here hx rfl (hb hby d16_4) (ldAt hL0 rfl) rfl (XS.iconst X1.here hx rfl (hb hby d16_5) k)) ?_
  obtain ⟨T2, h2, k2, X2, e2, E2, A2, Ex2, st2⟩ := newPE X1 hx hZ (tw hw 14 rfl) e1 (g := (mkF m 6 L0 [(.int (0 : Int32)), (.ref a1)])) rfl (hb hby d16_6) rfl (by decide) (cap := 0) (by decide) (by decide) (by decide) (by decide) (ad := "[B") rfl
  obtain ⟨b2, gq2⟩ : ∃ z, z = h0.size := ⟨_, rfl⟩
  rw [← gq2] at A2 Ex2 st2
  have V2 : Arv Z h2 b2 k2 .byte (0 : Int32) [] (.int (0 : Int32)) := Arv.new A2 (by decide)
  have g_b2 : n0 ≤ b2 := Nat.le_trans Z0 (Nat.le_of_eq gq2.symm)
  have sz_b2 : h0.size ≤ b2 := Nat.le_trans K0.1 (Nat.le_of_eq gq2.symm)
  have lt_b2 := V2.lt
  have Zc3 : n0 ≤ h2.size := Nat.le_trans Z0 E2.1
  have K4 : Keep h0 h2 [a1] := K0.ext E2
  refine Gl.st (B := (T2.setTop (mkF m 8 L0 [(.ref b2), (.ref a1)]))) st2 ?_
  have c5 := (E_a1.ext E2)
  have c6 := (F_assignment_a1.ext E2)
  obtain ⟨T7, h7, X7, e7, W7, st7⟩ := putF X2 hx hZ hown (host := "") (Or.inl (tw hw 108 rfl)) Via.refl e2 c6 c5 (Or.inl (tw hw 109 rfl)) (tw hw 102 rfl) (ty := (.array .byte)) (by decide) rfl rfl (g := (mkF m 8 L0 [(.ref b2), (.ref a1)])) rfl rfl (hb hby d16_8)
  have Fw7 := c6.same W7
  have Zc8 : n0 ≤ h7.size := Nat.le_trans Zc3 (Nat.le_of_eq W7.size.symm)
  have K9 : Keep h0 h7 [a1] := K4.wr W7 (Or.inl (List.mem_of_getElem? (i := 0) rfl))
  have N7 := Fr.snoc X7 N0 g_a1
  refine Gl.st (B := (T7.setTop (mkF m 11 L0 []))) st7 ?_
  refine Gl.st (B := (T7.setTop (mkF m 13 L0 [(.ref a2), (.ref a1)]))) (fun t k => XS.aloadN X7.here hx rfl (hb hby d16_11) (ldAt hL0 rfl) rfl (XS.aloadN X7.here hx rfl (hb hby d16_12) (ldAt hL0 rfl) rfl k)) ?_
  have c10 := (c5.wr W7)
  have c11 := ((F_id_a1.ext E2).other W7 (Or.inr (sn10 hw)))
  obtain ⟨T12, h12, X12, e12, W12, st12⟩ := putF X7 hx hZ hown (host := "") (Or.inl (tw hw 110 rfl)) Via.refl e7 c11 c10 (Or.inr ⟨(tw hw 111 rfl), rfl, hnm⟩) (tw hw 102 rfl) (ty := (.object "java/lang/String")) (by decide) rfl rfl (g := (mkF m 13 L0 [(.ref a2), (.ref a1)])) rfl rfl (hb hby d16_13)
  have Fw12 := c11.same W12
  have Zc13 : n0 ≤ h12.size := Nat.le_trans Zc8 (Nat.le_of_eq W12.size.symm)
  have K14 : Keep h0 h12 [a1] := K9.wr W12 (Or.inl (List.mem_of_getElem? (i := 0) rfl))
  have N12 := Fr.snoc X12 N7 g_a1
  refine Gl.st (B := (T12.setTop (mkF m 16 L0 []))) st12 ?_
  refine Gl.st (B := (T12.setTop (mkF m 18 L0 [.null, (.ref a1)]))) (fun t k => XS.aloadN X12.here hx rfl (hb hby d16_16) (ldAt hL0 rfl) rfl (XS.aloadN X12.here hx rfl (hb hby d16_17) (ldAt hL0 rfl) rfl k)) ?_
  have c15 := (c10.wr W12)
  have c16 := (((F_instanceId_a1.ext E2).other W7 (Or.inr (sn11 hw))).other W12 (Or.inr (sn12 hw)))
  obtain ⟨T17, h17, X17, e17, W17, st17⟩ := putF X12 hx hZ hown (host := "") (Or.inl (tw hw 112 rfl)) Via.refl e12 c16 c15 (Or.inr ⟨(tw hw 113 rfl), rfl, hnm⟩) (tw hw 102 rfl) (ty := (.object "java/lang/String")) (by decide) rfl rfl (g := (mkF m 18 L0 [.null, (.ref a1)])) rfl rfl (hb hby d16_18)
  have Fw17 := c16.same W17
  have Zc18 : n0 ≤ h17.size := Nat.le_trans Zc13 (Nat.le_of_eq W17.size.symm)
  have K19 : Keep h0 h17 [a1] := K14.wr W17 (Or.inl (List.mem_of_getElem? (i := 0) rfl))
  have N17 := Fr.snoc X17 N12 g_a1
  refine Gl.st (B := (T17.setTop (mkF m 21 L0 []))) st17 ?_
  obtain ⟨fs, hr, hrun, hended, hW, hsame⟩ := X17.leave (v := none) (fun _ => rfl)
  refine Gl.fin (X17.returnOut hx Bd.returns (hb hby d16_21) hr) hrun hended ⟨_, _, rfl, ?_, ⟨_, rfl⟩, hW, hsame.mono (by decide) (by decide)⟩
  show Q16n Z a1 a2 u_assignment_a1 u_id_a1 u_instanceId_a1 u_generation_a1 u_protocols_a1 u_sess2_a1 u_reba3_a1 u_sess4_a1 u_pendingJoin_a1 u_pendingSync_a1 h0 n0 _ T17.heap _
  rw [e17]
  have c20 := (c15.wr W17)
  have c21 := ((Fw7.other W12 (Or.inr (sn13 hw))).other W17 (Or.inr (sn14 hw)))
  have c22 := ((((F_generation_a1.ext E2).other W7 (Or.inr (sn15 hw))).other W12 (Or.inr (sn16 hw))).other W17 (Or.inr (sn17 hw)))
  have c23 := (Fw12.other W17 (Or.inr (sn18 hw)))
  have c24 := ((((F_pendingJoin_a1.ext E2).other W7 (Or.inr (sn19 hw))).other W12 (Or.inr (sn20 hw))).other W17 (Or.inr (sn21 hw)))
  have c25 := ((((F_pendingSync_a1.ext E2).other W7 (Or.inr (sn22 hw))).other W12 (Or.inr (sn23 hw))).other W17 (Or.inr (sn24 hw)))
  have c26 := ((((F_protocols_a1.ext E2).other W7 (Or.inr (sn25 hw))).other W12 (Or.inr (sn26 hw))).other W17 (Or.inr (sn27 hw)))
  have c27 := ((((F_reba3_a1.ext E2).other W7 (Or.inr (sn28 hw))).other W12 (Or.inr (sn29 hw))).other W17 (Or.inr (sn30 hw)))
  have c28 := ((((F_sess4_a1.ext E2).other W7 (Or.inr (sn31 hw))).other W12 (Or.inr (sn32 hw))).other W17 (Or.inr (sn33 hw)))
  have c29 := ((((F_sess2_a1.ext E2).other W7 (Or.inr (sn34 hw))).other W12 (Or.inr (sn35 hw))).other W17 (Or.inr (sn36 hw)))
  have c30 := (((Ex2.wr W7).wr W12).wr W17)
  have ne_a1_b2_31 : a1 ≠ b2 := Nat.ne_of_lt (Nat.lt_of_lt_of_le F_assignment_a1.lt (Nat.le_of_eq gq2.symm))
  have c32 := (((V2.other W7 (Ne.symm ne_a1_b2_31)).other W12 (Ne.symm ne_a1_b2_31)).other W17 (Ne.symm ne_a1_b2_31))
  exact ⟨b2, k2, rfl, N17, K19, sz_b2, c20, c21, c22, c23, Fw17, c24, c25, c26, c27, c28, c29, c30, c32⟩
theorem sn37 {Z : State} {a0 : Array Value} (hw : ∀ d ∈ tables_1, d.before a0 Z = true) : Jvm.RoadKit.slotOf Z "com/example/limpet/limpet/group/Member" "assignment" "[B" ≠ Jvm.RoadKit.slotOf Z "com/example/limpet/limpet/group/Member" "protocols" "Ljava/util/List;" := slot_ne (Or.inl (tw hw 109 rfl)) (Or.inl (tw hw 118 rfl)) (by decide) (t := (.array .byte)) (t' := (.object "java/util/List")) (by decide) (by decide)
theorem sn38 {Z : State} {a0 : Array Value} (hw : ∀ d ∈ tables_1, d.before a0 Z = true) : Jvm.RoadKit.slotOf Z "com/example/limpet/limpet/group/Member" "generation" "I" ≠ Jvm.RoadKit.slotOf Z "com/example/limpet/limpet/group/Member" "protocols" "Ljava/util/List;" := slot_ne (Or.inl (tw hw 115 rfl)) (Or.inl (tw hw 118 rfl)) (by decide) (t := .int) (t' := (.object "java/util/List")) (by decide) (by decide)
theorem sn39 {Z : State} {a0 : Array Value} (hw : ∀ d ∈ tables_1, d.before a0 Z = true) : Jvm.RoadKit.slotOf Z "com/example/limpet/limpet/group/Member" "assignment" "[B" ≠ Jvm.RoadKit.slotOf Z "com/example/limpet/limpet/group/Member" "generation" "I" := slot_ne (Or.inl (tw hw 109 rfl)) (Or.inl (tw hw 115 rfl)) (by decide) (t := (.array .byte)) (t' := .int) (by decide) (by decide)
theorem sn40 {Z : State} {a0 : Array Value} (hw : ∀ d ∈ tables_1, d.before a0 Z = true) : Jvm.RoadKit.slotOf Z "com/example/limpet/limpet/group/Member" "id" "Ljava/lang/String;" ≠ Jvm.RoadKit.slotOf Z "com/example/limpet/limpet/group/Member" "protocols" "Ljava/util/List;" := slot_ne (Or.inr (tw hw 111 rfl)) (Or.inl (tw hw 118 rfl)) (by decide) (t := (.object "java/lang/String")) (t' := (.object "java/util/List")) (by decide) (by decide)
theorem sn41 {Z : State} {a0 : Array Value} (hw : ∀ d ∈ tables_1, d.before a0 Z = true) : Jvm.RoadKit.slotOf Z "com/example/limpet/limpet/group/Member" "id" "Ljava/lang/String;" ≠ Jvm.RoadKit.slotOf Z "com/example/limpet/limpet/group/Member" "generation" "I" := slot_ne (Or.inr (tw hw 111 rfl)) (Or.inl (tw hw 115 rfl)) (by decide) (t := (.object "java/lang/String")) (t' := .int) (by decide) (by decide)
theorem sn42 {Z : State} {a0 : Array Value} (hw : ∀ d ∈ tables_1, d.before a0 Z = true) : Jvm.RoadKit.slotOf Z "com/example/limpet/limpet/group/Member" "instanceId" "Ljava/lang/String;" ≠ Jvm.RoadKit.slotOf Z "com/example/limpet/limpet/group/Member" "protocols" "Ljava/util/List;" := slot_ne (Or.inr (tw hw 113 rfl)) (Or.inl (tw hw 118 rfl)) (by decide) (t := (.object "java/lang/String")) (t' := (.object "java/util/List")) (by decide) (by decide)
theorem sn43 {Z : State} {a0 : Array Value} (hw : ∀ d ∈ tables_1, d.before a0 Z = true) : Jvm.RoadKit.slotOf Z "com/example/limpet/limpet/group/Member" "instanceId" "Ljava/lang/String;" ≠ Jvm.RoadKit.slotOf Z "com/example/limpet/limpet/group/Member" "generation" "I" := slot_ne (Or.inr (tw hw 113 rfl)) (Or.inl (tw hw 115 rfl)) (by decide) (t := (.object "java/lang/String")) (t' := .int) (by decide) (by decide)
theorem sn44 {Z : State} {a0 : Array Value} (hw : ∀ d ∈ tables_1, d.before a0 Z = true) : Jvm.RoadKit.slotOf Z "com/example/limpet/limpet/group/Member" "pendingJoin" "Ljava/util/function/Consumer;" ≠ Jvm.RoadKit.slotOf Z "com/example/limpet/limpet/group/Member" "protocols" "Ljava/util/List;" := slot_ne (Or.inl (tw hw 174 rfl)) (Or.inl (tw hw 118 rfl)) (by decide) (t := (.object "java/util/function/Consumer")) (t' := (.object "java/util/List")) (by decide) (by decide)
theorem sn45 {Z : State} {a0 : Array Value} (hw : ∀ d ∈ tables_1, d.before a0 Z = true) : Jvm.RoadKit.slotOf Z "com/example/limpet/limpet/group/Member" "pendingJoin" "Ljava/util/function/Consumer;" ≠ Jvm.RoadKit.slotOf Z "com/example/limpet/limpet/group/Member" "generation" "I" := slot_ne (Or.inl (tw hw 174 rfl)) (Or.inl (tw hw 115 rfl)) (by decide) (t := (.object "java/util/function/Consumer")) (t' := .int) (by decide) (by decide)
theorem sn46 {Z : State} {a0 : Array Value} (hw : ∀ d ∈ tables_1, d.before a0 Z = true) : Jvm.RoadKit.slotOf Z "com/example/limpet/limpet/group/Member" "pendingSync" "Ljava/util/function/Consumer;" ≠ Jvm.RoadKit.slotOf Z "com/example/limpet/limpet/group/Member" "protocols" "Ljava/util/List;" := slot_ne (Or.inl (tw hw 176 rfl)) (Or.inl (tw hw 118 rfl)) (by decide) (t := (.object "java/util/function/Consumer")) (t' := (.object "java/util/List")) (by decide) (by decide)
theorem sn47 {Z : State} {a0 : Array Value} (hw : ∀ d ∈ tables_1, d.before a0 Z = true) : Jvm.RoadKit.slotOf Z "com/example/limpet/limpet/group/Member" "pendingSync" "Ljava/util/function/Consumer;" ≠ Jvm.RoadKit.slotOf Z "com/example/limpet/limpet/group/Member" "generation" "I" := slot_ne (Or.inl (tw hw 176 rfl)) (Or.inl (tw hw 115 rfl)) (by decide) (t := (.object "java/util/function/Consumer")) (t' := .int) (by decide) (by decide)
theorem sn48 {Z : State} {a0 : Array Value} (hw : ∀ d ∈ tables_1, d.before a0 Z = true) : Jvm.RoadKit.slotOf Z "com/example/limpet/limpet/group/Member" "protocols" "Ljava/util/List;" ≠ Jvm.RoadKit.slotOf Z "com/example/limpet/limpet/group/Member" "generation" "I" := slot_ne (Or.inl (tw hw 118 rfl)) (Or.inl (tw hw 115 rfl)) (by decide) (t := (.object "java/util/List")) (t' := .int) (by decide) (by decide)
theorem sn49 {Z : State} {a0 : Array Value} (hw : ∀ d ∈ tables_1, d.before a0 Z = true) : Jvm.RoadKit.slotOf Z "com/example/limpet/limpet/group/Member" "rebalanceTimeoutMs" "I" ≠ Jvm.RoadKit.slotOf Z "com/example/limpet/limpet/group/Member" "protocols" "Ljava/util/List;" := slot_ne (Or.inl (tw hw 122 rfl)) (Or.inl (tw hw 118 rfl)) (by decide) (t := .int) (t' := (.object "java/util/List")) (by decide) (by decide)
theorem sn50 {Z : State} {a0 : Array Value} (hw : ∀ d ∈ tables_1, d.before a0 Z = true) : Jvm.RoadKit.slotOf Z "com/example/limpet/limpet/group/Member" "rebalanceTimeoutMs" "I" ≠ Jvm.RoadKit.slotOf Z "com/example/limpet/limpet/group/Member" "generation" "I" := slot_ne (Or.inl (tw hw 122 rfl)) (Or.inl (tw hw 115 rfl)) (by decide) (t := .int) (t' := .int) (by decide) (by decide)
theorem sn51 {Z : State} {a0 : Array Value} (hw : ∀ d ∈ tables_1, d.before a0 Z = true) : Jvm.RoadKit.slotOf Z "com/example/limpet/limpet/group/Member" "sessionDeadline" "J" ≠ Jvm.RoadKit.slotOf Z "com/example/limpet/limpet/group/Member" "protocols" "Ljava/util/List;" := slot_ne (Or.inl (tw hw 125 rfl)) (Or.inl (tw hw 118 rfl)) (by decide) (t := .long) (t' := (.object "java/util/List")) (by decide) (by decide)
theorem sn52 {Z : State} {a0 : Array Value} (hw : ∀ d ∈ tables_1, d.before a0 Z = true) : Jvm.RoadKit.slotOf Z "com/example/limpet/limpet/group/Member" "sessionDeadline" "J" ≠ Jvm.RoadKit.slotOf Z "com/example/limpet/limpet/group/Member" "generation" "I" := slot_ne (Or.inl (tw hw 125 rfl)) (Or.inl (tw hw 115 rfl)) (by decide) (t := .long) (t' := .int) (by decide) (by decide)
theorem sn53 {Z : State} {a0 : Array Value} (hw : ∀ d ∈ tables_1, d.before a0 Z = true) : Jvm.RoadKit.slotOf Z "com/example/limpet/limpet/group/Member" "sessionTimeoutMs" "I" ≠ Jvm.RoadKit.slotOf Z "com/example/limpet/limpet/group/Member" "protocols" "Ljava/util/List;" := slot_ne (Or.inl (tw hw 120 rfl)) (Or.inl (tw hw 118 rfl)) (by decide) (t := .int) (t' := (.object "java/util/List")) (by decide) (by decide)
theorem sn54 {Z : State} {a0 : Array Value} (hw : ∀ d ∈ tables_1, d.before a0 Z = true) : Jvm.RoadKit.slotOf Z "com/example/limpet/limpet/group/Member" "sessionTimeoutMs" "I" ≠ Jvm.RoadKit.slotOf Z "com/example/limpet/limpet/group/Member" "generation" "I" := slot_ne (Or.inl (tw hw 120 rfl)) (Or.inl (tw hw 115 rfl)) (by decide) (t := .int) (t' := .int) (by decide) (by decide)
theorem d17_0 : decode prog_8_method_2_code 0 = .ok (.aload_n 0, 1) := by decide +kernel
theorem d17_1 : decode prog_8_method_2_code 1 = .ok (.aload_n 1, 1) := by decide +kernel
theorem d17_2 : decode prog_8_method_2_code 2 = .ok (.getfield 20, 3) := by decide +kernel
theorem d17_5 : decode prog_8_method_2_code 5 = .ok (.putfield 20, 3) := by decide +kernel
theorem d17_8 : decode prog_8_method_2_code 8 = .ok (.aload_n 0, 1) := by decide +kernel
theorem d17_9 : decode prog_8_method_2_code 9 = .ok (.aload_n 1, 1) := by decide +kernel
theorem d17_10 : decode prog_8_method_2_code 10 = .ok (.getfield 7, 3) := by decide +kernel
theorem d17_13 : decode prog_8_method_2_code 13 = .ok (.putfield 7, 3) := by decide +kernel
theorem d17_16 : decode prog_8_method_2_code 16 = .ok (.aload_n 0, 1) := by decide +kernel
theorem d17_17 : decode prog_8_method_2_code 17 = .ok (.aload_n 1, 1) := by decide +kernel
theorem d17_18 : decode prog_8_method_2_code 18 = .ok (.getfield 24, 3) := by decide +kernel
theorem d17_21 : decode prog_8_method_2_code 21 = .ok (.putfield 24, 3) := by decide +kernel
theorem d17_24 : decode prog_8_method_2_code 24 = .ok (.return_, 1) := by decide +kernel
theorem pn_17 : plainName "com/example/limpet/limpet/group/Member" = true := by first | (simp [plainName, overriddenIn]; done) | decide +kernel
theorem ef_17 (m : MethodId) (a1 : Addr) (a2 : Addr) : entryFrame m #[(.ref a1), (.ref a2)] 2 = mkF m 0 #[.val (.ref a1), .val (.ref a2)] [] := by first | (simp [entryFrame, mkF, argsToLocals, Value.category]; done) | rfl
def Q17 (Z : State) (a1 : Addr) (a2 : Addr) (u_assignment_a1 : Value) (u_id_a1 : Value) (u_instanceId_a1 : Value) (u_generation_a1 : Value) (u_protocols_a1 : Value) (u_sess2_a1 : Value) (u_reba3_a1 : Value) (u_sess4_a1 : Value) (u_pendingJoin_a1 : Value) (u_pendingSync_a1 : Value) (w_protocols_a2 : Addr) (w_assignment_a2 : Addr) (w_generation_a2 : Int32) (h0 : Heap) (n0 : Nat) (v : Option Value) (h : Heap) (L : List Loc) : Prop := v = none ∧ Fr n0 L ∧ Keep h0 h [a1] ∧ Exa Z h a1 "com/example/limpet/limpet/group/Member" ∧ Fld Z h a1 "com/example/limpet/limpet/group/Member" "assignment" "[B" (.ref w_assignment_a2) ∧ Fld Z h a1 "com/example/limpet/limpet/group/Member" "generation" "I" (.int w_generation_a2) ∧ Fld Z h a1 "com/example/limpet/limpet/group/Member" "id" "Ljava/lang/String;" u_id_a1 ∧ Fld Z h a1 "com/example/limpet/limpet/group/Member" "instanceId" "Ljava/lang/String;" u_instanceId_a1 ∧ Fld Z h a1 "com/example/limpet/limpet/group/Member" "pendingJoin" "Ljava/util/function/Consumer;" u_pendingJoin_a1 ∧ Fld Z h a1 "com/example/limpet/limpet/group/Member" "pendingSync" "Ljava/util/function/Consumer;" u_pendingSync_a1 ∧ Fld Z h a1 "com/example/limpet/limpet/group/Member" "protocols" "Ljava/util/List;" (.ref w_protocols_a2) ∧ Fld Z h a1 "com/example/limpet/limpet/group/Member" "rebalanceTimeoutMs" "I" u_reba3_a1 ∧ Fld Z h a1 "com/example/limpet/limpet/group/Member" "sessionDeadline" "J" u_sess4_a1 ∧ Fld Z h a1 "com/example/limpet/limpet/group/Member" "sessionTimeoutMs" "I" u_sess2_a1
set_option maxRecDepth 65536 in
set_option maxHeartbeats 40000000 in
theorem rm17 (l : Launch) (Z : State) (a0 : Array Value) (hw : ∀ d ∈ tables_1, d.before a0 Z = true) (ws : List Jvm.Cond) (a1 : Addr) (a2 : Addr) (u_assignment_a1 : Value) (u_id_a1 : Value) (u_instanceId_a1 : Value) (u_generation_a1 : Value) (u_protocols_a1 : Value) (u_sess2_a1 : Value) (u_reba3_a1 : Value) (u_sess4_a1 : Value) (u_pendingJoin_a1 : Value) (u_pendingSync_a1 : Value) (w_protocols_a2 : Addr) (w_assignment_a2 : Addr) (w_generation_a2 : Int32) (h0 : Heap) (n0 : Nat) (Z0 : n0 ≤ h0.size) (F_assignment_a1 : Fld Z h0 a1 "com/example/limpet/limpet/group/Member" "assignment" "[B" u_assignment_a1) (F_id_a1 : Fld Z h0 a1 "com/example/limpet/limpet/group/Member" "id" "Ljava/lang/String;" u_id_a1) (F_instanceId_a1 : Fld Z h0 a1 "com/example/limpet/limpet/group/Member" "instanceId" "Ljava/lang/String;" u_instanceId_a1) (F_generation_a1 : Fld Z h0 a1 "com/example/limpet/limpet/group/Member" "generation" "I" u_generation_a1) (F_protocols_a1 : Fld Z h0 a1 "com/example/limpet/limpet/group/Member" "protocols" "Ljava/util/List;" u_protocols_a1) (F_sess2_a1 : Fld Z h0 a1 "com/example/limpet/limpet/group/Member" "sessionTimeoutMs" "I" u_sess2_a1) (F_reba3_a1 : Fld Z h0 a1 "com/example/limpet/limpet/group/Member" "rebalanceTimeoutMs" "I" u_reba3_a1) (F_sess4_a1 : Fld Z h0 a1 "com/example/limpet/limpet/group/Member" "sessionDeadline" "J" u_sess4_a1) (F_pendingJoin_a1 : Fld Z h0 a1 "com/example/limpet/limpet/group/Member" "pendingJoin" "Ljava/util/function/Consumer;" u_pendingJoin_a1) (F_pendingSync_a1 : Fld Z h0 a1 "com/example/limpet/limpet/group/Member" "pendingSync" "Ljava/util/function/Consumer;" u_pendingSync_a1) (F_protocols_a2 : Fld Z h0 a2 "com/example/limpet/limpet/group/Member" "protocols" "Ljava/util/List;" (.ref w_protocols_a2)) (E_a1 : Exa Z h0 a1 "com/example/limpet/limpet/group/Member") (g_a1 : n0 ≤ a1) (F_assignment_a2 : Fld Z h0 a2 "com/example/limpet/limpet/group/Member" "assignment" "[B" (.ref w_assignment_a2)) (ne_a1_a2 : a1 ≠ a2) (F_generation_a2 : Fld Z h0 a2 "com/example/limpet/limpet/group/Member" "generation" "I" (.int w_generation_a2)) :
    MetFree l (⟨"com/example/limpet/limpet/group/Member", "takeOver", "(Lcom/example/limpet/limpet/group/Member;)V"⟩ : MethodName) (head1 (Jvm.Cond.code (⟨"com/example/limpet/limpet/group/Member", "takeOver", "(Lcom/example/limpet/limpet/group/Member;)V"⟩ : MethodName) prog_8_method_2_code 2 none :: ws) ({ frames := 0, cells := 0, slots := 0, locals := 0 } : Room)) (fun a U => a = #[(.ref a1), (.ref a2)] ∧ Z.Warmed39 U.vm ∧ U.heap = h0) (fun _ _ _ _ _ => True) (fun _ U o U' => ∃ v L, o = .returned v ∧ Q17 Z a1 a2 u_assignment_a1 u_id_a1 u_instanceId_a1 u_generation_a1 u_protocols_a1 u_sess2_a1 u_reba3_a1 u_sess4_a1 u_pendingJoin_a1 u_pendingSync_a1 w_protocols_a2 w_assignment_a2 w_generation_a2 h0 n0 v U'.heap L ∧ FrameEnd U o U' L ({ frames := 0, cells := 0, slots := 0, locals := 0 } : Room).cells ({ frames := 0, cells := 0, slots := 0, locals := 0 } : Room).slots) := by
  refine MetFree.of_bodySF (plainFor_of_name pn_17) hisR ?_
  intro p e s m args below meth c s₁ Bd hml0 hP hK
  obtain ⟨rfl, hZ, hh⟩ := hP
  have hx := Bd.exec
  have hby := Bd.bytes
  have hml : c.maxLocals = 2 := hml0
  have hown : s.vm.findClass "com/example/limpet/limpet/group/Member" = some m.cls := findClass_of_methodNamed Bd.named
  have hnm := (name_of_methodNamed Bd.named Bd.method).1
  have X0 : Stand p l e ({ frames := 0, cells := 0, slots := 0, locals := 0 } : Room) s m #[(.ref a1), (.ref a2)] below meth c s₁ [] 0 0 := Stand.of_body Bd
  have e0 : s₁.heap = h0 := by rw [← hh, Bd.state]; rfl
  have N0 := Fr.nil n0
  have K0 : Keep h0 h0 [a1] := Keep.refl h0 _
  refine (show Gl p e below (fun o U' => ∃ v L, o = .returned v ∧ Q17 Z a1 a2 u_assignment_a1 u_id_a1 u_instanceId_a1 u_generation_a1 u_protocols_a1 u_sess2_a1 u_reba3_a1 u_sess4_a1 u_pendingJoin_a1 u_pendingSync_a1 w_protocols_a2 w_assignment_a2 w_generation_a2 h0 n0 v U'.heap L ∧ FrameEnd s o U' L ({ frames := 0, cells := 0, slots := 0, locals := 0 } : Room).cells ({ frames := 0, cells := 0, slots := 0, locals := 0 } : Room).slots) (s₁.setTop (entryFrame m #[(.ref a1), (.ref a2)] 2)) from ?_)
  obtain ⟨L0, hL0⟩ : ∃ z : Array Slot, z = #[.val (.ref a1), .val (.ref a2)] := ⟨_, rfl⟩
  refine Gl.st (B := (s₁.setTop (mkF m 0 L0 []))) (fun t k => castTop (efAt hL0 (ef_17 m a1 a2)) k) ?_
  refine Gl.st (B := (s₁.setTop (mkF m 2 L0 [(.ref a2), (.ref a1)]))) (fun t k => XS.aloadN X0.here hx rfl (hb hby d17_0) (ldAt hL0 rfl) rfl (XS.aloadN X0.here hx rfl (hb hby d17_1) (ldAt hL0 rfl) rfl k)) ?_
  obtain ⟨T1, X1, e1, st1⟩ := getF X0 hx hZ hown (host := "") (Or.inl (tw hw 131 rfl)) Via.refl e0 F_protocols_a2 (g := (mkF m 2 L0 [(.ref a2), (.ref a1)])) rfl rfl (hb hby d17_2)
  refine Gl.st (B := (T1.setTop (mkF m 5 L0 [(.ref w_protocols_a2), (.ref a1)]))) st1 ?_
  obtain ⟨T2, h2, X2, e2, W2, st2⟩ := putF X1 hx hZ hown (host := "") (Or.inl (tw hw 131 rfl)) Via.refl e1 F_protocols_a1 E_a1 (Or.inl (tw hw 118 rfl)) (tw hw 102 rfl) (ty := (.object "java/util/List")) (by decide) rfl rfl (g := (mkF m 5 L0 [(.ref w_protocols_a2), (.ref a1)])) rfl rfl (hb hby d17_5)
  have Fw2 := F_protocols_a1.same W2
  have Zc3 : n0 ≤ h2.size := Nat.le_trans Z0 (Nat.le_of_eq W2.size.symm)
  have K4 : Keep h0 h2 [a1] := K0.wr W2 (Or.inl (List.mem_of_getElem? (i := 0) rfl))
  have N2 := Fr.snoc X2 N0 g_a1
  refine Gl.st (B := (T2.setTop (mkF m 8 L0 []))) st2 ?_
  refine Gl.st (B := (T2.setTop (mkF m 10 L0 [(.ref a2), (.ref a1)]))) (fun t k => XS.aloadN X2.here hx rfl (hb hby d17_8) (ldAt hL0 rfl) rfl (XS.aloadN X2.here hx rfl (hb hby d17_9) (ldAt hL0 rfl) rfl k)) ?_
  have c5 := (F_assignment_a2.other W2 (Or.inl (Ne.symm ne_a1_a2)))
  obtain ⟨T6, X6, e6, st6⟩ := getF X2 hx hZ hown (host := "") (Or.inl (tw hw 108 rfl)) Via.refl e2 c5 (g := (mkF m 10 L0 [(.ref a2), (.ref a1)])) rfl rfl (hb hby d17_10)
  refine Gl.st (B := (T6.setTop (mkF m 13 L0 [(.ref w_assignment_a2), (.ref a1)]))) st6 ?_
  have c7 := (E_a1.wr W2)
  have c8 := (F_assignment_a1.other W2 (Or.inr (sn37 hw)))
  obtain ⟨T9, h9, X9, e9, W9, st9⟩ := putF X6 hx hZ hown (host := "") (Or.inl (tw hw 108 rfl)) Via.refl e6 c8 c7 (Or.inl (tw hw 109 rfl)) (tw hw 102 rfl) (ty := (.array .byte)) (by decide) rfl rfl (g := (mkF m 13 L0 [(.ref w_assignment_a2), (.ref a1)])) rfl rfl (hb hby d17_13)
  have Fw9 := c8.same W9
  have Zc10 : n0 ≤ h9.size := Nat.le_trans Zc3 (Nat.le_of_eq W9.size.symm)
  have K11 : Keep h0 h9 [a1] := K4.wr W9 (Or.inl (List.mem_of_getElem? (i := 0) rfl))
  have N9 := Fr.snoc X9 N2 g_a1
  refine Gl.st (B := (T9.setTop (mkF m 16 L0 []))) st9 ?_
  refine Gl.st (B := (T9.setTop (mkF m 18 L0 [(.ref a2), (.ref a1)]))) (fun t k => XS.aloadN X9.here hx rfl (hb hby d17_16) (ldAt hL0 rfl) rfl (XS.aloadN X9.here hx rfl (hb hby d17_17) (ldAt hL0 rfl) rfl k)) ?_
  have c12 := ((F_generation_a2.other W2 (Or.inl (Ne.symm ne_a1_a2))).other W9 (Or.inl (Ne.symm ne_a1_a2)))
  obtain ⟨T13, X13, e13, st13⟩ := getF X9 hx hZ hown (host := "") (Or.inl (tw hw 132 rfl)) Via.refl e9 c12 (g := (mkF m 18 L0 [(.ref a2), (.ref a1)])) rfl rfl (hb hby d17_18)
  refine Gl.st (B := (T13.setTop (mkF m 21 L0 [(.int w_generation_a2), (.ref a1)]))) st13 ?_
  have c14 := (c7.wr W9)
  have c15 := ((F_generation_a1.other W2 (Or.inr (sn38 hw))).other W9 (Or.inr (sn15 hw)))
  obtain ⟨T16, h16, X16, e16, W16, st16⟩ := putF X13 hx hZ hown (host := "") (Or.inl (tw hw 132 rfl)) Via.refl e13 c15 c14 (Or.inl (tw hw 115 rfl)) (tw hw 102 rfl) (ty := .int) (by decide) rfl rfl (g := (mkF m 21 L0 [(.int w_generation_a2), (.ref a1)])) rfl rfl (hb hby d17_21)
  have Fw16 := c15.same W16
  have Zc17 : n0 ≤ h16.size := Nat.le_trans Zc10 (Nat.le_of_eq W16.size.symm)
  have K18 : Keep h0 h16 [a1] := K11.wr W16 (Or.inl (List.mem_of_getElem? (i := 0) rfl))
  have N16 := Fr.snoc X16 N9 g_a1
  refine Gl.st (B := (T16.setTop (mkF m 24 L0 []))) st16 ?_
  obtain ⟨fs, hr, hrun, hended, hW, hsame⟩ := X16.leave (v := none) (fun _ => rfl)
  refine Gl.fin (X16.returnOut hx Bd.returns (hb hby d17_24) hr) hrun hended ⟨_, _, rfl, ?_, ⟨_, rfl⟩, hW, hsame.mono (by decide) (by decide)⟩
  show Q17 Z a1 a2 u_assignment_a1 u_id_a1 u_instanceId_a1 u_generation_a1 u_protocols_a1 u_sess2_a1 u_reba3_a1 u_sess4_a1 u_pendingJoin_a1 u_pendingSync_a1 w_protocols_a2 w_assignment_a2 w_generation_a2 h0 n0 _ T16.heap _
  rw [e16]
  have c19 := (c14.wr W16)
  have c20 := (Fw9.other W16 (Or.inr (sn39 hw)))
  have c21 := (((F_id_a1.other W2 (Or.inr (sn40 hw))).other W9 (Or.inr (sn10 hw))).other W16 (Or.inr (sn41 hw)))
  have c22 := (((F_instanceId_a1.other W2 (Or.inr (sn42 hw))).other W9 (Or.inr (sn11 hw))).other W16 (Or.inr (sn43 hw)))
  have c23 := (((F_pendingJoin_a1.other W2 (Or.inr (sn44 hw))).other W9 (Or.inr (sn19 hw))).other W16 (Or.inr (sn45 hw)))
  have c24 := (((F_pendingSync_a1.other W2 (Or.inr (sn46 hw))).other W9 (Or.inr (sn22 hw))).other W16 (Or.inr (sn47 hw)))
  have c25 := ((Fw2.other W9 (Or.inr (sn25 hw))).other W16 (Or.inr (sn48 hw)))
  have c26 := (((F_reba3_a1.other W2 (Or.inr (sn49 hw))).other W9 (Or.inr (sn28 hw))).other W16 (Or.inr (sn50 hw)))
  have c27 := (((F_sess4_a1.other W2 (Or.inr (sn51 hw))).other W9 (Or.inr (sn31 hw))).other W16 (Or.inr (sn52 hw)))
  have c28 := (((F_sess2_a1.other W2 (Or.inr (sn53 hw))).other W9 (Or.inr (sn34 hw))).other W16 (Or.inr (sn54 hw)))
  exact ⟨rfl, N16, K18, c19, c20, Fw16, c21, c22, c23, c24, c25, c26, c27, c28⟩
theorem ef_17n (m : MethodId) (a1 : Addr) (a2 : Addr) : entryFrame m #[(.ref a1), (.ref a2)] 2 = mkF m 0 #[.val (.ref a1), .val (.ref a2)] [] := by first | (simp [entryFrame, mkF, argsToLocals, Value.category]; done) | rfl
def Q17n (Z : State) (a1 : Addr) (a2 : Addr) (u_assignment_a1 : Value) (u_id_a1 : Value) (u_instanceId_a1 : Value) (u_generation_a1 : Value) (u_protocols_a1 : Value) (u_sess2_a1 : Value) (u_reba3_a1 : Value) (u_sess4_a1 : Value) (u_pendingJoin_a1 : Value) (u_pendingSync_a1 : Value) (w_assignment_a2 : Addr) (w_generation_a2 : Int32) (h0 : Heap) (n0 : Nat) (v : Option Value) (h : Heap) (L : List Loc) : Prop := v = none ∧ Fr n0 L ∧ Keep h0 h [a1] ∧ Exa Z h a1 "com/example/limpet/limpet/group/Member" ∧ Fld Z h a1 "com/example/limpet/limpet/group/Member" "assignment" "[B" (.ref w_assignment_a2) ∧ Fld Z h a1 "com/example/limpet/limpet/group/Member" "generation" "I" (.int w_generation_a2) ∧ Fld Z h a1 "com/example/limpet/limpet/group/Member" "id" "Ljava/lang/String;" u_id_a1 ∧ Fld Z h a1 "com/example/limpet/limpet/group/Member" "instanceId" "Ljava/lang/String;" u_instanceId_a1 ∧ Fld Z h a1 "com/example/limpet/limpet/group/Member" "pendingJoin" "Ljava/util/function/Consumer;" u_pendingJoin_a1 ∧ Fld Z h a1 "com/example/limpet/limpet/group/Member" "pendingSync" "Ljava/util/function/Consumer;" u_pendingSync_a1 ∧ Fld Z h a1 "com/example/limpet/limpet/group/Member" "protocols" "Ljava/util/List;" .null ∧ Fld Z h a1 "com/example/limpet/limpet/group/Member" "rebalanceTimeoutMs" "I" u_reba3_a1 ∧ Fld Z h a1 "com/example/limpet/limpet/group/Member" "sessionDeadline" "J" u_sess4_a1 ∧ Fld Z h a1 "com/example/limpet/limpet/group/Member" "sessionTimeoutMs" "I" u_sess2_a1
set_option maxRecDepth 65536 in
set_option maxHeartbeats 40000000 in
theorem rm17n (l : Launch) (Z : State) (a0 : Array Value) (hw : ∀ d ∈ tables_1, d.before a0 Z = true) (ws : List Jvm.Cond) (a1 : Addr) (a2 : Addr) (u_assignment_a1 : Value) (u_id_a1 : Value) (u_instanceId_a1 : Value) (u_generation_a1 : Value) (u_protocols_a1 : Value) (u_sess2_a1 : Value) (u_reba3_a1 : Value) (u_sess4_a1 : Value) (u_pendingJoin_a1 : Value) (u_pendingSync_a1 : Value) (w_assignment_a2 : Addr) (w_generation_a2 : Int32) (h0 : Heap) (n0 : Nat) (Z0 : n0 ≤ h0.size) (F_assignment_a1 : Fld Z h0 a1 "com/example/limpet/limpet/group/Member" "assignment" "[B" u_assignment_a1) (F_id_a1 : Fld Z h0 a1 "com/example/limpet/limpet/group/Member" "id" "Ljava/lang/String;" u_id_a1) (F_instanceId_a1 : Fld Z h0 a1 "com/example/limpet/limpet/group/Member" "instanceId" "Ljava/lang/String;" u_instanceId_a1) (F_generation_a1 : Fld Z h0 a1 "com/example/limpet/limpet/group/Member" "generation" "I" u_generation_a1) (F_protocols_a1 : Fld Z h0 a1 "com/example/limpet/limpet/group/Member" "protocols" "Ljava/util/List;" u_protocols_a1) (F_sess2_a1 : Fld Z h0 a1 "com/example/limpet/limpet/group/Member" "sessionTimeoutMs" "I" u_sess2_a1) (F_reba3_a1 : Fld Z h0 a1 "com/example/limpet/limpet/group/Member" "rebalanceTimeoutMs" "I" u_reba3_a1) (F_sess4_a1 : Fld Z h0 a1 "com/example/limpet/limpet/group/Member" "sessionDeadline" "J" u_sess4_a1) (F_pendingJoin_a1 : Fld Z h0 a1 "com/example/limpet/limpet/group/Member" "pendingJoin" "Ljava/util/function/Consumer;" u_pendingJoin_a1) (F_pendingSync_a1 : Fld Z h0 a1 "com/example/limpet/limpet/group/Member" "pendingSync" "Ljava/util/function/Consumer;" u_pendingSync_a1) (F_protocols_a2 : Fld Z h0 a2 "com/example/limpet/limpet/group/Member" "protocols" "Ljava/util/List;" .null) (E_a1 : Exa Z h0 a1 "com/example/limpet/limpet/group/Member") (g_a1 : n0 ≤ a1) (F_assignment_a2 : Fld Z h0 a2 "com/example/limpet/limpet/group/Member" "assignment" "[B" (.ref w_assignment_a2)) (ne_a1_a2 : a1 ≠ a2) (F_generation_a2 : Fld Z h0 a2 "com/example/limpet/limpet/group/Member" "generation" "I" (.int w_generation_a2)) :
    MetFree l (⟨"com/example/limpet/limpet/group/Member", "takeOver", "(Lcom/example/limpet/limpet/group/Member;)V"⟩ : MethodName) (head1 (Jvm.Cond.code (⟨"com/example/limpet/limpet/group/Member", "takeOver", "(Lcom/example/limpet/limpet/group/Member;)V"⟩ : MethodName) prog_8_method_2_code 2 none :: ws) ({ frames := 0, cells := 0, slots := 0, locals := 0 } : Room)) (fun a U => a = #[(.ref a1), (.ref a2)] ∧ Z.Warmed39 U.vm ∧ U.heap = h0) (fun _ _ _ _ _ => True) (fun _ U o U' => ∃ v L, o = .returned v ∧ Q17n Z a1 a2 u_assignment_a1 u_id_a1 u_instanceId_a1 u_generation_a1 u_protocols_a1 u_sess2_a1 u_reba3_a1 u_sess4_a1 u_pendingJoin_a1 u_pendingSync_a1 w_assignment_a2 w_generation_a2 h0 n0 v U'.heap L ∧ FrameEnd U o U' L ({ frames := 0, cells := 0, slots := 0, locals := 0 } : Room).cells ({ frames := 0, cells := 0, slots := 0, locals := 0 } : Room).slots) := by
  refine MetFree.of_bodySF (plainFor_of_name pn_17) hisR ?_
  intro p e s m args below meth c s₁ Bd hml0 hP hK
  obtain ⟨rfl, hZ, hh⟩ := hP
  have hx := Bd.exec
  have hby := Bd.bytes
  have hml : c.maxLocals = 2 := hml0
  have hown : s.vm.findClass "com/example/limpet/limpet/group/Member" = some m.cls := findClass_of_methodNamed Bd.named
  have hnm := (name_of_methodNamed Bd.named Bd.method).1
  have X0 : Stand p l e ({ frames := 0, cells := 0, slots := 0, locals := 0 } : Room) s m #[(.ref a1), (.ref a2)] below meth c s₁ [] 0 0 := Stand.of_body Bd
  have e0 : s₁.heap = h0 := by rw [← hh, Bd.state]; rfl
  have N0 := Fr.nil n0
  have K0 : Keep h0 h0 [a1] := Keep.refl h0 _
  refine (show Gl p e below (fun o U' => ∃ v L, o = .returned v ∧ Q17n Z a1 a2 u_assignment_a1 u_id_a1 u_instanceId_a1 u_generation_a1 u_protocols_a1 u_sess2_a1 u_reba3_a1 u_sess4_a1 u_pendingJoin_a1 u_pendingSync_a1 w_assignment_a2 w_generation_a2 h0 n0 v U'.heap L ∧ FrameEnd s o U' L ({ frames := 0, cells := 0, slots := 0, locals := 0 } : Room).cells ({ frames := 0, cells := 0, slots := 0, locals := 0 } : Room).slots) (s₁.setTop (entryFrame m #[(.ref a1), (.ref a2)] 2)) from ?_)
  obtain ⟨L0, hL0⟩ : ∃ z : Array Slot, z = #[.val (.ref a1), .val (.ref a2)] := ⟨_, rfl⟩
  refine Gl.st (B := (s₁.setTop (mkF m 0 L0 []))) (fun t k => castTop (efAt hL0 (ef_17n m a1 a2)) k) ?_
  refine Gl.st (B := (s₁.setTop (mkF m 2 L0 [(.ref a2), (.ref a1)]))) (fun t k => XS.aloadN X0.here hx rfl (hb hby d17_0) (ldAt hL0 rfl) rfl (XS.aloadN X0.here hx rfl (hb hby d17_1) (ldAt hL0 rfl) rfl k)) ?_
  obtain ⟨T1, X1, e1, st1⟩ := getF X0 hx hZ hown (host := "") (Or.inl (tw hw 131 rfl)) Via.refl e0 F_protocols_a2 (g := (mkF m 2 L0 [(.ref a2), (.ref a1)])) rfl rfl (hb hby d17_2)
  refine Gl.st (B := (T1.setTop (mkF m 5 L0 [.null, (.ref a1)]))) st1 ?_
  obtain ⟨T2, h2, X2, e2, W2, st2⟩ := putF X1 hx hZ hown (host := "") (Or.inl (tw hw 131 rfl)) Via.refl e1 F_protocols_a1 E_a1 (Or.inl (tw hw 118 rfl)) (tw hw 102 rfl) (ty := (.object "java/util/List")) (by decide) rfl rfl (g := (mkF m 5 L0 [.null, (.ref a1)])) rfl rfl (hb hby d17_5)
  have Fw2 := F_protocols_a1.same W2
  have Zc3 : n0 ≤ h2.size := Nat.le_trans Z0 (Nat.le_of_eq W2.size.symm)
  have K4 : Keep h0 h2 [a1] := K0.wr W2 (Or.inl (List.mem_of_getElem? (i := 0) rfl))
  have N2 := Fr.snoc X2 N0 g_a1
  refine Gl.st (B := (T2.setTop (mkF m 8 L0 []))) st2 ?_
  refine Gl.st (B := (T2.setTop (mkF m 10 L0 [(.ref a2), (.ref a1)]))) (fun t k => XS.aloadN X2.here hx rfl (hb hby d17_8) (ldAt hL0 rfl) rfl (XS.aloadN X2.here hx rfl (hb hby d17_9) (ldAt hL0 rfl) rfl k)) ?_
  have c5 := (F_assignment_a2.other W2 (Or.inl (Ne.symm ne_a1_a2)))
  obtain ⟨T6, X6, e6, st6⟩ := getF X2 hx hZ hown (host := "") (Or.inl (tw hw 108 rfl)) Via.refl e2 c5 (g := (mkF m 10 L0 [(.ref a2), (.ref a1)])) rfl rfl (hb hby d17_10)
  refine Gl.st (B := (T6.setTop (mkF m 13 L0 [(.ref w_assignment_a2), (.ref a1)]))) st6 ?_
  have c7 := (E_a1.wr W2)
  have c8 := (F_assignment_a1.other W2 (Or.inr (sn37 hw)))
  obtain ⟨T9, h9, X9, e9, W9, st9⟩ := putF X6 hx hZ hown (host := "") (Or.inl (tw hw 108 rfl)) Via.refl e6 c8 c7 (Or.inl (tw hw 109 rfl)) (tw hw 102 rfl) (ty := (.array .byte)) (by decide) rfl rfl (g := (mkF m 13 L0 [(.ref w_assignment_a2), (.ref a1)])) rfl rfl (hb hby d17_13)
  have Fw9 := c8.same W9
  have Zc10 : n0 ≤ h9.size := Nat.le_trans Zc3 (Nat.le_of_eq W9.size.symm)
  have K11 : Keep h0 h9 [a1] := K4.wr W9 (Or.inl (List.mem_of_getElem? (i := 0) rfl))
  have N9 := Fr.snoc X9 N2 g_a1
  refine Gl.st (B := (T9.setTop (mkF m 16 L0 []))) st9 ?_
  refine Gl.st (B := (T9.setTop (mkF m 18 L0 [(.ref a2), (.ref a1)]))) (fun t k => XS.aloadN X9.here hx rfl (hb hby d17_16) (ldAt hL0 rfl) rfl (XS.aloadN X9.here hx rfl (hb hby d17_17) (ldAt hL0 rfl) rfl k)) ?_
  have c12 := ((F_generation_a2.other W2 (Or.inl (Ne.symm ne_a1_a2))).other W9 (Or.inl (Ne.symm ne_a1_a2)))
  obtain ⟨T13, X13, e13, st13⟩ := getF X9 hx hZ hown (host := "") (Or.inl (tw hw 132 rfl)) Via.refl e9 c12 (g := (mkF m 18 L0 [(.ref a2), (.ref a1)])) rfl rfl (hb hby d17_18)
  refine Gl.st (B := (T13.setTop (mkF m 21 L0 [(.int w_generation_a2), (.ref a1)]))) st13 ?_
  have c14 := (c7.wr W9)
  have c15 := ((F_generation_a1.other W2 (Or.inr (sn38 hw))).other W9 (Or.inr (sn15 hw)))
  obtain ⟨T16, h16, X16, e16, W16, st16⟩ := putF X13 hx hZ hown (host := "") (Or.inl (tw hw 132 rfl)) Via.refl e13 c15 c14 (Or.inl (tw hw 115 rfl)) (tw hw 102 rfl) (ty := .int) (by decide) rfl rfl (g := (mkF m 21 L0 [(.int w_generation_a2), (.ref a1)])) rfl rfl (hb hby d17_21)
  have Fw16 := c15.same W16
  have Zc17 : n0 ≤ h16.size := Nat.le_trans Zc10 (Nat.le_of_eq W16.size.symm)
  have K18 : Keep h0 h16 [a1] := K11.wr W16 (Or.inl (List.mem_of_getElem? (i := 0) rfl))
  have N16 := Fr.snoc X16 N9 g_a1
  refine Gl.st (B := (T16.setTop (mkF m 24 L0 []))) st16 ?_
  obtain ⟨fs, hr, hrun, hended, hW, hsame⟩ := X16.leave (v := none) (fun _ => rfl)
  refine Gl.fin (X16.returnOut hx Bd.returns (hb hby d17_24) hr) hrun hended ⟨_, _, rfl, ?_, ⟨_, rfl⟩, hW, hsame.mono (by decide) (by decide)⟩
  show Q17n Z a1 a2 u_assignment_a1 u_id_a1 u_instanceId_a1 u_generation_a1 u_protocols_a1 u_sess2_a1 u_reba3_a1 u_sess4_a1 u_pendingJoin_a1 u_pendingSync_a1 w_assignment_a2 w_generation_a2 h0 n0 _ T16.heap _
  rw [e16]
  have c19 := (c14.wr W16)
  have c20 := (Fw9.other W16 (Or.inr (sn39 hw)))
  have c21 := (((F_id_a1.other W2 (Or.inr (sn40 hw))).other W9 (Or.inr (sn10 hw))).other W16 (Or.inr (sn41 hw)))
  have c22 := (((F_instanceId_a1.other W2 (Or.inr (sn42 hw))).other W9 (Or.inr (sn11 hw))).other W16 (Or.inr (sn43 hw)))
  have c23 := (((F_pendingJoin_a1.other W2 (Or.inr (sn44 hw))).other W9 (Or.inr (sn19 hw))).other W16 (Or.inr (sn45 hw)))
  have c24 := (((F_pendingSync_a1.other W2 (Or.inr (sn46 hw))).other W9 (Or.inr (sn22 hw))).other W16 (Or.inr (sn47 hw)))
  have c25 := ((Fw2.other W9 (Or.inr (sn25 hw))).other W16 (Or.inr (sn48 hw)))
  have c26 := (((F_reba3_a1.other W2 (Or.inr (sn49 hw))).other W9 (Or.inr (sn28 hw))).other W16 (Or.inr (sn50 hw)))
  have c27 := (((F_sess4_a1.other W2 (Or.inr (sn51 hw))).other W9 (Or.inr (sn31 hw))).other W16 (Or.inr (sn52 hw)))
  have c28 := (((F_sess2_a1.other W2 (Or.inr (sn53 hw))).other W9 (Or.inr (sn34 hw))).other W16 (Or.inr (sn54 hw)))
  exact ⟨rfl, N16, K18, c19, c20, Fw16, c21, c22, c23, c24, c25, c26, c27, c28⟩
theorem d18_0 : decode method_2_code 0 = .ok (.aload_n 0, 1) := by decide +kernel
theorem d18_1 : decode method_2_code 1 = .ok (.ifnonnull 5, 3) := by decide +kernel
theorem d18_6 : decode method_2_code 6 = .ok (.iload_n 1, 1) := by decide +kernel
theorem d18_7 : decode method_2_code 7 = .ok (.ifCond .eq 14, 3) := by decide +kernel
theorem d18_10 : decode method_2_code 10 = .ok (.aload_n 0, 1) := by decide +kernel
theorem d18_11 : decode method_2_code 11 = .ok (.arraylength, 1) := by decide +kernel
theorem d18_12 : decode method_2_code 12 = .ok (.ifCond .ne 7, 3) := by decide +kernel
theorem d18_15 : decode method_2_code 15 = .ok (.iconst 1, 1) := by decide +kernel
theorem d18_16 : decode method_2_code 16 = .ok (.goto 4, 3) := by decide +kernel
theorem d18_20 : decode method_2_code 20 = .ok (.ireturn, 1) := by decide +kernel
theorem pn_18 : plainName "com/example/limpet/limpet/group/MemberTakeOverPinLaw" = true := by first | (simp [plainName, overriddenIn]; done) | decide +kernel
theorem ef_18e (m : MethodId) (a1 : Addr) (p3 : Int32) (p4 : Int32) : entryFrame m #[(.ref a1), (.int (1 : Int32)), (.int p3), (.int p4)] 4 = mkF m 0 #[.val (.ref a1), .val (.int (1 : Int32)), .val (.int p3), .val (.int p4)] [] := by first | (simp [entryFrame, mkF, argsToLocals, Value.category]; done) | rfl
def Q18e (Z : State) (a1 : Addr) (p3 : Int32) (p4 : Int32) (kx_a1 : ClassId) (h0 : Heap) (n0 : Nat) (v : Option Value) (h : Heap) (L : List Loc) : Prop := v = some (.int (1 : Int32)) ∧ Fr n0 L ∧ h = h0
set_option maxRecDepth 65536 in
set_option maxHeartbeats 40000000 in
theorem rm18e (l : Launch) (Z : State) (a0 : Array Value) (hw : ∀ d ∈ tables_1, d.before a0 Z = true) (ws : List Jvm.Cond) (a1 : Addr) (p3 : Int32) (p4 : Int32) (kx_a1 : ClassId) (h0 : Heap) (n0 : Nat) (Z0 : n0 ≤ h0.size) (V_a1 : Arv Z h0 a1 kx_a1 .byte (0 : Int32) [] (.int (0 : Int32))) :
    MetFree l (⟨"com/example/limpet/limpet/group/MemberTakeOverPinLaw", "sameAssignment", "([BZBB)Z"⟩ : MethodName) (head1 (Jvm.Cond.code (⟨"com/example/limpet/limpet/group/MemberTakeOverPinLaw", "sameAssignment", "([BZBB)Z"⟩ : MethodName) method_2_code 4 (some .boolean) :: ws) ({ frames := 0, cells := 0, slots := 0, locals := 0 } : Room)) (fun a U => a = #[(.ref a1), (.int (1 : Int32)), (.int p3), (.int p4)] ∧ Z.Warmed39 U.vm ∧ U.heap = h0) (fun _ _ _ _ _ => True) (fun _ U o U' => ∃ v L, o = .returned v ∧ Q18e Z a1 p3 p4 kx_a1 h0 n0 v U'.heap L ∧ FrameEnd U o U' L ({ frames := 0, cells := 0, slots := 0, locals := 0 } : Room).cells ({ frames := 0, cells := 0, slots := 0, locals := 0 } : Room).slots) := by
  refine MetFree.of_bodySF (plainFor_of_name pn_18) hisR ?_
  intro p e s m args below meth c s₁ Bd hml0 hP hK
  obtain ⟨rfl, hZ, hh⟩ := hP
  have hx := Bd.exec
  have hby := Bd.bytes
  have hml : c.maxLocals = 4 := hml0
  have hown : s.vm.findClass "com/example/limpet/limpet/group/MemberTakeOverPinLaw" = some m.cls := findClass_of_methodNamed Bd.named
  have hnm := (name_of_methodNamed Bd.named Bd.method).1
  have X0 : Stand p l e ({ frames := 0, cells := 0, slots := 0, locals := 0 } : Room) s m #[(.ref a1), (.int (1 : Int32)), (.int p3), (.int p4)] below meth c s₁ [] 0 0 := Stand.of_body Bd
  have e0 : s₁.heap = h0 := by rw [← hh, Bd.state]; rfl
  have N0 := Fr.nil n0
  have K0 : Keep h0 h0 [] := Keep.refl h0 _
  refine (show Gl p e below (fun o U' => ∃ v L, o = .returned v ∧ Q18e Z a1 p3 p4 kx_a1 h0 n0 v U'.heap L ∧ FrameEnd s o U' L ({ frames := 0, cells := 0, slots := 0, locals := 0 } : Room).cells ({ frames := 0, cells := 0, slots := 0, locals := 0 } : Room).slots) (s₁.setTop (entryFrame m #[(.ref a1), (.int (1 : Int32)), (.int p3), (.int p4)] 4)) from ?_)
  obtain ⟨L0, hL0⟩ : ∃ z : Array Slot, z = #[.val (.ref a1), .val (.int (1 : Int32)), .val (.int p3), .val (.int p4)] := ⟨_, rfl⟩
  refine Gl.st (B := (s₁.setTop (mkF m 0 L0 []))) (fun t k => castTop (efAt hL0 (ef_18e m a1 p3 p4)) k) ?_
  refine Gl.st (B := (s₁.setTop (mkF m 11 L0 [(.ref a1)]))) (fun t k => XS.aloadN X0.here hx rfl (hb hby d18_0) (ldAt hL0 rfl) rfl (XS.ifnonnullYes X0.here hx rfl (pc0 := 1) (pc' := 6) rfl (hb hby d18_1) rfl (by decide) (by decide) (XS.iloadN X0.here hx rfl (hb hby d18_6) (ldAt hL0 rfl) (XS.ifNo X0.here hx rfl (hb hby d18_7) rfl (by decide) (XS.aloadN X0.here hx rfl (hb hby d18_10) (ldAt hL0 rfl) rfl k))))) ?_
  obtain ⟨cl1, Ar1, q1, S1, P1, H1, G1⟩ := (id V_a1)
  refine Gl.st (B := (s₁.setTop (mkF m 12 L0 [(.int cl1.slots.size.toInt32)]))) (fun t k => X0.arraylength hx (by rw [e0]; exact Ar1.1) (State.isArrayOf_alike hZ.alike Ar1.2.1) (g := (mkF m 11 L0 [(.ref a1)])) rfl rfl (hb hby d18_11) _ k) ?_
  refine Gl.cast (B := (s₁.setTop (mkF m 12 L0 [(.int (0 : Int32))]))) (by rw [len_of S1 P1]) ?_
  refine Gl.st (B := (s₁.setTop (mkF m 20 L0 [(.int (1 : Int32))]))) (fun t k => XS.ifNo X0.here hx rfl (hb hby d18_12) rfl (by decide) (XS.iconst X0.here hx rfl (hb hby d18_15) (XS.goto X0.here hx rfl (pc0 := 16) (pc' := 20) rfl (hb hby d18_16) (by decide) (by decide) k))) ?_
  obtain ⟨fs, hr, hrun, hended, hW, hsame⟩ := X0.leave (v := some (.int (nar .boolean (1 : Int32)))) (fun h => by rw [Bd.returns] at h; cases h)
  refine Gl.fin (retN X0 hx (t := .boolean) Bd.returns (by simp) (hb hby d18_20) hr) hrun hended ⟨_, _, rfl, ?_, ⟨_, rfl⟩, hW, hsame.mono (by decide) (by decide)⟩
  show Q18e Z a1 p3 p4 kx_a1 h0 n0 _ s₁.heap _
  rw [e0]
  exact ⟨rfl, N0, rfl⟩
theorem d18_21 : decode method_2_code 21 = .ok (.aload_n 0, 1) := by decide +kernel
theorem d18_22 : decode method_2_code 22 = .ok (.arraylength, 1) := by decide +kernel
theorem d18_23 : decode method_2_code 23 = .ok (.iconst 2, 1) := by decide +kernel
theorem d18_24 : decode method_2_code 24 = .ok (.if_icmp .ne 21, 3) := by decide +kernel
theorem d18_27 : decode method_2_code 27 = .ok (.aload_n 0, 1) := by decide +kernel
theorem d18_28 : decode method_2_code 28 = .ok (.iconst 0, 1) := by decide +kernel
theorem d18_29 : decode method_2_code 29 = .ok (.baload, 1) := by decide +kernel
theorem d18_30 : decode method_2_code 30 = .ok (.iload_n 2, 1) := by decide +kernel
theorem d18_31 : decode method_2_code 31 = .ok (.if_icmp .ne 14, 3) := by decide +kernel
theorem d18_34 : decode method_2_code 34 = .ok (.aload_n 0, 1) := by decide +kernel
theorem d18_35 : decode method_2_code 35 = .ok (.iconst 1, 1) := by decide +kernel
theorem d18_36 : decode method_2_code 36 = .ok (.baload, 1) := by decide +kernel
theorem d18_37 : decode method_2_code 37 = .ok (.iload_n 3, 1) := by decide +kernel
theorem d18_38 : decode method_2_code 38 = .ok (.if_icmp .ne 7, 3) := by decide +kernel
theorem d18_41 : decode method_2_code 41 = .ok (.iconst 1, 1) := by decide +kernel
theorem d18_42 : decode method_2_code 42 = .ok (.goto 4, 3) := by decide +kernel
theorem d18_46 : decode method_2_code 46 = .ok (.ireturn, 1) := by decide +kernel
theorem ef_18f (m : MethodId) (a1 : Addr) (p3 : Int32) (p4 : Int32) : entryFrame m #[(.ref a1), (.int (0 : Int32)), (.int p3), (.int p4)] 4 = mkF m 0 #[.val (.ref a1), .val (.int (0 : Int32)), .val (.int p3), .val (.int p4)] [] := by first | (simp [entryFrame, mkF, argsToLocals, Value.category]; done) | rfl
def Q18f (Z : State) (a1 : Addr) (p3 : Int32) (p4 : Int32) (kx_a1 : ClassId) (ex0 : Int32) (ex1 : Int32) (h0 : Heap) (n0 : Nat) (v : Option Value) (h : Heap) (L : List Loc) : Prop := v = some (.int (1 : Int32)) ∧ Fr n0 L ∧ h = h0
set_option maxRecDepth 65536 in
set_option maxHeartbeats 40000000 in
theorem rm18f (l : Launch) (Z : State) (a0 : Array Value) (hw : ∀ d ∈ tables_1, d.before a0 Z = true) (ws : List Jvm.Cond) (a1 : Addr) (p3 : Int32) (p4 : Int32) (kx_a1 : ClassId) (ex0 : Int32) (ex1 : Int32) (h0 : Heap) (n0 : Nat) (Z0 : n0 ≤ h0.size) (V_a1 : Arv Z h0 a1 kx_a1 .byte (2 : Int32) [(.int ex0), (.int ex1)] (.int (0 : Int32))) (hq31 : ex0 = p3) (hq38 : ex1 = p4) :
    MetFree l (⟨"com/example/limpet/limpet/group/MemberTakeOverPinLaw", "sameAssignment", "([BZBB)Z"⟩ : MethodName) (head1 (Jvm.Cond.code (⟨"com/example/limpet/limpet/group/MemberTakeOverPinLaw", "sameAssignment", "([BZBB)Z"⟩ : MethodName) method_2_code 4 (some .boolean) :: ws) ({ frames := 0, cells := 0, slots := 0, locals := 0 } : Room)) (fun a U => a = #[(.ref a1), (.int (0 : Int32)), (.int p3), (.int p4)] ∧ Z.Warmed39 U.vm ∧ U.heap = h0) (fun _ _ _ _ _ => True) (fun _ U o U' => ∃ v L, o = .returned v ∧ Q18f Z a1 p3 p4 kx_a1 ex0 ex1 h0 n0 v U'.heap L ∧ FrameEnd U o U' L ({ frames := 0, cells := 0, slots := 0, locals := 0 } : Room).cells ({ frames := 0, cells := 0, slots := 0, locals := 0 } : Room).slots) := by
  refine MetFree.of_bodySF (plainFor_of_name pn_18) hisR ?_
  intro p e s m args below meth c s₁ Bd hml0 hP hK
  obtain ⟨rfl, hZ, hh⟩ := hP
  have hx := Bd.exec
  have hby := Bd.bytes
  have hml : c.maxLocals = 4 := hml0
  have hown : s.vm.findClass "com/example/limpet/limpet/group/MemberTakeOverPinLaw" = some m.cls := findClass_of_methodNamed Bd.named
  have hnm := (name_of_methodNamed Bd.named Bd.method).1
  have X0 : Stand p l e ({ frames := 0, cells := 0, slots := 0, locals := 0 } : Room) s m #[(.ref a1), (.int (0 : Int32)), (.int p3), (.int p4)] below meth c s₁ [] 0 0 := Stand.of_body Bd
  have e0 : s₁.heap = h0 := by rw [← hh, Bd.state]; rfl
  have N0 := Fr.nil n0
  have K0 : Keep h0 h0 [] := Keep.refl h0 _
  refine (show Gl p e below (fun o U' => ∃ v L, o = .returned v ∧ Q18f Z a1 p3 p4 kx_a1 ex0 ex1 h0 n0 v U'.heap L ∧ FrameEnd s o U' L ({ frames := 0, cells := 0, slots := 0, locals := 0 } : Room).cells ({ frames := 0, cells := 0, slots := 0, locals := 0 } : Room).slots) (s₁.setTop (entryFrame m #[(.ref a1), (.int (0 : Int32)), (.int p3), (.int p4)] 4)) from ?_)
  obtain ⟨L0, hL0⟩ : ∃ z : Array Slot, z = #[.val (.ref a1), .val (.int (0 : Int32)), .val (.int p3), .val (.int p4)] := ⟨_, rfl⟩
  refine Gl.st (B := (s₁.setTop (mkF m 0 L0 []))) (fun t k => castTop (efAt hL0 (ef_18f m a1 p3 p4)) k) ?_
  refine Gl.st (B := (s₁.setTop (mkF m 22 L0 [(.ref a1)]))) (fun t k => XS.aloadN X0.here hx rfl (hb hby d18_0) (ldAt hL0 rfl) rfl (XS.ifnonnullYes X0.here hx rfl (pc0 := 1) (pc' := 6) rfl (hb hby d18_1) rfl (by decide) (by decide) (XS.iloadN X0.here hx rfl (hb hby d18_6) (ldAt hL0 rfl) (XS.ifYes X0.here hx rfl (pc0 := 7) (pc' := 21) rfl (hb hby d18_7) rfl (by decide) (by decide) (by decide) (XS.aloadN X0.here hx rfl (hb hby d18_21) (ldAt hL0 rfl) rfl k))))) ?_
  obtain ⟨cl1, Ar1, q1, S1, P1, H1, G1⟩ := (id V_a1)
  refine Gl.st (B := (s₁.setTop (mkF m 23 L0 [(.int cl1.slots.size.toInt32)]))) (fun t k => X0.arraylength hx (by rw [e0]; exact Ar1.1) (State.isArrayOf_alike hZ.alike Ar1.2.1) (g := (mkF m 22 L0 [(.ref a1)])) rfl rfl (hb hby d18_22) _ k) ?_
  refine Gl.cast (B := (s₁.setTop (mkF m 23 L0 [(.int (2 : Int32))]))) (by rw [len_of S1 P1]) ?_
  refine Gl.st (B := (s₁.setTop (mkF m 29 L0 [(.int (0 : Int32)), (.ref a1)]))) (fun t k => XS.iconst X0.here hx rfl (hb hby d18_23) (XS.icmpNo X0.here hx rfl (hb hby d18_24) rfl (by decide) (XS.aloadN X0.here hx rfl (hb hby d18_27) (ldAt hL0 rfl) rfl (XS.iconst X0.here hx rfl (hb hby d18_28) k)))) ?_
  obtain ⟨cl2, Ar2, q2, S2, P2, H2, G2⟩ := (id V_a1)
  have hin29_2 : ¬ ((0 : Int32) < 0 ∨ cl2.slots.size ≤ ((0 : Int32)).toNatClampNeg) := inb_of S2 ⟨by decide, by decide⟩
  have hat2 := Has.at H2 hin29_2 (v := (.int ex0)) rfl
  refine Gl.st (B := (s₁.setTop (mkF m 36 L0 [(.int (1 : Int32)), (.ref a1)]))) (fun t k => X0.baloadBytes hx (j := (0 : Int32)) (v := (.int ex0)) (by rw [e0]; exact Ar2.1) (State.isArrayOf_alike hZ.alike Ar2.2.1) Ar2.2.2 hin29_2 hat2 (g := (mkF m 29 L0 [(.int (0 : Int32)), (.ref a1)])) rfl rfl (hb hby d18_29) _ (XS.iloadN X0.here hx rfl (hb hby d18_30) (ldAt hL0 rfl) (XS.icmpNo X0.here hx rfl (hb hby d18_31) rfl (teq hq31).2 (XS.aloadN X0.here hx rfl (hb hby d18_34) (ldAt hL0 rfl) rfl (XS.iconst X0.here hx rfl (hb hby d18_35) k))))) ?_
  obtain ⟨cl4, Ar4, q4, S4, P4, H4, G4⟩ := (id V_a1)
  have hin36_4 : ¬ ((1 : Int32) < 0 ∨ cl4.slots.size ≤ ((1 : Int32)).toNatClampNeg) := inb_of S4 ⟨by decide, by decide⟩
  have hat4 := Has.at H4 hin36_4 (v := (.int ex1)) rfl
  refine Gl.st (B := (s₁.setTop (mkF m 46 L0 [(.int (1 : Int32))]))) (fun t k => X0.baloadBytes hx (j := (1 : Int32)) (v := (.int ex1)) (by rw [e0]; exact Ar4.1) (State.isArrayOf_alike hZ.alike Ar4.2.1) Ar4.2.2 hin36_4 hat4 (g := (mkF m 36 L0 [(.int (1 : Int32)), (.ref a1)])) rfl rfl (hb hby d18_36) _ (XS.iloadN X0.here hx rfl (hb hby d18_37) (ldAt hL0 rfl) (XS.icmpNo X0.here hx rfl (hb hby d18_38) rfl (teq hq38).2 (XS.iconst X0.here hx rfl (hb hby d18_41) (XS.goto X0.here hx rfl (pc0 := 42) (pc' := 46) rfl (hb hby d18_42) (by decide) (by decide) k))))) ?_
  obtain ⟨fs, hr, hrun, hended, hW, hsame⟩ := X0.leave (v := some (.int (nar .boolean (1 : Int32)))) (fun h => by rw [Bd.returns] at h; cases h)
  refine Gl.fin (retN X0 hx (t := .boolean) Bd.returns (by simp) (hb hby d18_46) hr) hrun hended ⟨_, _, rfl, ?_, ⟨_, rfl⟩, hW, hsame.mono (by decide) (by decide)⟩
  show Q18f Z a1 p3 p4 kx_a1 ex0 ex1 h0 n0 _ s₁.heap _
  rw [e0]
  exact ⟨rfl, N0, rfl⟩
def Q18g (Z : State) (a1 : Addr) (p2 : Int32) (p3 : Int32) (p4 : Int32) (kx_a1 : ClassId) (nx : Int32) (vx : List Value) (h0 : Heap) (n0 : Nat) (v : Option Value) (h : Heap) (L : List Loc) : Prop := v = some (.int (1 : Int32)) ∧ Fr n0 L ∧ h = h0
theorem rm18g (l : Launch) (Z : State) (a0 : Array Value) (hw : ∀ d ∈ tables_1, d.before a0 Z = true) (ws : List Jvm.Cond) (a1 : Addr) (p2 : Int32) (p3 : Int32) (p4 : Int32) (kx_a1 : ClassId) (nx : Int32) (vx : List Value) (h0 : Heap) (n0 : Nat) (Z0 : n0 ≤ h0.size) (V_a1 : Arv Z h0 a1 kx_a1 .byte nx vx (.int (0 : Int32))) (hE : (p2 = (1 : Int32) ∧ nx = (0 : Int32) ∧ vx = []) ∨ (p2 = (0 : Int32) ∧ nx = (2 : Int32) ∧ vx = [(.int p3), (.int p4)])) :
    MetFree l (⟨"com/example/limpet/limpet/group/MemberTakeOverPinLaw", "sameAssignment", "([BZBB)Z"⟩ : MethodName) (head1 (Jvm.Cond.code (⟨"com/example/limpet/limpet/group/MemberTakeOverPinLaw", "sameAssignment", "([BZBB)Z"⟩ : MethodName) method_2_code 4 (some .boolean) :: ws) ({ frames := 0, cells := 0, slots := 0, locals := 0 } : Room)) (fun a U => a = #[(.ref a1), (.int p2), (.int p3), (.int p4)] ∧ Z.Warmed39 U.vm ∧ U.heap = h0) (fun _ _ _ _ _ => True) (fun _ U o U' => ∃ v L, o = .returned v ∧ Q18g Z a1 p2 p3 p4 kx_a1 nx vx h0 n0 v U'.heap L ∧ FrameEnd U o U' L ({ frames := 0, cells := 0, slots := 0, locals := 0 } : Room).cells ({ frames := 0, cells := 0, slots := 0, locals := 0 } : Room).slots) := by
  rcases hE with ⟨rfl, rfl, rfl⟩ | ⟨rfl, rfl, rfl⟩
  · exact rm18e l Z a0 hw ws a1 p3 p4 kx_a1 h0 n0 Z0 V_a1
  · exact rm18f l Z a0 hw ws a1 p3 p4 kx_a1 p3 p4 h0 n0 Z0 V_a1 rfl rfl
theorem d19_0 : decode jdk_38_method_8_code 0 = .ok (.aload_n 0, 1) := by decide +kernel
theorem d19_1 : decode jdk_38_method_8_code 1 = .ok (.getfield 48, 3) := by decide +kernel
theorem d19_4 : decode jdk_38_method_8_code 4 = .ok (.ireturn, 1) := by decide +kernel
theorem pn_19 : plainName "java/util/ArrayList" = true := by first | (simp [plainName, overriddenIn]; done) | decide +kernel
theorem ef_19 (m : MethodId) (a1 : Addr) : entryFrame m #[(.ref a1)] 1 = mkF m 0 #[.val (.ref a1)] [] := by first | (simp [entryFrame, mkF, argsToLocals, Value.category]; done) | rfl
def Q19 (Z : State) (a1 : Addr) (w_size_a1 : Int32) (h0 : Heap) (n0 : Nat) (v : Option Value) (h : Heap) (L : List Loc) : Prop := v = some (.int w_size_a1) ∧ Fr n0 L ∧ h = h0
set_option maxRecDepth 65536 in
set_option maxHeartbeats 40000000 in
theorem rm19 (l : Launch) (Z : State) (a0 : Array Value) (hw : ∀ d ∈ tables_1, d.before a0 Z = true) (ws : List Jvm.Cond) (a1 : Addr) (w_size_a1 : Int32) (h0 : Heap) (n0 : Nat) (Z0 : n0 ≤ h0.size) (F_size_a1 : Fld Z h0 a1 "java/util/ArrayList" "size" "I" (.int w_size_a1)) :
    MetFree l (⟨"java/util/ArrayList", "size", "()I"⟩ : MethodName) (head1 (Jvm.Cond.code (⟨"java/util/ArrayList", "size", "()I"⟩ : MethodName) jdk_38_method_8_code 1 (some .int) :: ws) ({ frames := 0, cells := 0, slots := 0, locals := 0 } : Room)) (fun a U => a = #[(.ref a1)] ∧ Z.Warmed39 U.vm ∧ U.heap = h0) (fun _ _ _ _ _ => True) (fun _ U o U' => ∃ v L, o = .returned v ∧ Q19 Z a1 w_size_a1 h0 n0 v U'.heap L ∧ FrameEnd U o U' L ({ frames := 0, cells := 0, slots := 0, locals := 0 } : Room).cells ({ frames := 0, cells := 0, slots := 0, locals := 0 } : Room).slots) := by
  refine MetFree.of_bodySF (plainFor_of_name pn_19) hisR ?_
  intro p e s m args below meth c s₁ Bd hml0 hP hK
  obtain ⟨rfl, hZ, hh⟩ := hP
  have hx := Bd.exec
  have hby := Bd.bytes
  have hml : c.maxLocals = 1 := hml0
  have hown : s.vm.findClass "java/util/ArrayList" = some m.cls := findClass_of_methodNamed Bd.named
  have hnm := (name_of_methodNamed Bd.named Bd.method).1
  have X0 : Stand p l e ({ frames := 0, cells := 0, slots := 0, locals := 0 } : Room) s m #[(.ref a1)] below meth c s₁ [] 0 0 := Stand.of_body Bd
  have e0 : s₁.heap = h0 := by rw [← hh, Bd.state]; rfl
  have N0 := Fr.nil n0
  have K0 : Keep h0 h0 [] := Keep.refl h0 _
  refine (show Gl p e below (fun o U' => ∃ v L, o = .returned v ∧ Q19 Z a1 w_size_a1 h0 n0 v U'.heap L ∧ FrameEnd s o U' L ({ frames := 0, cells := 0, slots := 0, locals := 0 } : Room).cells ({ frames := 0, cells := 0, slots := 0, locals := 0 } : Room).slots) (s₁.setTop (entryFrame m #[(.ref a1)] 1)) from ?_)
  obtain ⟨L0, hL0⟩ : ∃ z : Array Slot, z = #[.val (.ref a1)] := ⟨_, rfl⟩
  refine Gl.st (B := (s₁.setTop (mkF m 0 L0 []))) (fun t k => castTop (efAt hL0 (ef_19 m a1)) k) ?_
  refine Gl.st (B := (s₁.setTop (mkF m 1 L0 [(.ref a1)]))) (fun t k => XS.aloadN X0.here hx rfl (hb hby d19_0) (ldAt hL0 rfl) rfl k) ?_
  obtain ⟨T1, X1, e1, st1⟩ := getF X0 hx hZ hown (host := "") (Or.inl (tw hw 77 rfl)) Via.refl e0 F_size_a1 (g := (mkF m 1 L0 [(.ref a1)])) rfl rfl (hb hby d19_1)
  refine Gl.st (B := (T1.setTop (mkF m 4 L0 [(.int w_size_a1)]))) st1 ?_
  obtain ⟨fs, hr, hrun, hended, hW, hsame⟩ := X1.leave (v := some (.int w_size_a1)) (fun h => by rw [Bd.returns] at h; cases h)
  refine Gl.fin (retI X1 hx Bd.returns (hb hby d19_4) hr) hrun hended ⟨_, _, rfl, ?_, ⟨_, rfl⟩, hW, hsame.mono (by decide) (by decide)⟩
  show Q19 Z a1 w_size_a1 h0 n0 _ T1.heap _
  rw [e1]
  exact ⟨rfl, N0, rfl⟩
theorem d22_0 : decode jdk_41_method_11_code 0 = .ok (.iload_n 0, 1) := by decide +kernel
theorem d22_1 : decode jdk_41_method_11_code 1 = .ok (.ifCond .lt 8, 3) := by decide +kernel
theorem d22_4 : decode jdk_41_method_11_code 4 = .ok (.iload_n 0, 1) := by decide +kernel
theorem d22_5 : decode jdk_41_method_11_code 5 = .ok (.iload_n 1, 1) := by decide +kernel
theorem d22_6 : decode jdk_41_method_11_code 6 = .ok (.if_icmp .lt 10, 3) := by decide +kernel
theorem d22_16 : decode jdk_41_method_11_code 16 = .ok (.iload_n 0, 1) := by decide +kernel
theorem d22_17 : decode jdk_41_method_11_code 17 = .ok (.ireturn, 1) := by decide +kernel
theorem pn_22 : plainName "jdk/internal/util/Preconditions" = true := by first | (simp [plainName, overriddenIn]; done) | decide +kernel
theorem ef_22 (m : MethodId) (p1 : Int32) (p2 : Int32) : entryFrame m #[(.int p1), (.int p2), .null] 3 = mkF m 0 #[.val (.int p1), .val (.int p2), .val .null] [] := by first | (simp [entryFrame, mkF, argsToLocals, Value.category]; done) | rfl
def Q22 (Z : State) (p1 : Int32) (p2 : Int32) (h0 : Heap) (n0 : Nat) (v : Option Value) (h : Heap) (L : List Loc) : Prop := v = some (.int p1) ∧ Fr n0 L ∧ h = h0
set_option maxRecDepth 65536 in
set_option maxHeartbeats 40000000 in
theorem rm22 (l : Launch) (Z : State) (a0 : Array Value) (hw : ∀ d ∈ tables_1, d.before a0 Z = true) (ws : List Jvm.Cond) (p1 : Int32) (p2 : Int32) (h0 : Heap) (n0 : Nat) (Z0 : n0 ≤ h0.size) (hq1 : ¬ (p1 < (0 : Int32))) (hq6 : p1 < p2) :
    MetFree l (⟨"jdk/internal/util/Preconditions", "checkIndex", "(IILjava/util/function/BiFunction;)I"⟩ : MethodName) (head1 (Jvm.Cond.code (⟨"jdk/internal/util/Preconditions", "checkIndex", "(IILjava/util/function/BiFunction;)I"⟩ : MethodName) jdk_41_method_11_code 3 (some .int) :: ws) ({ frames := 0, cells := 0, slots := 0, locals := 0 } : Room)) (fun a U => a = #[(.int p1), (.int p2), .null] ∧ Z.Warmed39 U.vm ∧ U.heap = h0) (fun _ _ _ _ _ => True) (fun _ U o U' => ∃ v L, o = .returned v ∧ Q22 Z p1 p2 h0 n0 v U'.heap L ∧ FrameEnd U o U' L ({ frames := 0, cells := 0, slots := 0, locals := 0 } : Room).cells ({ frames := 0, cells := 0, slots := 0, locals := 0 } : Room).slots) := by
  refine MetFree.of_bodySF (plainFor_of_name pn_22) hisR ?_
  intro p e s m args below meth c s₁ Bd hml0 hP hK
  obtain ⟨rfl, hZ, hh⟩ := hP
  have hx := Bd.exec
  have hby := Bd.bytes
  have hml : c.maxLocals = 3 := hml0
  have hown : s.vm.findClass "jdk/internal/util/Preconditions" = some m.cls := findClass_of_methodNamed Bd.named
  have hnm := (name_of_methodNamed Bd.named Bd.method).1
  have X0 : Stand p l e ({ frames := 0, cells := 0, slots := 0, locals := 0 } : Room) s m #[(.int p1), (.int p2), .null] below meth c s₁ [] 0 0 := Stand.of_body Bd
  have e0 : s₁.heap = h0 := by rw [← hh, Bd.state]; rfl
  have N0 := Fr.nil n0
  have K0 : Keep h0 h0 [] := Keep.refl h0 _
  refine (show Gl p e below (fun o U' => ∃ v L, o = .returned v ∧ Q22 Z p1 p2 h0 n0 v U'.heap L ∧ FrameEnd s o U' L ({ frames := 0, cells := 0, slots := 0, locals := 0 } : Room).cells ({ frames := 0, cells := 0, slots := 0, locals := 0 } : Room).slots) (s₁.setTop (entryFrame m #[(.int p1), (.int p2), .null] 3)) from ?_)
  obtain ⟨L0, hL0⟩ : ∃ z : Array Slot, z = #[.val (.int p1), .val (.int p2), .val .null] := ⟨_, rfl⟩
  refine Gl.st (B := (s₁.setTop (mkF m 0 L0 []))) (fun t k => castTop (efAt hL0 (ef_22 m p1 p2)) k) ?_
  refine Gl.st (B := (s₁.setTop (mkF m 17 L0 [(.int p1)]))) (fun t k => XS.iloadN X0.here hx rfl (hb hby d22_0) (ldAt hL0 rfl) (XS.ifNo X0.here hx rfl (hb hby d22_1) rfl ((if0 _ _).trans (flt hq1).1) (XS.iloadN X0.here hx rfl (hb hby d22_4) (ldAt hL0 rfl) (XS.iloadN X0.here hx rfl (hb hby d22_5) (ldAt hL0 rfl) (XS.icmpYes X0.here hx rfl (pc0 := 6) (pc' := 16) rfl (hb hby d22_6) rfl (tlt hq6).1 (by decide) (by decide) (XS.iloadN X0.here hx rfl (hb hby d22_16) (ldAt hL0 rfl) k)))))) ?_
  obtain ⟨fs, hr, hrun, hended, hW, hsame⟩ := X0.leave (v := some (.int p1)) (fun h => by rw [Bd.returns] at h; cases h)
  refine Gl.fin (retI X0 hx Bd.returns (hb hby d22_17) hr) hrun hended ⟨_, _, rfl, ?_, ⟨_, rfl⟩, hW, hsame.mono (by decide) (by decide)⟩
  show Q22 Z p1 p2 h0 n0 _ s₁.heap _
  rw [e0]
  exact ⟨rfl, N0, rfl⟩
theorem d21_0 : decode jdk_31_method_17_code 0 = .ok (.iload_n 0, 1) := by decide +kernel
theorem d21_1 : decode jdk_31_method_17_code 1 = .ok (.iload_n 1, 1) := by decide +kernel
theorem d21_2 : decode jdk_31_method_17_code 2 = .ok (.aconst_null, 1) := by decide +kernel
theorem d21_3 : decode jdk_31_method_17_code 3 = .ok (.invokestatic 105, 3) := by decide +kernel
theorem d21_6 : decode jdk_31_method_17_code 6 = .ok (.ireturn, 1) := by decide +kernel
theorem pn_21 : plainName "java/util/Objects" = true := by first | (simp [plainName, overriddenIn]; done) | decide +kernel
theorem pd_21_0 : parseMethodDescriptor "(IILjava/util/function/BiFunction;)I" = some ⟨[.int, .int, (.object "java/util/function/BiFunction")], some .int⟩ := by decide +kernel
theorem ef_21 (m : MethodId) (p1 : Int32) (p2 : Int32) : entryFrame m #[(.int p1), (.int p2)] 2 = mkF m 0 #[.val (.int p1), .val (.int p2)] [] := by first | (simp [entryFrame, mkF, argsToLocals, Value.category]; done) | rfl
def Q21 (Z : State) (p1 : Int32) (p2 : Int32) (h0 : Heap) (n0 : Nat) (v : Option Value) (h : Heap) (L : List Loc) : Prop := v = some (.int p1) ∧ Fr n0 L ∧ h = h0
set_option maxRecDepth 65536 in
set_option maxHeartbeats 40000000 in
theorem rm21 (l : Launch) (Z : State) (a0 : Array Value) (hw : ∀ d ∈ tables_1, d.before a0 Z = true) (ws : List Jvm.Cond) (p1 : Int32) (p2 : Int32) (h0 : Heap) (n0 : Nat) (Z0 : n0 ≤ h0.size) (hr3_hq1 : ¬ (p1 < (0 : Int32))) (hr3_hq6 : p1 < p2) :
    MetFree l (⟨"java/util/Objects", "checkIndex", "(II)I"⟩ : MethodName) (head1 (Jvm.Cond.code (⟨"java/util/Objects", "checkIndex", "(II)I"⟩ : MethodName) jdk_31_method_17_code 2 (some .int) :: ws) ({ frames := 1, cells := 0, slots := 0, locals := 14 } : Room)) (fun a U => a = #[(.int p1), (.int p2)] ∧ Z.Warmed39 U.vm ∧ U.heap = h0) (fun _ _ _ _ _ => True) (fun _ U o U' => ∃ v L, o = .returned v ∧ Q21 Z p1 p2 h0 n0 v U'.heap L ∧ FrameEnd U o U' L ({ frames := 1, cells := 0, slots := 0, locals := 14 } : Room).cells ({ frames := 1, cells := 0, slots := 0, locals := 14 } : Room).slots) := by
  refine MetFree.of_bodySF (plainFor_of_name pn_21) hisR ?_
  intro p e s m args below meth c s₁ Bd hml0 hP hK
  obtain ⟨rfl, hZ, hh⟩ := hP
  have hx := Bd.exec
  have hby := Bd.bytes
  have hml : c.maxLocals = 2 := hml0
  have hown : s.vm.findClass "java/util/Objects" = some m.cls := findClass_of_methodNamed Bd.named
  have hnm := (name_of_methodNamed Bd.named Bd.method).1
  have X0 : Stand p l e ({ frames := 1, cells := 0, slots := 0, locals := 14 } : Room) s m #[(.int p1), (.int p2)] below meth c s₁ [] 0 0 := Stand.of_body Bd
  have e0 : s₁.heap = h0 := by rw [← hh, Bd.state]; rfl
  have N0 := Fr.nil n0
  have K0 : Keep h0 h0 [] := Keep.refl h0 _
  refine (show Gl p e below (fun o U' => ∃ v L, o = .returned v ∧ Q21 Z p1 p2 h0 n0 v U'.heap L ∧ FrameEnd s o U' L ({ frames := 1, cells := 0, slots := 0, locals := 14 } : Room).cells ({ frames := 1, cells := 0, slots := 0, locals := 14 } : Room).slots) (s₁.setTop (entryFrame m #[(.int p1), (.int p2)] 2)) from ?_)
  obtain ⟨L0, hL0⟩ : ∃ z : Array Slot, z = #[.val (.int p1), .val (.int p2)] := ⟨_, rfl⟩
  refine Gl.st (B := (s₁.setTop (mkF m 0 L0 []))) (fun t k => castTop (efAt hL0 (ef_21 m p1 p2)) k) ?_
  refine Gl.st (B := (s₁.setTop (mkF m 3 L0 [.null, (.int p2), (.int p1)]))) (fun t k => XS.iloadN X0.here hx rfl (hb hby d21_0) (ldAt hL0 rfl) (XS.iloadN X0.here hx rfl (hb hby d21_1) (ldAt hL0 rfl) (XS.aconstNull X0.here hx rfl (hb hby d21_2) k))) ?_
  obtain ⟨_, _, ⟨T1, L1q, k1, n1⟩, -, X1, ⟨Lc1, hQ1, l1, y1, z1⟩, st1⟩ := Jvm.LawKit.callS X0 hx (y := (⟨"jdk/internal/util/Preconditions", "checkIndex", "(IILjava/util/function/BiFunction;)I"⟩ : MethodName)) hown (mvT hZ (tw hw 157 rfl)) (mvT hZ (tw hw 158 rfl)) (mvT hZ (tw hw 159 rfl)) (mvT hZ (tw hw 160 rfl)) (by decide) (backOf (W := 0) (rm22 l Z a0 hw [] p1 p2 h0 n0 Z0 hr3_hq1 hr3_hq6) hZ (tw hw 160 rfl) (tw hw 159 rfl) (by decide) (by decide)) (g := (mkF m 3 L0 [.null, (.int p2), (.int p1)])) rfl (szAt hml hL0 rfl) (argsL := [(.int p1), (.int p2), .null]) (rest := []) (lenOf pd_21_0 rfl) rfl (by show 2 * 0 + _ ≤ _; exact Nat.le_of_eq rfl) (hb hby d21_3) (fun _ _ => ⟨rfl, e0, (by decide : 0 + 0 ≤ _), (by decide : 0 + 0 ≤ _)⟩)
  dsimp only [Pt.U, Pt.locs, Pt.cells, Pt.slots] at X1 l1 y1 z1 st1 hQ1
  subst l1 y1 z1
  obtain ⟨rfl, N1q, eh1⟩ := hQ1
  have N1 := Fr.app N0 N1q
  refine Gl.st (B := (T1.setTop (mkF m 6 L0 [(.int p1)]))) (fun t k => st1 t k) ?_
  obtain ⟨fs, hr, hrun, hended, hW, hsame⟩ := X1.leave (v := some (.int p1)) (fun h => by rw [Bd.returns] at h; cases h)
  refine Gl.fin (retI X1 hx Bd.returns (hb hby d21_6) hr) hrun hended ⟨_, _, rfl, ?_, ⟨_, rfl⟩, hW, hsame.mono (by decide) (by decide)⟩
  show Q21 Z p1 p2 h0 n0 _ T1.heap _
  rw [eh1]
  exact ⟨rfl, N1, rfl⟩
theorem d23_0 : decode jdk_38_method_18_code 0 = .ok (.aload_n 0, 1) := by decide +kernel
theorem d23_1 : decode jdk_38_method_18_code 1 = .ok (.getfield 9, 3) := by decide +kernel
theorem d23_4 : decode jdk_38_method_18_code 4 = .ok (.iload_n 1, 1) := by decide +kernel
theorem d23_5 : decode jdk_38_method_18_code 5 = .ok (.aaload, 1) := by decide +kernel
theorem d23_6 : decode jdk_38_method_18_code 6 = .ok (.areturn, 1) := by decide +kernel
theorem pn_23 : plainName "java/util/ArrayList" = true := by first | (simp [plainName, overriddenIn]; done) | decide +kernel
theorem ef_23 (m : MethodId) (a1 : Addr) : entryFrame m #[(.ref a1), (.int (0 : Int32))] 2 = mkF m 0 #[.val (.ref a1), .val (.int (0 : Int32))] [] := by first | (simp [entryFrame, mkF, argsToLocals, Value.category]; done) | rfl
def Q23 (Z : State) (a1 : Addr) (kx_w_elementData_a1 : ClassId) (xe0 : Addr) (w_elementData_a1 : Addr) (h0 : Heap) (n0 : Nat) (v : Option Value) (h : Heap) (L : List Loc) : Prop := v = some (.ref xe0) ∧ Fr n0 L ∧ h = h0
set_option maxRecDepth 65536 in
set_option maxHeartbeats 40000000 in
theorem rm23 (l : Launch) (Z : State) (a0 : Array Value) (hw : ∀ d ∈ tables_1, d.before a0 Z = true) (ws : List Jvm.Cond) (a1 : Addr) (kx_w_elementData_a1 : ClassId) (xe0 : Addr) (w_elementData_a1 : Addr) (h0 : Heap) (n0 : Nat) (Z0 : n0 ≤ h0.size) (V_w_elementData_a1 : Arv Z h0 w_elementData_a1 kx_w_elementData_a1 (.object "java/lang/Object") (10 : Int32) [(.ref xe0), .null, .null, .null, .null, .null, .null, .null, .null, .null] .null) (F_elementData_a1 : Fld Z h0 a1 "java/util/ArrayList" "elementData" "[Ljava/lang/Object;" (.ref w_elementData_a1)) :
    MetFree l (⟨"java/util/ArrayList", "elementData", "(I)Ljava/lang/Object;"⟩ : MethodName) (head1 (Jvm.Cond.code (⟨"java/util/ArrayList", "elementData", "(I)Ljava/lang/Object;"⟩ : MethodName) jdk_38_method_18_code 2 (some (.object "java/lang/Object")) :: ws) ({ frames := 0, cells := 0, slots := 0, locals := 0 } : Room)) (fun a U => a = #[(.ref a1), (.int (0 : Int32))] ∧ Z.Warmed39 U.vm ∧ U.heap = h0) (fun _ _ _ _ _ => True) (fun _ U o U' => ∃ v L, o = .returned v ∧ Q23 Z a1 kx_w_elementData_a1 xe0 w_elementData_a1 h0 n0 v U'.heap L ∧ FrameEnd U o U' L ({ frames := 0, cells := 0, slots := 0, locals := 0 } : Room).cells ({ frames := 0, cells := 0, slots := 0, locals := 0 } : Room).slots) := by
  refine MetFree.of_bodySF (plainFor_of_name pn_23) hisR ?_
  intro p e s m args below meth c s₁ Bd hml0 hP hK
  obtain ⟨rfl, hZ, hh⟩ := hP
  have hx := Bd.exec
  have hby := Bd.bytes
  have hml : c.maxLocals = 2 := hml0
  have hown : s.vm.findClass "java/util/ArrayList" = some m.cls := findClass_of_methodNamed Bd.named
  have hnm := (name_of_methodNamed Bd.named Bd.method).1
  have X0 : Stand p l e ({ frames := 0, cells := 0, slots := 0, locals := 0 } : Room) s m #[(.ref a1), (.int (0 : Int32))] below meth c s₁ [] 0 0 := Stand.of_body Bd
  have e0 : s₁.heap = h0 := by rw [← hh, Bd.state]; rfl
  have N0 := Fr.nil n0
  have K0 : Keep h0 h0 [] := Keep.refl h0 _
  refine (show Gl p e below (fun o U' => ∃ v L, o = .returned v ∧ Q23 Z a1 kx_w_elementData_a1 xe0 w_elementData_a1 h0 n0 v U'.heap L ∧ FrameEnd s o U' L ({ frames := 0, cells := 0, slots := 0, locals := 0 } : Room).cells ({ frames := 0, cells := 0, slots := 0, locals := 0 } : Room).slots) (s₁.setTop (entryFrame m #[(.ref a1), (.int (0 : Int32))] 2)) from ?_)
  obtain ⟨L0, hL0⟩ : ∃ z : Array Slot, z = #[.val (.ref a1), .val (.int (0 : Int32))] := ⟨_, rfl⟩
  refine Gl.st (B := (s₁.setTop (mkF m 0 L0 []))) (fun t k => castTop (efAt hL0 (ef_23 m a1)) k) ?_
  refine Gl.st (B := (s₁.setTop (mkF m 1 L0 [(.ref a1)]))) (fun t k => XS.aloadN X0.here hx rfl (hb hby d23_0) (ldAt hL0 rfl) rfl k) ?_
  obtain ⟨T1, X1, e1, st1⟩ := getF X0 hx hZ hown (host := "") (Or.inl (tw hw 64 rfl)) Via.refl e0 F_elementData_a1 (g := (mkF m 1 L0 [(.ref a1)])) rfl rfl (hb hby d23_1)
  refine Gl.st (B := (T1.setTop (mkF m 4 L0 [(.ref w_elementData_a1)]))) st1 ?_
  refine Gl.st (B := (T1.setTop (mkF m 5 L0 [(.int (0 : Int32)), (.ref w_elementData_a1)]))) (fun t k => XS.iloadN X1.here hx rfl (hb hby d23_4) (ldAt hL0 rfl) k) ?_
  obtain ⟨cl2, Ar2, q2, S2, P2, H2, G2⟩ := (id V_w_elementData_a1)
  have hin5_2 : ¬ ((0 : Int32) < 0 ∨ cl2.slots.size ≤ ((0 : Int32)).toNatClampNeg) := inb_of S2 ⟨by decide, by decide⟩
  have hat2 := Has.at H2 hin5_2 (v := (.ref xe0)) rfl
  refine Gl.st (B := (T1.setTop (mkF m 6 L0 [(.ref xe0)]))) (fun t k => X1.aaload hx (j := (0 : Int32)) (v := (.ref xe0)) (by rw [e1]; exact Ar2.1) (State.isArrayOf_alike hZ.alike Ar2.2.1) rfl Ar2.2.2 hin5_2 hat2 (g := (mkF m 5 L0 [(.int (0 : Int32)), (.ref w_elementData_a1)])) rfl rfl (hb hby d23_5) _ k) ?_
  obtain ⟨fs, hr, hrun, hended, hW, hsame⟩ := X1.leave (v := some (.ref xe0)) (fun h => by rw [Bd.returns] at h; cases h)
  refine Gl.fin (X1.areturnOut hx rfl Bd.returns rfl (hb hby d23_6) hr) hrun hended ⟨_, _, rfl, ?_, ⟨_, rfl⟩, hW, hsame.mono (by decide) (by decide)⟩
  show Q23 Z a1 kx_w_elementData_a1 xe0 w_elementData_a1 h0 n0 _ T1.heap _
  rw [e1]
  exact ⟨rfl, N0, rfl⟩
theorem d20_0 : decode jdk_38_method_20_code 0 = .ok (.iload_n 1, 1) := by decide +kernel
theorem d20_1 : decode jdk_38_method_20_code 1 = .ok (.aload_n 0, 1) := by decide +kernel
theorem d20_2 : decode jdk_38_method_20_code 2 = .ok (.getfield 48, 3) := by decide +kernel
theorem d20_5 : decode jdk_38_method_20_code 5 = .ok (.invokestatic 118, 3) := by decide +kernel
theorem d20_8 : decode jdk_38_method_20_code 8 = .ok (.pop, 1) := by decide +kernel
theorem d20_9 : decode jdk_38_method_20_code 9 = .ok (.aload_n 0, 1) := by decide +kernel
theorem d20_10 : decode jdk_38_method_20_code 10 = .ok (.iload_n 1, 1) := by decide +kernel
theorem d20_11 : decode jdk_38_method_20_code 11 = .ok (.invokevirtual 123, 3) := by decide +kernel
theorem d20_14 : decode jdk_38_method_20_code 14 = .ok (.areturn, 1) := by decide +kernel
theorem pn_20 : plainName "java/util/ArrayList" = true := by first | (simp [plainName, overriddenIn]; done) | decide +kernel
theorem pd_20_0 : parseMethodDescriptor "(II)I" = some ⟨[.int, .int], some .int⟩ := by decide +kernel
theorem pd_20_1 : parseMethodDescriptor "(I)Ljava/lang/Object;" = some ⟨[.int], some (.object "java/lang/Object")⟩ := by decide +kernel
theorem ef_20 (m : MethodId) (a1 : Addr) : entryFrame m #[(.ref a1), (.int (0 : Int32))] 2 = mkF m 0 #[.val (.ref a1), .val (.int (0 : Int32))] [] := by first | (simp [entryFrame, mkF, argsToLocals, Value.category]; done) | rfl
def Q20 (Z : State) (a1 : Addr) (kx_w_elementData_a1 : ClassId) (xe0 : Addr) (w_elementData_a1 : Addr) (h0 : Heap) (n0 : Nat) (v : Option Value) (h : Heap) (L : List Loc) : Prop := v = some (.ref xe0) ∧ Fr n0 L ∧ h = h0
set_option maxRecDepth 65536 in
set_option maxHeartbeats 40000000 in
theorem rm20 (l : Launch) (Z : State) (a0 : Array Value) (hw : ∀ d ∈ tables_1, d.before a0 Z = true) (ws : List Jvm.Cond) (a1 : Addr) (kx_w_elementData_a1 : ClassId) (xe0 : Addr) (w_elementData_a1 : Addr) (h0 : Heap) (n0 : Nat) (Z0 : n0 ≤ h0.size) (V_w_elementData_a1 : Arv Z h0 w_elementData_a1 kx_w_elementData_a1 (.object "java/lang/Object") (10 : Int32) [(.ref xe0), .null, .null, .null, .null, .null, .null, .null, .null, .null] .null) (F_size_a1 : Fld Z h0 a1 "java/util/ArrayList" "size" "I" (.int (1 : Int32))) (F_elementData_a1 : Fld Z h0 a1 "java/util/ArrayList" "elementData" "[Ljava/lang/Object;" (.ref w_elementData_a1)) (E_a1 : Exa Z h0 a1 "java/util/ArrayList") :
    MetFree l (⟨"java/util/ArrayList", "get", "(I)Ljava/lang/Object;"⟩ : MethodName) (head1 (Jvm.Cond.code (⟨"java/util/ArrayList", "get", "(I)Ljava/lang/Object;"⟩ : MethodName) jdk_38_method_20_code 2 (some (.object "java/lang/Object")) :: ws) ({ frames := 2, cells := 0, slots := 0, locals := 27 } : Room)) (fun a U => a = #[(.ref a1), (.int (0 : Int32))] ∧ Z.Warmed39 U.vm ∧ U.heap = h0) (fun _ _ _ _ _ => True) (fun _ U o U' => ∃ v L, o = .returned v ∧ Q20 Z a1 kx_w_elementData_a1 xe0 w_elementData_a1 h0 n0 v U'.heap L ∧ FrameEnd U o U' L ({ frames := 2, cells := 0, slots := 0, locals := 27 } : Room).cells ({ frames := 2, cells := 0, slots := 0, locals := 27 } : Room).slots) := by
  refine MetFree.of_bodySF (plainFor_of_name pn_20) hisR ?_
  intro p e s m args below meth c s₁ Bd hml0 hP hK
  obtain ⟨rfl, hZ, hh⟩ := hP
  have hx := Bd.exec
  have hby := Bd.bytes
  have hml : c.maxLocals = 2 := hml0
  have hown : s.vm.findClass "java/util/ArrayList" = some m.cls := findClass_of_methodNamed Bd.named
  have hnm := (name_of_methodNamed Bd.named Bd.method).1
  have X0 : Stand p l e ({ frames := 2, cells := 0, slots := 0, locals := 27 } : Room) s m #[(.ref a1), (.int (0 : Int32))] below meth c s₁ [] 0 0 := Stand.of_body Bd
  have e0 : s₁.heap = h0 := by rw [← hh, Bd.state]; rfl
  have N0 := Fr.nil n0
  have K0 : Keep h0 h0 [] := Keep.refl h0 _
  refine (show Gl p e below (fun o U' => ∃ v L, o = .returned v ∧ Q20 Z a1 kx_w_elementData_a1 xe0 w_elementData_a1 h0 n0 v U'.heap L ∧ FrameEnd s o U' L ({ frames := 2, cells := 0, slots := 0, locals := 27 } : Room).cells ({ frames := 2, cells := 0, slots := 0, locals := 27 } : Room).slots) (s₁.setTop (entryFrame m #[(.ref a1), (.int (0 : Int32))] 2)) from ?_)
  obtain ⟨L0, hL0⟩ : ∃ z : Array Slot, z = #[.val (.ref a1), .val (.int (0 : Int32))] := ⟨_, rfl⟩
  refine Gl.st (B := (s₁.setTop (mkF m 0 L0 []))) (fun t k => castTop (efAt hL0 (ef_20 m a1)) k) ?_
  refine Gl.st (B := (s₁.setTop (mkF m 2 L0 [(.ref a1), (.int (0 : Int32))]))) (fun t k => XS.iloadN X0.here hx rfl (hb hby d20_0) (ldAt hL0 rfl) (XS.aloadN X0.here hx rfl (hb hby d20_1) (ldAt hL0 rfl) rfl k)) ?_
  obtain ⟨T1, X1, e1, st1⟩ := getF X0 hx hZ hown (host := "") (Or.inl (tw hw 77 rfl)) Via.refl e0 F_size_a1 (g := (mkF m 2 L0 [(.ref a1), (.int (0 : Int32))])) rfl rfl (hb hby d20_2)
  refine Gl.st (B := (T1.setTop (mkF m 5 L0 [(.int (1 : Int32)), (.int (0 : Int32))]))) st1 ?_
  have hp5_3 : ¬ ((0 : Int32) < (0 : Int32)) := by
    first | assumption | decide | omega
  have hp5_4 : (0 : Int32) < (1 : Int32) := by
    first | assumption | decide | omega
  obtain ⟨_, _, ⟨T2, L2q, k2, n2⟩, -, X2, ⟨Lc2, hQ2, l2, y2, z2⟩, st2⟩ := Jvm.LawKit.callS X1 hx (y := (⟨"java/util/Objects", "checkIndex", "(II)I"⟩ : MethodName)) hown (mvT hZ (tw hw 153 rfl)) (mvT hZ (tw hw 154 rfl)) (mvT hZ (tw hw 155 rfl)) (mvT hZ (tw hw 156 rfl)) (by decide) (backOf (W := 0) (rm21 l Z a0 hw [] (0 : Int32) (1 : Int32) h0 n0 Z0 hp5_3 hp5_4) hZ (tw hw 156 rfl) (tw hw 155 rfl) (by decide) (by decide)) (g := (mkF m 5 L0 [(.int (1 : Int32)), (.int (0 : Int32))])) rfl (szAt hml hL0 rfl) (argsL := [(.int (0 : Int32)), (.int (1 : Int32))]) (rest := []) (lenOf pd_20_0 rfl) rfl (by show 2 * 0 + _ ≤ _; exact Nat.le_of_eq rfl) (hb hby d20_5) (fun _ _ => ⟨rfl, e1, (by decide : 0 + 0 ≤ _), (by decide : 0 + 0 ≤ _)⟩)
  dsimp only [Pt.U, Pt.locs, Pt.cells, Pt.slots] at X2 l2 y2 z2 st2 hQ2
  subst l2 y2 z2
  obtain ⟨rfl, N2q, eh2⟩ := hQ2
  have N2 := Fr.app N0 N2q
  refine Gl.st (B := (T2.setTop (mkF m 8 L0 [(.int (0 : Int32))]))) (fun t k => st2 t k) ?_
  refine Gl.st (B := (T2.setTop (mkF m 11 L0 [(.int (0 : Int32)), (.ref a1)]))) (fun t k => XS.pop X2.here hx rfl (hb hby d20_8) rfl rfl (XS.aloadN X2.here hx rfl (hb hby d20_9) (ldAt hL0 rfl) rfl (XS.iloadN X2.here hx rfl (hb hby d20_10) (ldAt hL0 rfl) k))) ?_
  obtain ⟨cq5, kq5, q5a, q5b, q5c⟩ := isOf hZ eh2 E_a1
  obtain ⟨_, _, ⟨T5, L5q, k5, n5⟩, -, X5, ⟨Lc5, hQ5, l5, y5, z5⟩, st5⟩ := X2.virtualBack hx (y := (⟨"java/util/ArrayList", "elementData", "(I)Ljava/lang/Object;"⟩ : MethodName)) (z := (⟨"java/util/ArrayList", "elementData", "(I)Ljava/lang/Object;"⟩ : MethodName)) hown (mvT hZ (tw hw 161 rfl)) (mvT hZ (tw hw 162 rfl)) (notFace_of_selects (args := #[]) (mvT hZ (tw hw 164 rfl))) (mvT hZ (tw hw 164 rfl)) (mvT hZ (tw hw 163 rfl)) (by decide) (backOf (W := 0) (rm23 l Z a0 hw [] a1 kx_w_elementData_a1 xe0 w_elementData_a1 h0 n0 Z0 V_w_elementData_a1 F_elementData_a1) hZ (tw hw 165 rfl) (tw hw 44 rfl) (by decide) (by decide)) q5a q5c (g := (mkF m 11 L0 [(.int (0 : Int32)), (.ref a1)])) rfl (szAt hml hL0 rfl) (Steps.refl _) (argsL := [(.int (0 : Int32))]) (rest := []) (lenOf pd_20_1 rfl) rfl (by show 2 * 0 + _ ≤ _; exact Nat.le_of_eq rfl) (hb hby d20_11) (fun _ _ => ⟨rfl, eh2, (by decide : 0 + 0 ≤ _), (by decide : 0 + 0 ≤ _)⟩)
  dsimp only [Pt.U, Pt.locs, Pt.cells, Pt.slots] at X5 l5 y5 z5 st5 hQ5
  subst l5 y5 z5
  obtain ⟨rfl, N5q, eh5⟩ := hQ5
  have N5 := Fr.app N2 N5q
  refine Gl.st (B := (T5.setTop (mkF m 14 L0 [(.ref xe0)]))) (fun t k => st5.trans k) ?_
  obtain ⟨fs, hr, hrun, hended, hW, hsame⟩ := X5.leave (v := some (.ref xe0)) (fun h => by rw [Bd.returns] at h; cases h)
  refine Gl.fin (X5.areturnOut hx rfl Bd.returns rfl (hb hby d20_14) hr) hrun hended ⟨_, _, rfl, ?_, ⟨_, rfl⟩, hW, hsame.mono (by decide) (by decide)⟩
  show Q20 Z a1 kx_w_elementData_a1 xe0 w_elementData_a1 h0 n0 _ T5.heap _
  rw [eh5]
  exact ⟨rfl, N5, rfl⟩
theorem d24_0 : decode prog_8_method_8_code 0 = .ok (.aload_n 0, 1) := by decide +kernel
theorem d24_1 : decode prog_8_method_8_code 1 = .ok (.getfield 89, 3) := by decide +kernel
theorem d24_4 : decode prog_8_method_8_code 4 = .ok (.ifnonnull 10, 3) := by decide +kernel
theorem d24_7 : decode prog_8_method_8_code 7 = .ok (.aload_n 0, 1) := by decide +kernel
theorem d24_8 : decode prog_8_method_8_code 8 = .ok (.getfield 93, 3) := by decide +kernel
theorem d24_11 : decode prog_8_method_8_code 11 = .ok (.ifnull 7, 3) := by decide +kernel
theorem d24_18 : decode prog_8_method_8_code 18 = .ok (.iconst 0, 1) := by decide +kernel
theorem d24_19 : decode prog_8_method_8_code 19 = .ok (.ireturn, 1) := by decide +kernel
theorem pn_24 : plainName "com/example/limpet/limpet/group/Member" = true := by first | (simp [plainName, overriddenIn]; done) | decide +kernel
theorem ef_24 (m : MethodId) (a1 : Addr) : entryFrame m #[(.ref a1)] 1 = mkF m 0 #[.val (.ref a1)] [] := by first | (simp [entryFrame, mkF, argsToLocals, Value.category]; done) | rfl
def Q24 (Z : State) (a1 : Addr) (h0 : Heap) (n0 : Nat) (v : Option Value) (h : Heap) (L : List Loc) : Prop := v = some (.int (0 : Int32)) ∧ Fr n0 L ∧ h = h0
set_option maxRecDepth 65536 in
set_option maxHeartbeats 40000000 in
theorem rm24 (l : Launch) (Z : State) (a0 : Array Value) (hw : ∀ d ∈ tables_1, d.before a0 Z = true) (ws : List Jvm.Cond) (a1 : Addr) (h0 : Heap) (n0 : Nat) (Z0 : n0 ≤ h0.size) (F_pendingJoin_a1 : Fld Z h0 a1 "com/example/limpet/limpet/group/Member" "pendingJoin" "Ljava/util/function/Consumer;" .null) (F_pendingSync_a1 : Fld Z h0 a1 "com/example/limpet/limpet/group/Member" "pendingSync" "Ljava/util/function/Consumer;" .null) :
    MetFree l (⟨"com/example/limpet/limpet/group/Member", "isWaiting", "()Z"⟩ : MethodName) (head1 (Jvm.Cond.code (⟨"com/example/limpet/limpet/group/Member", "isWaiting", "()Z"⟩ : MethodName) prog_8_method_8_code 1 (some .boolean) :: ws) ({ frames := 0, cells := 0, slots := 0, locals := 0 } : Room)) (fun a U => a = #[(.ref a1)] ∧ Z.Warmed39 U.vm ∧ U.heap = h0) (fun _ _ _ _ _ => True) (fun _ U o U' => ∃ v L, o = .returned v ∧ Q24 Z a1 h0 n0 v U'.heap L ∧ FrameEnd U o U' L ({ frames := 0, cells := 0, slots := 0, locals := 0 } : Room).cells ({ frames := 0, cells := 0, slots := 0, locals := 0 } : Room).slots) := by
  refine MetFree.of_bodySF (plainFor_of_name pn_24) hisR ?_
  intro p e s m args below meth c s₁ Bd hml0 hP hK
  obtain ⟨rfl, hZ, hh⟩ := hP
  have hx := Bd.exec
  have hby := Bd.bytes
  have hml : c.maxLocals = 1 := hml0
  have hown : s.vm.findClass "com/example/limpet/limpet/group/Member" = some m.cls := findClass_of_methodNamed Bd.named
  have hnm := (name_of_methodNamed Bd.named Bd.method).1
  have X0 : Stand p l e ({ frames := 0, cells := 0, slots := 0, locals := 0 } : Room) s m #[(.ref a1)] below meth c s₁ [] 0 0 := Stand.of_body Bd
  have e0 : s₁.heap = h0 := by rw [← hh, Bd.state]; rfl
  have N0 := Fr.nil n0
  have K0 : Keep h0 h0 [] := Keep.refl h0 _
  refine (show Gl p e below (fun o U' => ∃ v L, o = .returned v ∧ Q24 Z a1 h0 n0 v U'.heap L ∧ FrameEnd s o U' L ({ frames := 0, cells := 0, slots := 0, locals := 0 } : Room).cells ({ frames := 0, cells := 0, slots := 0, locals := 0 } : Room).slots) (s₁.setTop (entryFrame m #[(.ref a1)] 1)) from ?_)
  obtain ⟨L0, hL0⟩ : ∃ z : Array Slot, z = #[.val (.ref a1)] := ⟨_, rfl⟩
  refine Gl.st (B := (s₁.setTop (mkF m 0 L0 []))) (fun t k => castTop (efAt hL0 (ef_24 m a1)) k) ?_
  refine Gl.st (B := (s₁.setTop (mkF m 1 L0 [(.ref a1)]))) (fun t k => XS.aloadN X0.here hx rfl (hb hby d24_0) (ldAt hL0 rfl) rfl k) ?_
  obtain ⟨T1, X1, e1, st1⟩ := getF X0 hx hZ hown (host := "") (Or.inl (tw hw 173 rfl)) Via.refl e0 F_pendingJoin_a1 (g := (mkF m 1 L0 [(.ref a1)])) rfl rfl (hb hby d24_1)
  refine Gl.st (B := (T1.setTop (mkF m 4 L0 [.null]))) st1 ?_
  refine Gl.st (B := (T1.setTop (mkF m 8 L0 [(.ref a1)]))) (fun t k => XS.ifnonnullNo X1.here hx rfl (hb hby d24_4) rfl (XS.aloadN X1.here hx rfl (hb hby d24_7) (ldAt hL0 rfl) rfl k)) ?_
  obtain ⟨T2, X2, e2, st2⟩ := getF X1 hx hZ hown (host := "") (Or.inl (tw hw 175 rfl)) Via.refl e1 F_pendingSync_a1 (g := (mkF m 8 L0 [(.ref a1)])) rfl rfl (hb hby d24_8)
  refine Gl.st (B := (T2.setTop (mkF m 11 L0 [.null]))) st2 ?_
  refine Gl.st (B := (T2.setTop (mkF m 19 L0 [(.int (0 : Int32))]))) (fun t k => XS.ifnullYes X2.here hx rfl (pc0 := 11) (pc' := 18) rfl (hb hby d24_11) rfl (by decide) (by decide) (XS.iconst X2.here hx rfl (hb hby d24_18) k)) ?_
  obtain ⟨fs, hr, hrun, hended, hW, hsame⟩ := X2.leave (v := some (.int (nar .boolean (0 : Int32)))) (fun h => by rw [Bd.returns] at h; cases h)
  refine Gl.fin (retN X2 hx (t := .boolean) Bd.returns (by simp) (hb hby d24_19) hr) hrun hended ⟨_, _, rfl, ?_, ⟨_, rfl⟩, hW, hsame.mono (by decide) (by decide)⟩
  show Q24 Z a1 h0 n0 _ T2.heap _
  rw [e2]
  exact ⟨rfl, N0, rfl⟩
theorem sn55 {Z : State} {a0 : Array Value} (hw : ∀ d ∈ tables_1, d.before a0 Z = true) : Jvm.RoadKit.slotOf Z "com/example/limpet/limpet/group/Member" "rebalanceTimeoutMs" "I" ≠ Jvm.RoadKit.slotOf Z "com/example/limpet/limpet/group/Member" "sessionTimeoutMs" "I" := slot_ne (Or.inl (tw hw 122 rfl)) (Or.inl (tw hw 120 rfl)) (by decide) (t := .int) (t' := .int) (by decide) (by decide)
theorem sn56 {Z : State} {a0 : Array Value} (hw : ∀ d ∈ tables_1, d.before a0 Z = true) : Jvm.RoadKit.slotOf Z "com/example/limpet/limpet/group/Member" "sessionDeadline" "J" ≠ Jvm.RoadKit.slotOf Z "com/example/limpet/limpet/group/Member" "sessionTimeoutMs" "I" := slot_ne (Or.inl (tw hw 125 rfl)) (Or.inl (tw hw 120 rfl)) (by decide) (t := .long) (t' := .int) (by decide) (by decide)
theorem sn57 {Z : State} {a0 : Array Value} (hw : ∀ d ∈ tables_1, d.before a0 Z = true) : Jvm.RoadKit.slotOf Z "com/example/limpet/limpet/group/Member" "sessionDeadline" "J" ≠ Jvm.RoadKit.slotOf Z "com/example/limpet/limpet/group/Member" "rebalanceTimeoutMs" "I" := slot_ne (Or.inl (tw hw 125 rfl)) (Or.inl (tw hw 122 rfl)) (by decide) (t := .long) (t' := .int) (by decide) (by decide)
theorem sn58 {Z : State} {a0 : Array Value} (hw : ∀ d ∈ tables_1, d.before a0 Z = true) : Jvm.RoadKit.slotOf Z "com/example/limpet/limpet/group/Member" "assignment" "[B" ≠ Jvm.RoadKit.slotOf Z "com/example/limpet/limpet/group/Member" "sessionTimeoutMs" "I" := slot_ne (Or.inl (tw hw 109 rfl)) (Or.inl (tw hw 120 rfl)) (by decide) (t := (.array .byte)) (t' := .int) (by decide) (by decide)
theorem sn59 {Z : State} {a0 : Array Value} (hw : ∀ d ∈ tables_1, d.before a0 Z = true) : Jvm.RoadKit.slotOf Z "com/example/limpet/limpet/group/Member" "assignment" "[B" ≠ Jvm.RoadKit.slotOf Z "com/example/limpet/limpet/group/Member" "rebalanceTimeoutMs" "I" := slot_ne (Or.inl (tw hw 109 rfl)) (Or.inl (tw hw 122 rfl)) (by decide) (t := (.array .byte)) (t' := .int) (by decide) (by decide)
theorem sn60 {Z : State} {a0 : Array Value} (hw : ∀ d ∈ tables_1, d.before a0 Z = true) : Jvm.RoadKit.slotOf Z "com/example/limpet/limpet/group/Member" "assignment" "[B" ≠ Jvm.RoadKit.slotOf Z "com/example/limpet/limpet/group/Member" "sessionDeadline" "J" := slot_ne (Or.inl (tw hw 109 rfl)) (Or.inl (tw hw 125 rfl)) (by decide) (t := (.array .byte)) (t' := .long) (by decide) (by decide)
theorem sn61 {Z : State} {a0 : Array Value} (hw : ∀ d ∈ tables_1, d.before a0 Z = true) : Jvm.RoadKit.slotOf Z "com/example/limpet/limpet/group/Member" "id" "Ljava/lang/String;" ≠ Jvm.RoadKit.slotOf Z "com/example/limpet/limpet/group/Member" "sessionTimeoutMs" "I" := slot_ne (Or.inr (tw hw 111 rfl)) (Or.inl (tw hw 120 rfl)) (by decide) (t := (.object "java/lang/String")) (t' := .int) (by decide) (by decide)
theorem sn62 {Z : State} {a0 : Array Value} (hw : ∀ d ∈ tables_1, d.before a0 Z = true) : Jvm.RoadKit.slotOf Z "com/example/limpet/limpet/group/Member" "id" "Ljava/lang/String;" ≠ Jvm.RoadKit.slotOf Z "com/example/limpet/limpet/group/Member" "rebalanceTimeoutMs" "I" := slot_ne (Or.inr (tw hw 111 rfl)) (Or.inl (tw hw 122 rfl)) (by decide) (t := (.object "java/lang/String")) (t' := .int) (by decide) (by decide)
theorem sn63 {Z : State} {a0 : Array Value} (hw : ∀ d ∈ tables_1, d.before a0 Z = true) : Jvm.RoadKit.slotOf Z "com/example/limpet/limpet/group/Member" "id" "Ljava/lang/String;" ≠ Jvm.RoadKit.slotOf Z "com/example/limpet/limpet/group/Member" "sessionDeadline" "J" := slot_ne (Or.inr (tw hw 111 rfl)) (Or.inl (tw hw 125 rfl)) (by decide) (t := (.object "java/lang/String")) (t' := .long) (by decide) (by decide)
theorem sn64 {Z : State} {a0 : Array Value} (hw : ∀ d ∈ tables_1, d.before a0 Z = true) : Jvm.RoadKit.slotOf Z "com/example/limpet/limpet/group/Member" "instanceId" "Ljava/lang/String;" ≠ Jvm.RoadKit.slotOf Z "com/example/limpet/limpet/group/Member" "sessionTimeoutMs" "I" := slot_ne (Or.inr (tw hw 113 rfl)) (Or.inl (tw hw 120 rfl)) (by decide) (t := (.object "java/lang/String")) (t' := .int) (by decide) (by decide)
theorem sn65 {Z : State} {a0 : Array Value} (hw : ∀ d ∈ tables_1, d.before a0 Z = true) : Jvm.RoadKit.slotOf Z "com/example/limpet/limpet/group/Member" "instanceId" "Ljava/lang/String;" ≠ Jvm.RoadKit.slotOf Z "com/example/limpet/limpet/group/Member" "rebalanceTimeoutMs" "I" := slot_ne (Or.inr (tw hw 113 rfl)) (Or.inl (tw hw 122 rfl)) (by decide) (t := (.object "java/lang/String")) (t' := .int) (by decide) (by decide)
theorem sn66 {Z : State} {a0 : Array Value} (hw : ∀ d ∈ tables_1, d.before a0 Z = true) : Jvm.RoadKit.slotOf Z "com/example/limpet/limpet/group/Member" "instanceId" "Ljava/lang/String;" ≠ Jvm.RoadKit.slotOf Z "com/example/limpet/limpet/group/Member" "sessionDeadline" "J" := slot_ne (Or.inr (tw hw 113 rfl)) (Or.inl (tw hw 125 rfl)) (by decide) (t := (.object "java/lang/String")) (t' := .long) (by decide) (by decide)
theorem sn67 {Z : State} {a0 : Array Value} (hw : ∀ d ∈ tables_1, d.before a0 Z = true) : Jvm.RoadKit.slotOf Z "com/example/limpet/limpet/group/Member" "generation" "I" ≠ Jvm.RoadKit.slotOf Z "com/example/limpet/limpet/group/Member" "sessionTimeoutMs" "I" := slot_ne (Or.inl (tw hw 115 rfl)) (Or.inl (tw hw 120 rfl)) (by decide) (t := .int) (t' := .int) (by decide) (by decide)
theorem sn68 {Z : State} {a0 : Array Value} (hw : ∀ d ∈ tables_1, d.before a0 Z = true) : Jvm.RoadKit.slotOf Z "com/example/limpet/limpet/group/Member" "generation" "I" ≠ Jvm.RoadKit.slotOf Z "com/example/limpet/limpet/group/Member" "rebalanceTimeoutMs" "I" := slot_ne (Or.inl (tw hw 115 rfl)) (Or.inl (tw hw 122 rfl)) (by decide) (t := .int) (t' := .int) (by decide) (by decide)
theorem sn69 {Z : State} {a0 : Array Value} (hw : ∀ d ∈ tables_1, d.before a0 Z = true) : Jvm.RoadKit.slotOf Z "com/example/limpet/limpet/group/Member" "generation" "I" ≠ Jvm.RoadKit.slotOf Z "com/example/limpet/limpet/group/Member" "sessionDeadline" "J" := slot_ne (Or.inl (tw hw 115 rfl)) (Or.inl (tw hw 125 rfl)) (by decide) (t := .int) (t' := .long) (by decide) (by decide)
theorem sn70 {Z : State} {a0 : Array Value} (hw : ∀ d ∈ tables_1, d.before a0 Z = true) : Jvm.RoadKit.slotOf Z "com/example/limpet/limpet/group/Member" "protocols" "Ljava/util/List;" ≠ Jvm.RoadKit.slotOf Z "com/example/limpet/limpet/group/Member" "sessionTimeoutMs" "I" := slot_ne (Or.inl (tw hw 118 rfl)) (Or.inl (tw hw 120 rfl)) (by decide) (t := (.object "java/util/List")) (t' := .int) (by decide) (by decide)
theorem sn71 {Z : State} {a0 : Array Value} (hw : ∀ d ∈ tables_1, d.before a0 Z = true) : Jvm.RoadKit.slotOf Z "com/example/limpet/limpet/group/Member" "protocols" "Ljava/util/List;" ≠ Jvm.RoadKit.slotOf Z "com/example/limpet/limpet/group/Member" "rebalanceTimeoutMs" "I" := slot_ne (Or.inl (tw hw 118 rfl)) (Or.inl (tw hw 122 rfl)) (by decide) (t := (.object "java/util/List")) (t' := .int) (by decide) (by decide)
theorem sn72 {Z : State} {a0 : Array Value} (hw : ∀ d ∈ tables_1, d.before a0 Z = true) : Jvm.RoadKit.slotOf Z "com/example/limpet/limpet/group/Member" "protocols" "Ljava/util/List;" ≠ Jvm.RoadKit.slotOf Z "com/example/limpet/limpet/group/Member" "sessionDeadline" "J" := slot_ne (Or.inl (tw hw 118 rfl)) (Or.inl (tw hw 125 rfl)) (by decide) (t := (.object "java/util/List")) (t' := .long) (by decide) (by decide)
theorem sn73 {Z : State} {a0 : Array Value} (hw : ∀ d ∈ tables_1, d.before a0 Z = true) : Jvm.RoadKit.slotOf Z "com/example/limpet/limpet/group/Member" "sessionTimeoutMs" "I" ≠ Jvm.RoadKit.slotOf Z "com/example/limpet/limpet/group/Member" "rebalanceTimeoutMs" "I" := slot_ne (Or.inl (tw hw 120 rfl)) (Or.inl (tw hw 122 rfl)) (by decide) (t := .int) (t' := .int) (by decide) (by decide)
theorem sn74 {Z : State} {a0 : Array Value} (hw : ∀ d ∈ tables_1, d.before a0 Z = true) : Jvm.RoadKit.slotOf Z "com/example/limpet/limpet/group/Member" "sessionTimeoutMs" "I" ≠ Jvm.RoadKit.slotOf Z "com/example/limpet/limpet/group/Member" "sessionDeadline" "J" := slot_ne (Or.inl (tw hw 120 rfl)) (Or.inl (tw hw 125 rfl)) (by decide) (t := .int) (t' := .long) (by decide) (by decide)
theorem sn75 {Z : State} {a0 : Array Value} (hw : ∀ d ∈ tables_1, d.before a0 Z = true) : Jvm.RoadKit.slotOf Z "com/example/limpet/limpet/group/Member" "rebalanceTimeoutMs" "I" ≠ Jvm.RoadKit.slotOf Z "com/example/limpet/limpet/group/Member" "sessionDeadline" "J" := slot_ne (Or.inl (tw hw 122 rfl)) (Or.inl (tw hw 125 rfl)) (by decide) (t := .int) (t' := .long) (by decide) (by decide)
theorem sn76 {Z : State} {a0 : Array Value} (hw : ∀ d ∈ tables_1, d.before a0 Z = true) : Jvm.RoadKit.slotOf Z "com/example/limpet/limpet/group/Member" "pendingJoin" "Ljava/util/function/Consumer;" ≠ Jvm.RoadKit.slotOf Z "com/example/limpet/limpet/group/Member" "sessionTimeoutMs" "I" := slot_ne (Or.inl (tw hw 174 rfl)) (Or.inl (tw hw 120 rfl)) (by decide) (t := (.object "java/util/function/Consumer")) (t' := .int) (by decide) (by decide)
theorem sn77 {Z : State} {a0 : Array Value} (hw : ∀ d ∈ tables_1, d.before a0 Z = true) : Jvm.RoadKit.slotOf Z "com/example/limpet/limpet/group/Member" "pendingJoin" "Ljava/util/function/Consumer;" ≠ Jvm.RoadKit.slotOf Z "com/example/limpet/limpet/group/Member" "rebalanceTimeoutMs" "I" := slot_ne (Or.inl (tw hw 174 rfl)) (Or.inl (tw hw 122 rfl)) (by decide) (t := (.object "java/util/function/Consumer")) (t' := .int) (by decide) (by decide)
theorem sn78 {Z : State} {a0 : Array Value} (hw : ∀ d ∈ tables_1, d.before a0 Z = true) : Jvm.RoadKit.slotOf Z "com/example/limpet/limpet/group/Member" "pendingJoin" "Ljava/util/function/Consumer;" ≠ Jvm.RoadKit.slotOf Z "com/example/limpet/limpet/group/Member" "sessionDeadline" "J" := slot_ne (Or.inl (tw hw 174 rfl)) (Or.inl (tw hw 125 rfl)) (by decide) (t := (.object "java/util/function/Consumer")) (t' := .long) (by decide) (by decide)
theorem sn79 {Z : State} {a0 : Array Value} (hw : ∀ d ∈ tables_1, d.before a0 Z = true) : Jvm.RoadKit.slotOf Z "com/example/limpet/limpet/group/Member" "pendingSync" "Ljava/util/function/Consumer;" ≠ Jvm.RoadKit.slotOf Z "com/example/limpet/limpet/group/Member" "sessionTimeoutMs" "I" := slot_ne (Or.inl (tw hw 176 rfl)) (Or.inl (tw hw 120 rfl)) (by decide) (t := (.object "java/util/function/Consumer")) (t' := .int) (by decide) (by decide)
theorem sn80 {Z : State} {a0 : Array Value} (hw : ∀ d ∈ tables_1, d.before a0 Z = true) : Jvm.RoadKit.slotOf Z "com/example/limpet/limpet/group/Member" "pendingSync" "Ljava/util/function/Consumer;" ≠ Jvm.RoadKit.slotOf Z "com/example/limpet/limpet/group/Member" "rebalanceTimeoutMs" "I" := slot_ne (Or.inl (tw hw 176 rfl)) (Or.inl (tw hw 122 rfl)) (by decide) (t := (.object "java/util/function/Consumer")) (t' := .int) (by decide) (by decide)
theorem sn81 {Z : State} {a0 : Array Value} (hw : ∀ d ∈ tables_1, d.before a0 Z = true) : Jvm.RoadKit.slotOf Z "com/example/limpet/limpet/group/Member" "pendingSync" "Ljava/util/function/Consumer;" ≠ Jvm.RoadKit.slotOf Z "com/example/limpet/limpet/group/Member" "sessionDeadline" "J" := slot_ne (Or.inl (tw hw 176 rfl)) (Or.inl (tw hw 125 rfl)) (by decide) (t := (.object "java/util/function/Consumer")) (t' := .long) (by decide) (by decide)
theorem pd_0s681_6_0 : parseMethodDescriptor "()Z" = some ⟨[], some .boolean⟩ := by decide +kernel
set_option maxRecDepth 65536 in
set_option maxHeartbeats 40000000 in
theorem sg_681_6 (l : Launch) (Z : State) (a0 : Array Value) (hw : ∀ d ∈ tables_1, d.before a0 Z = true) {p : Program} {e : Env} {s : State} {m : MethodId} {A0 : Array Value} {below : List Frame} {meth : Method} {c : Code} (hx : p.tables.exec = Jvm.exec) (hby : c.code = code) (hml : c.maxLocals = 23) (hret : meth.sig.returnType = ret) (hlk : meth.locks = false) (hZ : Z.Warmed39 s.vm) (hown : s.vm.findClass "com/example/limpet/limpet/group/MemberTakeOverPinLaw" = some m.cls) (n0 : Nat) (p1 : Int32) (p2 : Int32) (p3 : Int32) (p4 : Int32) (q5 : Int64) (p6 : Int32) (od7 : Slot) (od8 : Slot) (od9 : Slot) (od10 : Slot) (od11 : Slot) (od12 : Slot) (od13 : Slot) (od14 : Slot) (od15 : Slot) (od16 : Slot) (od17 : Slot) (od18 : Slot) (od19 : Slot) (b2092 : Addr) (b2097 : Addr) (x257_2115 : Int32) (x265_2120 : Int32) (x276_2125 : Int64) {T0 : State} {Lc : List Loc} (h0 : Heap) (X0 : Stand p l e room_1 s m A0 below meth c T0 Lc 19 62) (e0 : T0.heap = h0) (N0 : Fr n0 Lc) (Z0 : n0 ≤ h0.size) (F_sess2_b2092 : Fld Z h0 b2092 "com/example/limpet/limpet/group/Member" "sessionTimeoutMs" "I" (.int x257_2115)) (hq694 : x257_2115 = (p3 ^^^ (-1 : Int32))) (F_reba3_b2092 : Fld Z h0 b2092 "com/example/limpet/limpet/group/Member" "rebalanceTimeoutMs" "I" (.int x265_2120)) (hq705 : x265_2120 = (p4 ^^^ (-1 : Int32))) (F_sess4_b2092 : Fld Z h0 b2092 "com/example/limpet/limpet/group/Member" "sessionDeadline" "J" (.long x276_2125)) (hq720 : x276_2125 = (q5 ^^^ (-1 : Int64))) (E_b2092 : Exa Z h0 b2092 "com/example/limpet/limpet/group/Member") (F_pendingJoin_b2092 : Fld Z h0 b2092 "com/example/limpet/limpet/group/Member" "pendingJoin" "Ljava/util/function/Consumer;" .null) (F_pendingSync_b2092 : Fld Z h0 b2092 "com/example/limpet/limpet/group/Member" "pendingSync" "Ljava/util/function/Consumer;" .null) :
    Gl p e below (fun o U' => ∃ v L, o = .returned v ∧ (v = some (.int (1 : Int32)) ∧ Fr n0 L) ∧ FrameEnd s o U' L room_1.cells room_1.slots) (T0.setTop (mkF m 681 #[.val (.int p1), .val (.int p2), .val (.int p3), .val (.int p4), .val (.long q5), .second, .val (.int p6), od7, od8, od9, od10, od11, od12, od13, od14, od15, od16, od17, od18, od19, .val (.ref b2092), .val (.ref b2097), .val (.int (1 : Int32))] [])) := by
  obtain ⟨L0, hL0⟩ : ∃ z : Array Slot, z = #[.val (.int p1), .val (.int p2), .val (.int p3), .val (.int p4), .val (.long q5), .second, .val (.int p6), od7, od8, od9, od10, od11, od12, od13, od14, od15, od16, od17, od18, od19, .val (.ref b2092), .val (.ref b2097), .val (.int (1 : Int32))] := ⟨_, rfl⟩
  refine Gl.cast (B := (T0.setTop (mkF m 681 L0 []))) (by rw [hL0]) ?_
  refine Gl.st (B := (T0.setTop (mkF m 688 L0 [(.ref b2092)]))) (fun t k => XS.iload X0.here hx rfl (hb hby at_681) (ldAt hL0 rfl) (XS.ifNo X0.here hx rfl (hb hby at_683) rfl (by decide) (XS.aload X0.here hx rfl (hb hby at_686) (ldAt hL0 rfl) rfl k))) ?_
  obtain ⟨T6202, X6202, e6202, st6202⟩ := getF X0 hx hZ hown (host := "") (Or.inl (tw hw 119 rfl)) Via.refl e0 F_sess2_b2092 (g := (mkF m 688 L0 [(.ref b2092)])) rfl rfl (hb hby at_688)
  refine Gl.st (B := (T6202.setTop (mkF m 691 L0 [(.int x257_2115)]))) st6202 ?_
  refine Gl.st (B := (T6202.setTop (mkF m 699 L0 [(.ref b2092)]))) (fun t k => XS.iloadN X6202.here hx rfl (hb hby at_691) (ldAt hL0 rfl) (XS.iconst X6202.here hx rfl (hb hby at_692) (XS.ixor X6202.here hx rfl (hb hby at_693) rfl (XS.icmpNo X6202.here hx rfl (hb hby at_694) rfl (teq hq694).2 (XS.aload X6202.here hx rfl (hb hby at_697) (ldAt hL0 rfl) rfl k))))) ?_
  obtain ⟨T6204, X6204, e6204, st6204⟩ := getF X6202 hx hZ hown (host := "") (Or.inl (tw hw 121 rfl)) Via.refl e6202 F_reba3_b2092 (g := (mkF m 699 L0 [(.ref b2092)])) rfl rfl (hb hby at_699)
  refine Gl.st (B := (T6204.setTop (mkF m 702 L0 [(.int x265_2120)]))) st6204 ?_
  refine Gl.st (B := (T6204.setTop (mkF m 710 L0 [(.ref b2092)]))) (fun t k => XS.iloadN X6204.here hx rfl (hb hby at_702) (ldAt hL0 rfl) (XS.iconst X6204.here hx rfl (hb hby at_703) (XS.ixor X6204.here hx rfl (hb hby at_704) rfl (XS.icmpNo X6204.here hx rfl (hb hby at_705) rfl (teq hq705).2 (XS.aload X6204.here hx rfl (hb hby at_708) (ldAt hL0 rfl) rfl k))))) ?_
  obtain ⟨T6206, X6206, e6206, st6206⟩ := getF X6204 hx hZ hown (host := "") (Or.inl (tw hw 124 rfl)) Via.refl e6204 F_sess4_b2092 (g := (mkF m 710 L0 [(.ref b2092)])) rfl rfl (hb hby at_710)
  refine Gl.st (B := (T6206.setTop (mkF m 713 L0 [(.long x276_2125)]))) st6206 ?_
  refine Gl.st (B := (T6206.setTop (mkF m 724 L0 [(.int (1 : Int32))]))) (fun t k => XS.lload X6206.here hx rfl (hb hby at_713) (ldAt hL0 rfl) (X6206.ldc2Long hx hown (mvT hZ (tw hw 123 rfl)) (g := (mkF m 715 L0 [(.long q5), (.long x276_2125)])) rfl (hb hby at_715) _ (XS.lxor X6206.here hx rfl (hb hby at_718) rfl (XS.lcmp X6206.here hx rfl (hb hby at_719) rfl (XS.ifNo X6206.here hx rfl (hb hby at_720) rfl ((if0 _ _).trans (teq ((lw_eq x276_2125 (q5 ^^^ (-1 : Int64))).mpr hq720)).2) (XS.iconst X6206.here hx rfl (hb hby at_723) k)))))) ?_
  obtain ⟨L6208, hL6208⟩ : ∃ z : Array Slot, z = #[.val (.int p1), .val (.int p2), .val (.int p3), .val (.int p4), .val (.long q5), .second, .val (.int p6), od7, od8, od9, od10, od11, od12, od13, od14, od15, od16, od17, od18, od19, .val (.ref b2092), .val (.ref b2097), .val (.int (1 : Int32))] := ⟨_, rfl⟩
  refine Gl.st (B := (T6206.setTop (mkF m 737 L6208 [(.ref b2092)]))) (fun t k => XS.goto X6206.here hx rfl (pc0 := 724) (pc' := 728) rfl (hb hby at_724) (by decide) (by decide) (XS.istore X6206.here hx rfl (hb hby at_728) rfl (l' := L6208) (stAt hL0 hL6208 rfl rfl) (XS.iload X6206.here hx rfl (hb hby at_730) (ldAt hL6208 rfl) (XS.ifNo X6206.here hx rfl (hb hby at_732) rfl (by decide) (XS.aload X6206.here hx rfl (hb hby at_735) (ldAt hL6208 rfl) rfl k))))) ?_
  obtain ⟨cq6209, kq6209, q6209a, q6209b, q6209c⟩ := isOf hZ e6206 E_b2092
  obtain ⟨_, _, ⟨T6209, L6209q, k6209, n6209⟩, -, X6209, ⟨Lc6209, hQ6209, l6209, y6209, z6209⟩, st6209⟩ := X6206.virtualBack hx (y := (⟨"com/example/limpet/limpet/group/Member", "isWaiting", "()Z"⟩ : MethodName)) (z := (⟨"com/example/limpet/limpet/group/Member", "isWaiting", "()Z"⟩ : MethodName)) hown (mvT hZ (tw hw 168 rfl)) (mvT hZ (tw hw 169 rfl)) (notFace_of_selects (args := #[]) (mvT hZ (tw hw 171 rfl))) (mvT hZ (tw hw 171 rfl)) (mvT hZ (tw hw 170 rfl)) (by decide) (backOf (W := 0) (rm24 l Z a0 hw [] b2092 h0 n0 Z0 F_pendingJoin_b2092 F_pendingSync_b2092) hZ (tw hw 172 rfl) (tw hw 103 rfl) (by decide) (by decide)) q6209a q6209c (g := (mkF m 737 L6208 [(.ref b2092)])) rfl (szAt hml hL6208 rfl) (Steps.refl _) (argsL := []) (rest := []) (lenOf pd_0s681_6_0 rfl) rfl (by show 2 * 0 + _ ≤ _; exact Nat.le_of_eq rfl) (hb hby at_737) (fun _ _ => ⟨rfl, e6206, (by decide : 19 + 0 ≤ _), (by decide : 62 + 0 ≤ _)⟩)
  dsimp only [Pt.U, Pt.locs, Pt.cells, Pt.slots] at X6209 l6209 y6209 z6209 st6209 hQ6209
  subst l6209 y6209 z6209
  obtain ⟨rfl, N6209q, eh6209⟩ := hQ6209
  have N6209 := Fr.app N0 N6209q
  refine Gl.st (B := (T6209.setTop (mkF m 740 L6208 [(.int (0 : Int32))]))) (fun t k => st6209.trans k) ?_
  obtain ⟨L6210, hL6210⟩ : ∃ z : Array Slot, z = #[.val (.int p1), .val (.int p2), .val (.int p3), .val (.int p4), .val (.long q5), .second, .val (.int p6), od7, od8, od9, od10, od11, od12, od13, od14, od15, od16, od17, od18, od19, .val (.ref b2092), .val (.ref b2097), .val (.int (1 : Int32))] := ⟨_, rfl⟩
  refine Gl.st (B := (T6209.setTop (mkF m 752 L6210 [(.int (1 : Int32))]))) (fun t k => XS.ifNo X6209.here hx rfl (hb hby at_740) rfl (by decide) (XS.iconst X6209.here hx rfl (hb hby at_743) (XS.goto X6209.here hx rfl (pc0 := 744) (pc' := 748) rfl (hb hby at_744) (by decide) (by decide) (XS.istore X6209.here hx rfl (hb hby at_748) rfl (l' := L6210) (stAt hL6208 hL6210 rfl rfl) (XS.iload X6209.here hx rfl (hb hby at_750) (ldAt hL6210 rfl) k))))) ?_
  obtain ⟨fs, hr, hrun, hended, hW, hsame⟩ := X6209.leave (v := some (.int (nar .boolean (1 : Int32)))) (fun h => by rw [hret] at h; cases h)
  refine Gl.fin (retN X6209 hx (t := .boolean) hret (by simp) (hb hby at_752) hr) hrun hended ⟨_, _, rfl, ?_, ⟨_, rfl⟩, hW, hsame.mono (by decide) (by decide)⟩
  show _ = some (Value.int (1 : Int32)) ∧ Fr n0 _
  exact ⟨rfl, N6209⟩
theorem pd_0s582_5_0 : parseMethodDescriptor "([BZBB)Z" = some ⟨[(.array .byte), .boolean, .byte, .byte], some .boolean⟩ := by decide +kernel
theorem pd_0s582_5_1 : parseMethodDescriptor "()I" = some ⟨[], some .int⟩ := by decide +kernel
theorem pd_0s582_5_2 : parseMethodDescriptor "(I)Ljava/lang/Object;" = some ⟨[.int], some (.object "java/lang/Object")⟩ := by decide +kernel
set_option maxRecDepth 65536 in
set_option maxHeartbeats 40000000 in
theorem sg_582_5 (l : Launch) (Z : State) (a0 : Array Value) (hw : ∀ d ∈ tables_1, d.before a0 Z = true) {p : Program} {e : Env} {s : State} {m : MethodId} {A0 : Array Value} {below : List Frame} {meth : Method} {c : Code} (hx : p.tables.exec = Jvm.exec) (hby : c.code = code) (hml : c.maxLocals = 23) (hret : meth.sig.returnType = ret) (hlk : meth.locks = false) (hZ : Z.Warmed39 s.vm) (hown : s.vm.findClass "com/example/limpet/limpet/group/MemberTakeOverPinLaw" = some m.cls) (n0 : Nat) (p1 : Int32) (p2 : Int32) (p3 : Int32) (p4 : Int32) (q5 : Int64) (p6 : Int32) (w8e : Int32) (od9 : Slot) (od10 : Slot) (od11 : Slot) (od12 : Slot) (y13_92_32 : Int32) (y14_99_34 : Int32) (b37 : Addr) (b1044 : Addr) (b1065 : Addr) (od18 : Slot) (od19 : Slot) (b2092 : Addr) (b2097 : Addr) (k37 : ClassId) (nra : Int32) (vra : List Value) (b1071_t0 : Addr) (k1071_kx_t0 : ClassId) (x257_2115 : Int32) (x265_2120 : Int32) (x276_2125 : Int64) {T0 : State} {Lc : List Loc} (h0 : Heap) (X0 : Stand p l e room_1 s m A0 below meth c T0 Lc 19 62) (e0 : T0.heap = h0) (N0 : Fr n0 Lc) (Z0 : n0 ≤ h0.size) (F_assignment_b2092 : Fld Z h0 b2092 "com/example/limpet/limpet/group/Member" "assignment" "[B" (.ref b37)) (V_b37 : Arv Z h0 b37 k37 .byte nra vra (.int (0 : Int32))) (hr605_hE : (w8e = (1 : Int32) ∧ nra = (0 : Int32) ∧ vra = []) ∨ (w8e = (0 : Int32) ∧ nra = (2 : Int32) ∧ vra = [(.int y13_92_32), (.int y14_99_34)])) (F_protocols_b2092 : Fld Z h0 b2092 "com/example/limpet/limpet/group/Member" "protocols" "Ljava/util/List;" (.ref b1065)) (E_b1065 : Exa Z h0 b1065 "java/util/ArrayList") (F_size_b1065 : Fld Z h0 b1065 "java/util/ArrayList" "size" "I" (.int (1 : Int32))) (F_elementData_b1065 : Fld Z h0 b1065 "java/util/ArrayList" "elementData" "[Ljava/lang/Object;" (.ref b1071_t0)) (V_b1071_t0 : Arv Z h0 b1071_t0 k1071_kx_t0 (.object "java/lang/Object") (10 : Int32) [(.ref b1044), .null, .null, .null, .null, .null, .null, .null, .null, .null] .null) (O_b1071_t0 : Ovr Z k1071_kx_t0 "java/lang/Object") (F_sess2_b2092 : Fld Z h0 b2092 "com/example/limpet/limpet/group/Member" "sessionTimeoutMs" "I" (.int x257_2115)) (F_reba3_b2092 : Fld Z h0 b2092 "com/example/limpet/limpet/group/Member" "rebalanceTimeoutMs" "I" (.int x265_2120)) (F_sess4_b2092 : Fld Z h0 b2092 "com/example/limpet/limpet/group/Member" "sessionDeadline" "J" (.long x276_2125)) (F_pendingJoin_b2092 : Fld Z h0 b2092 "com/example/limpet/limpet/group/Member" "pendingJoin" "Ljava/util/function/Consumer;" .null) (F_pendingSync_b2092 : Fld Z h0 b2092 "com/example/limpet/limpet/group/Member" "pendingSync" "Ljava/util/function/Consumer;" .null) (hq694 : x257_2115 = (p3 ^^^ (-1 : Int32))) (hq705 : x265_2120 = (p4 ^^^ (-1 : Int32))) (hq720 : x276_2125 = (q5 ^^^ (-1 : Int64))) (E_b2092 : Exa Z h0 b2092 "com/example/limpet/limpet/group/Member") :
    Gl p e below (fun o U' => ∃ v L, o = .returned v ∧ (v = some (.int (1 : Int32)) ∧ Fr n0 L) ∧ FrameEnd s o U' L room_1.cells room_1.slots) (T0.setTop (mkF m 582 #[.val (.int p1), .val (.int p2), .val (.int p3), .val (.int p4), .val (.long q5), .second, .val (.int p6), .val (.int (0 : Int32)), .val (.int w8e), od9, od10, od11, od12, .val (.int y13_92_32), .val (.int y14_99_34), .val (.ref b37), .val (.ref b1044), .val (.ref b1065), od18, od19, .val (.ref b2092), .val (.ref b2097), .val (.int (1 : Int32))] [])) := by
  obtain ⟨L0, hL0⟩ : ∃ z : Array Slot, z = #[.val (.int p1), .val (.int p2), .val (.int p3), .val (.int p4), .val (.long q5), .second, .val (.int p6), .val (.int (0 : Int32)), .val (.int w8e), od9, od10, od11, od12, .val (.int y13_92_32), .val (.int y14_99_34), .val (.ref b37), .val (.ref b1044), .val (.ref b1065), od18, od19, .val (.ref b2092), .val (.ref b2097), .val (.int (1 : Int32))] := ⟨_, rfl⟩
  refine Gl.cast (B := (T0.setTop (mkF m 582 L0 []))) (by rw [hL0]) ?_
  refine Gl.st (B := (T0.setTop (mkF m 589 L0 [(.ref b2092)]))) (fun t k => XS.iload X0.here hx rfl (hb hby at_582) (ldAt hL0 rfl) (XS.ifNo X0.here hx rfl (hb hby at_584) rfl (by decide) (XS.aload X0.here hx rfl (hb hby at_587) (ldAt hL0 rfl) rfl k))) ?_
  obtain ⟨T5194, X5194, e5194, st5194⟩ := getF X0 hx hZ hown (host := "") (Or.inl (tw hw 116 rfl)) Via.refl e0 F_assignment_b2092 (g := (mkF m 589 L0 [(.ref b2092)])) rfl rfl (hb hby at_589)
  refine Gl.st (B := (T5194.setTop (mkF m 592 L0 [(.ref b37)]))) st5194 ?_
  refine Gl.st (B := (T5194.setTop (mkF m 605 L0 [(.int y14_99_34), (.int y13_92_32), (.int w8e), (.ref b37)]))) (fun t k => XS.aload X5194.here hx rfl (hb hby at_592) (ldAt hL0 rfl) rfl (Jvm.RoadKit.acmp (g := (mkF m 594 L0 [(.ref b37), (.ref b37)])) X5194 hx rfl rfl rfl (pc0 := 594) (pc' := 597) (same := true) rfl (hb hby at_594) rfl (decide_eq_true rfl) (by decide) (by decide) (XS.aload X5194.here hx rfl (hb hby at_597) (ldAt hL0 rfl) rfl (XS.iload X5194.here hx rfl (hb hby at_599) (ldAt hL0 rfl) (XS.iload X5194.here hx rfl (hb hby at_601) (ldAt hL0 rfl) (XS.iload X5194.here hx rfl (hb hby at_603) (ldAt hL0 rfl) k)))))) ?_
  obtain ⟨_, _, ⟨T5195, L5195q, k5195, n5195⟩, -, X5195, ⟨Lc5195, hQ5195, l5195, y5195, z5195⟩, st5195⟩ := Jvm.LawKit.callS X5194 hx (y := (⟨"com/example/limpet/limpet/group/MemberTakeOverPinLaw", "sameAssignment", "([BZBB)Z"⟩ : MethodName)) hown (mvT hZ (tw hw 133 rfl)) (mvT hZ (tw hw 134 rfl)) (mvT hZ (tw hw 135 rfl)) (mvT hZ (tw hw 136 rfl)) (by decide) (backOf (W := 0) (rm18g l Z a0 hw [] b37 w8e y13_92_32 y14_99_34 k37 nra vra h0 n0 Z0 V_b37 hr605_hE) hZ (tw hw 136 rfl) (tw hw 135 rfl) (by decide) (by decide)) (g := (mkF m 605 L0 [(.int y14_99_34), (.int y13_92_32), (.int w8e), (.ref b37)])) rfl (szAt hml hL0 rfl) (argsL := [(.ref b37), (.int w8e), (.int y13_92_32), (.int y14_99_34)]) (rest := []) (lenOf pd_0s582_5_0 rfl) rfl (by show 2 * 0 + _ ≤ _; exact Nat.le_of_eq rfl) (hb hby at_605) (fun _ _ => ⟨rfl, e5194, (by decide : 19 + 0 ≤ _), (by decide : 62 + 0 ≤ _)⟩)
  dsimp only [Pt.U, Pt.locs, Pt.cells, Pt.slots] at X5195 l5195 y5195 z5195 st5195 hQ5195
  subst l5195 y5195 z5195
  obtain ⟨rfl, N5195q, eh5195⟩ := hQ5195
  have N5195 := Fr.app N0 N5195q
  refine Gl.st (B := (T5195.setTop (mkF m 608 L0 [(.int (1 : Int32))]))) (fun t k => st5195 t k) ?_
  obtain ⟨L5196, hL5196⟩ : ∃ z : Array Slot, z = #[.val (.int p1), .val (.int p2), .val (.int p3), .val (.int p4), .val (.long q5), .second, .val (.int p6), .val (.int (0 : Int32)), .val (.int w8e), od9, od10, od11, od12, .val (.int y13_92_32), .val (.int y14_99_34), .val (.ref b37), .val (.ref b1044), .val (.ref b1065), od18, od19, .val (.ref b2092), .val (.ref b2097), .val (.int (1 : Int32))] := ⟨_, rfl⟩
  refine Gl.st (B := (T5195.setTop (mkF m 623 L5196 []))) (fun t k => XS.ifNo X5195.here hx rfl (hb hby at_608) rfl (by decide) (XS.iconst X5195.here hx rfl (hb hby at_611) (XS.goto X5195.here hx rfl (pc0 := 612) (pc' := 616) rfl (hb hby at_612) (by decide) (by decide) (XS.istore X5195.here hx rfl (hb hby at_616) rfl (l' := L5196) (stAt hL0 hL5196 rfl rfl) (XS.iload X5195.here hx rfl (hb hby at_618) (ldAt hL5196 rfl) (XS.ifNo X5195.here hx rfl (hb hby at_620) rfl (by decide) k)))))) ?_
  refine Gl.st (B := (T5195.setTop (mkF m 625 L5196 [(.ref b2092)]))) (fun t k => XS.aload X5195.here hx rfl (hb hby at_623) (ldAt hL5196 rfl) rfl k) ?_
  obtain ⟨T5197, X5197, e5197, st5197⟩ := getF X5195 hx hZ hown (host := "") (Or.inl (tw hw 117 rfl)) Via.refl eh5195 F_protocols_b2092 (g := (mkF m 625 L5196 [(.ref b2092)])) rfl rfl (hb hby at_625)
  refine Gl.st (B := (T5197.setTop (mkF m 628 L5196 [(.ref b1065)]))) st5197 ?_
  obtain ⟨L5198, hL5198⟩ : ∃ z : Array Slot, z = #[.val (.int p1), .val (.int p2), .val (.int p3), .val (.int p4), .val (.long q5), .second, .val (.int p6), .val (.int (0 : Int32)), .val (.int w8e), od9, od10, od11, od12, .val (.int y13_92_32), .val (.int y14_99_34), .val (.ref b37), .val (.ref b1044), .val (.ref b1065), od18, od19, .val (.ref b2092), .val (.ref b2097), .val (.int (1 : Int32))] := ⟨_, rfl⟩
  refine Gl.st (B := (T5197.setTop (mkF m 642 L5198 [(.int (0 : Int32))]))) (fun t k => XS.aload X5197.here hx rfl (hb hby at_628) (ldAt hL5196 rfl) rfl (Jvm.RoadKit.acmp (g := (mkF m 630 L5196 [(.ref b1065), (.ref b1065)])) X5197 hx rfl rfl rfl (pc0 := 630) (pc' := 633) (same := true) rfl (hb hby at_630) rfl (decide_eq_true rfl) (by decide) (by decide) (XS.iconst X5197.here hx rfl (hb hby at_633) (XS.goto X5197.here hx rfl (pc0 := 634) (pc' := 638) rfl (hb hby at_634) (by decide) (by decide) (XS.istore X5197.here hx rfl (hb hby at_638) rfl (l' := L5198) (stAt hL5196 hL5198 rfl rfl) (XS.iload X5197.here hx rfl (hb hby at_640) (ldAt hL5198 rfl) k)))))) ?_
  refine Gl.st (B := (T5197.setTop (mkF m 652 L5198 [(.ref b1065)]))) (fun t k => XS.ifNo X5197.here hx rfl (hb hby at_642) rfl (by decide) (XS.iload X5197.here hx rfl (hb hby at_645) (ldAt hL5198 rfl) (XS.ifNo X5197.here hx rfl (hb hby at_647) rfl (by decide) (XS.aload X5197.here hx rfl (hb hby at_650) (ldAt hL5198 rfl) rfl k)))) ?_
  obtain ⟨cq5199, kq5199, q5199a, q5199b, q5199c⟩ := isOf hZ e5197 E_b1065
  obtain ⟨_, _, ⟨T5199, L5199q, k5199, n5199⟩, -, X5199, ⟨Lc5199, hQ5199, l5199, y5199, z5199⟩, st5199⟩ := X5197.interfaceBack hx (xi := (⟨"java/util/List", "size", "()I"⟩ : MethodName)) (y := (⟨"java/util/ArrayList", "size", "()I"⟩ : MethodName)) hown (mvT hZ (tw hw 137 rfl)) (mvT hZ (tw hw 138 rfl)) (mvT hZ (tw hw 139 rfl)) (mvT hZ (tw hw 140 rfl)) (mvT hZ (tw hw 141 rfl)) (mvT hZ (tw hw 142 rfl)) (mvT hZ (tw hw 143 rfl)) (mvT hZ (tw hw 73 rfl)) (by decide) (backOf (W := 0) (rm19 l Z a0 hw [] b1065 (1 : Int32) h0 n0 Z0 F_size_b1065) hZ (tw hw 144 rfl) (tw hw 44 rfl) (by decide) (by decide)) q5199a q5199b q5199c (g := (mkF m 652 L5198 [(.ref b1065)])) rfl (szAt hml hL5198 rfl) (Steps.refl _) (argsL := []) (rest := []) (lenOf pd_0s582_5_1 rfl) rfl (by show 2 * 0 + _ ≤ _; exact Nat.le_of_eq rfl) (hb hby at_652) (fun _ _ => ⟨rfl, e5197, (by decide : 19 + 0 ≤ _), (by decide : 62 + 0 ≤ _)⟩)
  dsimp only [Pt.U, Pt.locs, Pt.cells, Pt.slots] at X5199 l5199 y5199 z5199 st5199 hQ5199
  subst l5199 y5199 z5199
  obtain ⟨rfl, N5199q, eh5199⟩ := hQ5199
  have N5199 := Fr.app N5195 N5199q
  refine Gl.st (B := (T5199.setTop (mkF m 657 L5198 [(.int (1 : Int32))]))) (fun t k => st5199.trans k) ?_
  refine Gl.st (B := (T5199.setTop (mkF m 664 L5198 [(.int (0 : Int32)), (.ref b1065)]))) (fun t k => XS.iconst X5199.here hx rfl (hb hby at_657) (XS.icmpNo X5199.here hx rfl (hb hby at_658) rfl (by decide) (XS.aload X5199.here hx rfl (hb hby at_661) (ldAt hL5198 rfl) rfl (XS.iconst X5199.here hx rfl (hb hby at_663) k)))) ?_
  obtain ⟨cq5200, kq5200, q5200a, q5200b, q5200c⟩ := isOf hZ eh5199 E_b1065
  obtain ⟨_, _, ⟨T5200, L5200q, k5200, n5200⟩, -, X5200, ⟨Lc5200, hQ5200, l5200, y5200, z5200⟩, st5200⟩ := X5199.interfaceBack hx (xi := (⟨"java/util/List", "get", "(I)Ljava/lang/Object;"⟩ : MethodName)) (y := (⟨"java/util/ArrayList", "get", "(I)Ljava/lang/Object;"⟩ : MethodName)) hown (mvT hZ (tw hw 145 rfl)) (mvT hZ (tw hw 146 rfl)) (mvT hZ (tw hw 147 rfl)) (mvT hZ (tw hw 148 rfl)) (mvT hZ (tw hw 149 rfl)) (mvT hZ (tw hw 150 rfl)) (mvT hZ (tw hw 151 rfl)) (mvT hZ (tw hw 73 rfl)) (by decide) (backOf (W := 0) (rm20 l Z a0 hw [] b1065 k1071_kx_t0 b1044 b1071_t0 h0 n0 Z0 V_b1071_t0 F_size_b1065 F_elementData_b1065 E_b1065) hZ (tw hw 152 rfl) (tw hw 44 rfl) (by decide) (by decide)) q5200a q5200b q5200c (g := (mkF m 664 L5198 [(.int (0 : Int32)), (.ref b1065)])) rfl (szAt hml hL5198 rfl) (Steps.refl _) (argsL := [(.int (0 : Int32))]) (rest := []) (lenOf pd_0s582_5_2 rfl) rfl (by show 2 * 0 + _ ≤ _; exact Nat.le_of_eq rfl) (hb hby at_664) (fun _ _ => ⟨rfl, eh5199, (by decide : 19 + 0 ≤ _), (by decide : 62 + 0 ≤ _)⟩)
  dsimp only [Pt.U, Pt.locs, Pt.cells, Pt.slots] at X5200 l5200 y5200 z5200 st5200 hQ5200
  subst l5200 y5200 z5200
  obtain ⟨rfl, N5200q, eh5200⟩ := hQ5200
  have N5200 := Fr.app N5199 N5200q
  refine Gl.st (B := (T5200.setTop (mkF m 669 L5198 [(.ref b1044)]))) (fun t k => st5200.trans k) ?_
  obtain ⟨L5201, hL5201⟩ : ∃ z : Array Slot, z = #[.val (.int p1), .val (.int p2), .val (.int p3), .val (.int p4), .val (.long q5), .second, .val (.int p6), .val (.int (0 : Int32)), .val (.int w8e), od9, od10, od11, od12, .val (.int y13_92_32), .val (.int y14_99_34), .val (.ref b37), .val (.ref b1044), .val (.ref b1065), od18, od19, .val (.ref b2092), .val (.ref b2097), .val (.int (1 : Int32))] := ⟨_, rfl⟩
  refine Gl.st (B := (T5200.setTop (mkF m 681 L5201 []))) (fun t k => XS.aload X5200.here hx rfl (hb hby at_669) (ldAt hL5198 rfl) rfl (Jvm.RoadKit.acmp (g := (mkF m 671 L5198 [(.ref b1044), (.ref b1044)])) X5200 hx rfl rfl rfl (pc0 := 671) (pc' := 674) (same := true) rfl (hb hby at_671) rfl (decide_eq_true rfl) (by decide) (by decide) (XS.iconst X5200.here hx rfl (hb hby at_674) (XS.goto X5200.here hx rfl (pc0 := 675) (pc' := 679) rfl (hb hby at_675) (by decide) (by decide) (XS.istore X5200.here hx rfl (hb hby at_679) rfl (l' := L5201) (stAt hL5198 hL5201 rfl rfl) k))))) ?_
  refine Gl.cast (B := (T5200.setTop (mkF m 681 #[.val (.int p1), .val (.int p2), .val (.int p3), .val (.int p4), .val (.long q5), .second, .val (.int p6), .val (.int (0 : Int32)), .val (.int w8e), od9, od10, od11, od12, .val (.int y13_92_32), .val (.int y14_99_34), .val (.ref b37), .val (.ref b1044), .val (.ref b1065), od18, od19, .val (.ref b2092), .val (.ref b2097), .val (.int (1 : Int32))] []))) (by rw [hL5201]) ?_
  exact sg_681_6 l Z a0 hw hx hby hml hret hlk hZ hown n0 p1 p2 p3 p4 q5 p6 (.val (.int (0 : Int32))) (.val (.int w8e)) (od9) (od10) (od11) (od12) (.val (.int y13_92_32)) (.val (.int y14_99_34)) (.val (.ref b37)) (.val (.ref b1044)) (.val (.ref b1065)) (od18) (od19) b2092 b2097 x257_2115 x265_2120 x276_2125 h0 (X5200.more (by decide) (by decide)) eh5200 N5200 Z0 F_sess2_b2092 hq694 F_reba3_b2092 hq705 F_sess4_b2092 hq720 E_b2092 F_pendingJoin_b2092 F_pendingSync_b2092
theorem pd_0s448_4_0 : parseMethodDescriptor "()Z" = some ⟨[], some .boolean⟩ := by decide +kernel
set_option maxRecDepth 65536 in
set_option maxHeartbeats 40000000 in
theorem sg_448_4 (l : Launch) (Z : State) (a0 : Array Value) (hw : ∀ d ∈ tables_1, d.before a0 Z = true) {p : Program} {e : Env} {s : State} {m : MethodId} {A0 : Array Value} {below : List Frame} {meth : Method} {c : Code} (hx : p.tables.exec = Jvm.exec) (hby : c.code = code) (hml : c.maxLocals = 23) (hret : meth.sig.returnType = ret) (hlk : meth.locks = false) (hZ : Z.Warmed39 s.vm) (hown : s.vm.findClass "com/example/limpet/limpet/group/MemberTakeOverPinLaw" = some m.cls) (n0 : Nat) (p1 : Int32) (p2 : Int32) (p3 : Int32) (p4 : Int32) (q5 : Int64) (p6 : Int32) (w8e : Int32) (b11_t0 : Addr) (b17_t0 : Addr) (b26_t0 : Addr) (y13_92_32 : Int32) (y14_99_34 : Int32) (b37 : Addr) (b1044 : Addr) (b1065 : Addr) (b1080 : Addr) (b2092 : Addr) (b2097 : Addr) (b1071_t0 : Addr) (x257_2115 : Int32) (x265_2120 : Int32) (x276_2125 : Int64) (k37 : ClassId) (nra : Int32) (vra : List Value) (k1071_kx_t0 : ClassId) {T0 : State} {Lc : List Loc} (h0 : Heap) (X0 : Stand p l e room_1 s m A0 below meth c T0 Lc 19 62) (e0 : T0.heap = h0) (N0 : Fr n0 Lc) (Z0 : n0 ≤ h0.size) (F_id_b2097 : Fld Z h0 b2097 "com/example/limpet/limpet/group/Member" "id" "Ljava/lang/String;" (.ref b11_t0)) (F_instanceId_b2097 : Fld Z h0 b2097 "com/example/limpet/limpet/group/Member" "instanceId" "Ljava/lang/String;" (.ref b26_t0)) (F_sess2_b2097 : Fld Z h0 b2097 "com/example/limpet/limpet/group/Member" "sessionTimeoutMs" "I" (.int p3)) (F_reba3_b2097 : Fld Z h0 b2097 "com/example/limpet/limpet/group/Member" "rebalanceTimeoutMs" "I" (.int p4)) (F_sess4_b2097 : Fld Z h0 b2097 "com/example/limpet/limpet/group/Member" "sessionDeadline" "J" (.long q5)) (E_b2097 : Exa Z h0 b2097 "com/example/limpet/limpet/group/Member") (F_pendingJoin_b2097 : Fld Z h0 b2097 "com/example/limpet/limpet/group/Member" "pendingJoin" "Ljava/util/function/Consumer;" .null) (F_pendingSync_b2097 : Fld Z h0 b2097 "com/example/limpet/limpet/group/Member" "pendingSync" "Ljava/util/function/Consumer;" .null) (F_id_b2092 : Fld Z h0 b2092 "com/example/limpet/limpet/group/Member" "id" "Ljava/lang/String;" (.ref b17_t0)) (F_instanceId_b2092 : Fld Z h0 b2092 "com/example/limpet/limpet/group/Member" "instanceId" "Ljava/lang/String;" (.ref b26_t0)) (F_generation_b2092 : Fld Z h0 b2092 "com/example/limpet/limpet/group/Member" "generation" "I" (.int p1)) (F_assignment_b2092 : Fld Z h0 b2092 "com/example/limpet/limpet/group/Member" "assignment" "[B" (.ref b37)) (F_protocols_b2092 : Fld Z h0 b2092 "com/example/limpet/limpet/group/Member" "protocols" "Ljava/util/List;" (.ref b1065)) (F_size_b1065 : Fld Z h0 b1065 "java/util/ArrayList" "size" "I" (.int (1 : Int32))) (F_elementData_b1065 : Fld Z h0 b1065 "java/util/ArrayList" "elementData" "[Ljava/lang/Object;" (.ref b1071_t0)) (F_sess2_b2092 : Fld Z h0 b2092 "com/example/limpet/limpet/group/Member" "sessionTimeoutMs" "I" (.int x257_2115)) (F_reba3_b2092 : Fld Z h0 b2092 "com/example/limpet/limpet/group/Member" "rebalanceTimeoutMs" "I" (.int x265_2120)) (F_sess4_b2092 : Fld Z h0 b2092 "com/example/limpet/limpet/group/Member" "sessionDeadline" "J" (.long x276_2125)) (F_pendingJoin_b2092 : Fld Z h0 b2092 "com/example/limpet/limpet/group/Member" "pendingJoin" "Ljava/util/function/Consumer;" .null) (F_pendingSync_b2092 : Fld Z h0 b2092 "com/example/limpet/limpet/group/Member" "pendingSync" "Ljava/util/function/Consumer;" .null) (V_b37 : Arv Z h0 b37 k37 .byte nra vra (.int (0 : Int32))) (V_b1071_t0 : Arv Z h0 b1071_t0 k1071_kx_t0 (.object "java/lang/Object") (10 : Int32) [(.ref b1044), .null, .null, .null, .null, .null, .null, .null, .null, .null] .null) (O_b1071_t0 : Ovr Z k1071_kx_t0 "java/lang/Object") (hr605_hE : (w8e = (1 : Int32) ∧ nra = (0 : Int32) ∧ vra = []) ∨ (w8e = (0 : Int32) ∧ nra = (2 : Int32) ∧ vra = [(.int y13_92_32), (.int y14_99_34)])) (E_b1065 : Exa Z h0 b1065 "java/util/ArrayList") (hq694 : x257_2115 = (p3 ^^^ (-1 : Int32))) (hq705 : x265_2120 = (p4 ^^^ (-1 : Int32))) (hq720 : x276_2125 = (q5 ^^^ (-1 : Int64))) (E_b2092 : Exa Z h0 b2092 "com/example/limpet/limpet/group/Member") :
    Gl p e below (fun o U' => ∃ v L, o = .returned v ∧ (v = some (.int (1 : Int32)) ∧ Fr n0 L) ∧ FrameEnd s o U' L room_1.cells room_1.slots) (T0.setTop (mkF m 448 #[.val (.int p1), .val (.int p2), .val (.int p3), .val (.int p4), .val (.long q5), .second, .val (.int p6), .val (.int (0 : Int32)), .val (.int w8e), od9, .val (.ref b11_t0), .val (.ref b17_t0), .val (.ref b26_t0), .val (.int y13_92_32), .val (.int y14_99_34), .val (.ref b37), .val (.ref b1044), .val (.ref b1065), .val (.ref b1080), od19, .val (.ref b2092), .val (.ref b2097), .val (.int (1 : Int32))] [])) := by
  obtain ⟨L0, hL0⟩ : ∃ z : Array Slot, z = #[.val (.int p1), .val (.int p2), .val (.int p3), .val (.int p4), .val (.long q5), .second, .val (.int p6), .val (.int (0 : Int32)), .val (.int w8e), od9, .val (.ref b11_t0), .val (.ref b17_t0), .val (.ref b26_t0), .val (.int y13_92_32), .val (.int y14_99_34), .val (.ref b37), .val (.ref b1044), .val (.ref b1065), .val (.ref b1080), od19, .val (.ref b2092), .val (.ref b2097), .val (.int (1 : Int32))] := ⟨_, rfl⟩
  refine Gl.cast (B := (T0.setTop (mkF m 448 L0 []))) (by rw [hL0]) ?_
  refine Gl.st (B := (T0.setTop (mkF m 455 L0 [(.ref b2097)]))) (fun t k => XS.iload X0.here hx rfl (hb hby at_448) (ldAt hL0 rfl) (XS.ifNo X0.here hx rfl (hb hby at_450) rfl (by decide) (XS.aload X0.here hx rfl (hb hby at_453) (ldAt hL0 rfl) rfl k))) ?_
  obtain ⟨T4180, X4180, e4180, st4180⟩ := getF X0 hx hZ hown (host := "") (Or.inl (tw hw 166 rfl)) Via.refl e0 F_id_b2097 (g := (mkF m 455 L0 [(.ref b2097)])) rfl rfl (hb hby at_455)
  refine Gl.st (B := (T4180.setTop (mkF m 458 L0 [(.ref b11_t0)]))) st4180 ?_
  refine Gl.st (B := (T4180.setTop (mkF m 465 L0 [(.ref b2097)]))) (fun t k => XS.aload X4180.here hx rfl (hb hby at_458) (ldAt hL0 rfl) rfl (Jvm.RoadKit.acmp (g := (mkF m 460 L0 [(.ref b11_t0), (.ref b11_t0)])) X4180 hx rfl rfl rfl (pc0 := 460) (pc' := 463) (same := true) rfl (hb hby at_460) rfl (decide_eq_true rfl) (by decide) (by decide) (XS.aload X4180.here hx rfl (hb hby at_463) (ldAt hL0 rfl) rfl k))) ?_
  obtain ⟨T4181, X4181, e4181, st4181⟩ := getF X4180 hx hZ hown (host := "") (Or.inl (tw hw 167 rfl)) Via.refl e4180 F_instanceId_b2097 (g := (mkF m 465 L0 [(.ref b2097)])) rfl rfl (hb hby at_465)
  refine Gl.st (B := (T4181.setTop (mkF m 468 L0 [(.ref b26_t0)]))) st4181 ?_
  obtain ⟨L4182, hL4182⟩ : ∃ z : Array Slot, z = #[.val (.int p1), .val (.int p2), .val (.int p3), .val (.int p4), .val (.long q5), .second, .val (.int p6), .val (.int (0 : Int32)), .val (.int w8e), od9, .val (.ref b11_t0), .val (.ref b17_t0), .val (.ref b26_t0), .val (.int y13_92_32), .val (.int y14_99_34), .val (.ref b37), .val (.ref b1044), .val (.ref b1065), .val (.ref b1080), od19, .val (.ref b2092), .val (.ref b2097), .val (.int (1 : Int32))] := ⟨_, rfl⟩
  refine Gl.st (B := (T4181.setTop (mkF m 482 L4182 [(.int (1 : Int32))]))) (fun t k => XS.aload X4181.here hx rfl (hb hby at_468) (ldAt hL0 rfl) rfl (Jvm.RoadKit.acmp (g := (mkF m 470 L0 [(.ref b26_t0), (.ref b26_t0)])) X4181 hx rfl rfl rfl (pc0 := 470) (pc' := 473) (same := true) rfl (hb hby at_470) rfl (decide_eq_true rfl) (by decide) (by decide) (XS.iconst X4181.here hx rfl (hb hby at_473) (XS.goto X4181.here hx rfl (pc0 := 474) (pc' := 478) rfl (hb hby at_474) (by decide) (by decide) (XS.istore X4181.here hx rfl (hb hby at_478) rfl (l' := L4182) (stAt hL0 hL4182 rfl rfl) (XS.iload X4181.here hx rfl (hb hby at_480) (ldAt hL4182 rfl) k)))))) ?_
  refine Gl.st (B := (T4181.setTop (mkF m 487 L4182 [(.ref b2097)]))) (fun t k => XS.ifNo X4181.here hx rfl (hb hby at_482) rfl (by decide) (XS.aload X4181.here hx rfl (hb hby at_485) (ldAt hL4182 rfl) rfl k)) ?_
  obtain ⟨T4183, X4183, e4183, st4183⟩ := getF X4181 hx hZ hown (host := "") (Or.inl (tw hw 119 rfl)) Via.refl e4181 F_sess2_b2097 (g := (mkF m 487 L4182 [(.ref b2097)])) rfl rfl (hb hby at_487)
  refine Gl.st (B := (T4183.setTop (mkF m 490 L4182 [(.int p3)]))) st4183 ?_
  refine Gl.st (B := (T4183.setTop (mkF m 496 L4182 [(.ref b2097)]))) (fun t k => XS.iloadN X4183.here hx rfl (hb hby at_490) (ldAt hL4182 rfl) (XS.icmpNo X4183.here hx rfl (hb hby at_491) rfl (teq rfl).2 (XS.aload X4183.here hx rfl (hb hby at_494) (ldAt hL4182 rfl) rfl k))) ?_
  obtain ⟨T4184, X4184, e4184, st4184⟩ := getF X4183 hx hZ hown (host := "") (Or.inl (tw hw 121 rfl)) Via.refl e4183 F_reba3_b2097 (g := (mkF m 496 L4182 [(.ref b2097)])) rfl rfl (hb hby at_496)
  refine Gl.st (B := (T4184.setTop (mkF m 499 L4182 [(.int p4)]))) st4184 ?_
  refine Gl.st (B := (T4184.setTop (mkF m 505 L4182 [(.ref b2097)]))) (fun t k => XS.iloadN X4184.here hx rfl (hb hby at_499) (ldAt hL4182 rfl) (XS.icmpNo X4184.here hx rfl (hb hby at_500) rfl (teq rfl).2 (XS.aload X4184.here hx rfl (hb hby at_503) (ldAt hL4182 rfl) rfl k))) ?_
  obtain ⟨T4185, X4185, e4185, st4185⟩ := getF X4184 hx hZ hown (host := "") (Or.inl (tw hw 124 rfl)) Via.refl e4184 F_sess4_b2097 (g := (mkF m 505 L4182 [(.ref b2097)])) rfl rfl (hb hby at_505)
  refine Gl.st (B := (T4185.setTop (mkF m 508 L4182 [(.long q5)]))) st4185 ?_
  refine Gl.st (B := (T4185.setTop (mkF m 511 L4182 [(.int (lcmpW q5 q5))]))) (fun t k => XS.lload X4185.here hx rfl (hb hby at_508) (ldAt hL4182 rfl) (XS.lcmp X4185.here hx rfl (hb hby at_510) rfl k)) ?_
  have hc511_4186 : q5 = q5 := by
    rfl
  obtain ⟨L4187, hL4187⟩ : ∃ z : Array Slot, z = #[.val (.int p1), .val (.int p2), .val (.int p3), .val (.int p4), .val (.long q5), .second, .val (.int p6), .val (.int (0 : Int32)), .val (.int w8e), od9, .val (.ref b11_t0), .val (.ref b17_t0), .val (.ref b26_t0), .val (.int y13_92_32), .val (.int y14_99_34), .val (.ref b37), .val (.ref b1044), .val (.ref b1065), .val (.ref b1080), od19, .val (.ref b2092), .val (.ref b2097), .val (.int (1 : Int32))] := ⟨_, rfl⟩
  refine Gl.st (B := (T4185.setTop (mkF m 526 L4187 []))) (fun t k => XS.ifNo X4185.here hx rfl (hb hby at_511) rfl ((if0 _ _).trans (teq ((lw_eq q5 q5).mpr hc511_4186)).2) (XS.iconst X4185.here hx rfl (hb hby at_514) (XS.goto X4185.here hx rfl (pc0 := 515) (pc' := 519) rfl (hb hby at_515) (by decide) (by decide) (XS.istore X4185.here hx rfl (hb hby at_519) rfl (l' := L4187) (stAt hL4182 hL4187 rfl rfl) (XS.iload X4185.here hx rfl (hb hby at_521) (ldAt hL4187 rfl) (XS.ifNo X4185.here hx rfl (hb hby at_523) rfl (by decide) k)))))) ?_
  refine Gl.st (B := (T4185.setTop (mkF m 528 L4187 [(.ref b2097)]))) (fun t k => XS.aload X4185.here hx rfl (hb hby at_526) (ldAt hL4187 rfl) rfl k) ?_
  obtain ⟨cq4188, kq4188, q4188a, q4188b, q4188c⟩ := isOf hZ e4185 E_b2097
  obtain ⟨_, _, ⟨T4188, L4188q, k4188, n4188⟩, -, X4188, ⟨Lc4188, hQ4188, l4188, y4188, z4188⟩, st4188⟩ := X4185.virtualBack hx (y := (⟨"com/example/limpet/limpet/group/Member", "isWaiting", "()Z"⟩ : MethodName)) (z := (⟨"com/example/limpet/limpet/group/Member", "isWaiting", "()Z"⟩ : MethodName)) hown (mvT hZ (tw hw 168 rfl)) (mvT hZ (tw hw 169 rfl)) (notFace_of_selects (args := #[]) (mvT hZ (tw hw 171 rfl))) (mvT hZ (tw hw 171 rfl)) (mvT hZ (tw hw 170 rfl)) (by decide) (backOf (W := 0) (rm24 l Z a0 hw [] b2097 h0 n0 Z0 F_pendingJoin_b2097 F_pendingSync_b2097) hZ (tw hw 172 rfl) (tw hw 103 rfl) (by decide) (by decide)) q4188a q4188c (g := (mkF m 528 L4187 [(.ref b2097)])) rfl (szAt hml hL4187 rfl) (Steps.refl _) (argsL := []) (rest := []) (lenOf pd_0s448_4_0 rfl) rfl (by show 2 * 0 + _ ≤ _; exact Nat.le_of_eq rfl) (hb hby at_528) (fun _ _ => ⟨rfl, e4185, (by decide : 19 + 0 ≤ _), (by decide : 62 + 0 ≤ _)⟩)
  dsimp only [Pt.U, Pt.locs, Pt.cells, Pt.slots] at X4188 l4188 y4188 z4188 st4188 hQ4188
  subst l4188 y4188 z4188
  obtain ⟨rfl, N4188q, eh4188⟩ := hQ4188
  have N4188 := Fr.app N0 N4188q
  refine Gl.st (B := (T4188.setTop (mkF m 531 L4187 [(.int (0 : Int32))]))) (fun t k => st4188.trans k) ?_
  obtain ⟨L4189, hL4189⟩ : ∃ z : Array Slot, z = #[.val (.int p1), .val (.int p2), .val (.int p3), .val (.int p4), .val (.long q5), .second, .val (.int p6), .val (.int (0 : Int32)), .val (.int w8e), od9, .val (.ref b11_t0), .val (.ref b17_t0), .val (.ref b26_t0), .val (.int y13_92_32), .val (.int y14_99_34), .val (.ref b37), .val (.ref b1044), .val (.ref b1065), .val (.ref b1080), od19, .val (.ref b2092), .val (.ref b2097), .val (.int (1 : Int32))] := ⟨_, rfl⟩
  refine Gl.st (B := (T4188.setTop (mkF m 546 L4189 []))) (fun t k => XS.ifNo X4188.here hx rfl (hb hby at_531) rfl (by decide) (XS.iconst X4188.here hx rfl (hb hby at_534) (XS.goto X4188.here hx rfl (pc0 := 535) (pc' := 539) rfl (hb hby at_535) (by decide) (by decide) (XS.istore X4188.here hx rfl (hb hby at_539) rfl (l' := L4189) (stAt hL4187 hL4189 rfl rfl) (XS.iload X4188.here hx rfl (hb hby at_541) (ldAt hL4189 rfl) (XS.ifNo X4188.here hx rfl (hb hby at_543) rfl (by decide) k)))))) ?_
  refine Gl.st (B := (T4188.setTop (mkF m 548 L4189 [(.ref b2092)]))) (fun t k => XS.aload X4188.here hx rfl (hb hby at_546) (ldAt hL4189 rfl) rfl k) ?_
  obtain ⟨T4190, X4190, e4190, st4190⟩ := getF X4188 hx hZ hown (host := "") (Or.inl (tw hw 166 rfl)) Via.refl eh4188 F_id_b2092 (g := (mkF m 548 L4189 [(.ref b2092)])) rfl rfl (hb hby at_548)
  refine Gl.st (B := (T4190.setTop (mkF m 551 L4189 [(.ref b17_t0)]))) st4190 ?_
  refine Gl.st (B := (T4190.setTop (mkF m 558 L4189 [(.ref b2092)]))) (fun t k => XS.aload X4190.here hx rfl (hb hby at_551) (ldAt hL4189 rfl) rfl (Jvm.RoadKit.acmp (g := (mkF m 553 L4189 [(.ref b17_t0), (.ref b17_t0)])) X4190 hx rfl rfl rfl (pc0 := 553) (pc' := 556) (same := true) rfl (hb hby at_553) rfl (decide_eq_true rfl) (by decide) (by decide) (XS.aload X4190.here hx rfl (hb hby at_556) (ldAt hL4189 rfl) rfl k))) ?_
  obtain ⟨T4191, X4191, e4191, st4191⟩ := getF X4190 hx hZ hown (host := "") (Or.inl (tw hw 167 rfl)) Via.refl e4190 F_instanceId_b2092 (g := (mkF m 558 L4189 [(.ref b2092)])) rfl rfl (hb hby at_558)
  refine Gl.st (B := (T4191.setTop (mkF m 561 L4189 [(.ref b26_t0)]))) st4191 ?_
  refine Gl.st (B := (T4191.setTop (mkF m 568 L4189 [(.ref b2092)]))) (fun t k => XS.aload X4191.here hx rfl (hb hby at_561) (ldAt hL4189 rfl) rfl (Jvm.RoadKit.acmp (g := (mkF m 563 L4189 [(.ref b26_t0), (.ref b26_t0)])) X4191 hx rfl rfl rfl (pc0 := 563) (pc' := 566) (same := true) rfl (hb hby at_563) rfl (decide_eq_true rfl) (by decide) (by decide) (XS.aload X4191.here hx rfl (hb hby at_566) (ldAt hL4189 rfl) rfl k))) ?_
  obtain ⟨T4192, X4192, e4192, st4192⟩ := getF X4191 hx hZ hown (host := "") (Or.inl (tw hw 114 rfl)) Via.refl e4191 F_generation_b2092 (g := (mkF m 568 L4189 [(.ref b2092)])) rfl rfl (hb hby at_568)
  refine Gl.st (B := (T4192.setTop (mkF m 571 L4189 [(.int p1)]))) st4192 ?_
  obtain ⟨L4193, hL4193⟩ : ∃ z : Array Slot, z = #[.val (.int p1), .val (.int p2), .val (.int p3), .val (.int p4), .val (.long q5), .second, .val (.int p6), .val (.int (0 : Int32)), .val (.int w8e), od9, .val (.ref b11_t0), .val (.ref b17_t0), .val (.ref b26_t0), .val (.int y13_92_32), .val (.int y14_99_34), .val (.ref b37), .val (.ref b1044), .val (.ref b1065), .val (.ref b1080), od19, .val (.ref b2092), .val (.ref b2097), .val (.int (1 : Int32))] := ⟨_, rfl⟩
  refine Gl.st (B := (T4192.setTop (mkF m 582 L4193 []))) (fun t k => XS.iloadN X4192.here hx rfl (hb hby at_571) (ldAt hL4189 rfl) (XS.icmpNo X4192.here hx rfl (hb hby at_572) rfl (teq rfl).2 (XS.iconst X4192.here hx rfl (hb hby at_575) (XS.goto X4192.here hx rfl (pc0 := 576) (pc' := 580) rfl (hb hby at_576) (by decide) (by decide) (XS.istore X4192.here hx rfl (hb hby at_580) rfl (l' := L4193) (stAt hL4189 hL4193 rfl rfl) k))))) ?_
  refine Gl.cast (B := (T4192.setTop (mkF m 582 #[.val (.int p1), .val (.int p2), .val (.int p3), .val (.int p4), .val (.long q5), .second, .val (.int p6), .val (.int (0 : Int32)), .val (.int w8e), od9, .val (.ref b11_t0), .val (.ref b17_t0), .val (.ref b26_t0), .val (.int y13_92_32), .val (.int y14_99_34), .val (.ref b37), .val (.ref b1044), .val (.ref b1065), .val (.ref b1080), od19, .val (.ref b2092), .val (.ref b2097), .val (.int (1 : Int32))] []))) (by rw [hL4193]) ?_
  exact sg_582_5 l Z a0 hw hx hby hml hret hlk hZ hown n0 p1 p2 p3 p4 q5 p6 w8e (od9) (.val (.ref b11_t0)) (.val (.ref b17_t0)) (.val (.ref b26_t0)) y13_92_32 y14_99_34 b37 b1044 b1065 (.val (.ref b1080)) (od19) b2092 b2097 k37 nra vra b1071_t0 k1071_kx_t0 x257_2115 x265_2120 x276_2125 h0 (X4192.more (by decide) (by decide)) e4192 N4188 Z0 F_assignment_b2092 V_b37 hr605_hE F_protocols_b2092 E_b1065 F_size_b1065 F_elementData_b1065 V_b1071_t0 O_b1071_t0 F_sess2_b2092 F_reba3_b2092 F_sess4_b2092 F_pendingJoin_b2092 F_pendingSync_b2092 hq694 hq705 hq720 E_b2092
theorem pd_0s325_3_0 : parseMethodDescriptor "([BZBB)Z" = some ⟨[(.array .byte), .boolean, .byte, .byte], some .boolean⟩ := by decide +kernel
theorem pd_0s325_3_1 : parseMethodDescriptor "()I" = some ⟨[], some .int⟩ := by decide +kernel
theorem pd_0s325_3_2 : parseMethodDescriptor "(I)Ljava/lang/Object;" = some ⟨[.int], some (.object "java/lang/Object")⟩ := by decide +kernel
set_option maxRecDepth 65536 in
set_option maxHeartbeats 40000000 in
theorem sg_325_3 (l : Launch) (Z : State) (a0 : Array Value) (hw : ∀ d ∈ tables_1, d.before a0 Z = true) {p : Program} {e : Env} {s : State} {m : MethodId} {A0 : Array Value} {below : List Frame} {meth : Method} {c : Code} (hx : p.tables.exec = Jvm.exec) (hby : c.code = code) (hml : c.maxLocals = 23) (hret : meth.sig.returnType = ret) (hlk : meth.locks = false) (hZ : Z.Warmed39 s.vm) (hown : s.vm.findClass "com/example/limpet/limpet/group/MemberTakeOverPinLaw" = some m.cls) (n0 : Nat) (p1 : Int32) (p2 : Int32) (p3 : Int32) (p4 : Int32) (q5 : Int64) (p6 : Int32) (w8e : Int32) (b11_t0 : Addr) (b17_t0 : Addr) (b26_t0 : Addr) (y13_92_32 : Int32) (y14_99_34 : Int32) (b37 : Addr) (b1044 : Addr) (b1065 : Addr) (b1080 : Addr) (od19 : Slot) (b2092 : Addr) (b2097 : Addr) (k37 : ClassId) (nra : Int32) (vra : List Value) (b1071_t0 : Addr) (k1071_kx_t0 : ClassId) (x257_2115 : Int32) (x265_2120 : Int32) (x276_2125 : Int64) {T0 : State} {Lc : List Loc} (h0 : Heap) (X0 : Stand p l e room_1 s m A0 below meth c T0 Lc 19 62) (e0 : T0.heap = h0) (N0 : Fr n0 Lc) (Z0 : n0 ≤ h0.size) (F_generation_b2097 : Fld Z h0 b2097 "com/example/limpet/limpet/group/Member" "generation" "I" (.int p1)) (F_assignment_b2097 : Fld Z h0 b2097 "com/example/limpet/limpet/group/Member" "assignment" "[B" (.ref b37)) (V_b37 : Arv Z h0 b37 k37 .byte nra vra (.int (0 : Int32))) (hr357_hE : (w8e = (1 : Int32) ∧ nra = (0 : Int32) ∧ vra = []) ∨ (w8e = (0 : Int32) ∧ nra = (2 : Int32) ∧ vra = [(.int y13_92_32), (.int y14_99_34)])) (F_protocols_b2097 : Fld Z h0 b2097 "com/example/limpet/limpet/group/Member" "protocols" "Ljava/util/List;" (.ref b1065)) (E_b1065 : Exa Z h0 b1065 "java/util/ArrayList") (F_size_b1065 : Fld Z h0 b1065 "java/util/ArrayList" "size" "I" (.int (1 : Int32))) (F_elementData_b1065 : Fld Z h0 b1065 "java/util/ArrayList" "elementData" "[Ljava/lang/Object;" (.ref b1071_t0)) (V_b1071_t0 : Arv Z h0 b1071_t0 k1071_kx_t0 (.object "java/lang/Object") (10 : Int32) [(.ref b1044), .null, .null, .null, .null, .null, .null, .null, .null, .null] .null) (O_b1071_t0 : Ovr Z k1071_kx_t0 "java/lang/Object") (F_id_b2097 : Fld Z h0 b2097 "com/example/limpet/limpet/group/Member" "id" "Ljava/lang/String;" (.ref b11_t0)) (F_instanceId_b2097 : Fld Z h0 b2097 "com/example/limpet/limpet/group/Member" "instanceId" "Ljava/lang/String;" (.ref b26_t0)) (F_sess2_b2097 : Fld Z h0 b2097 "com/example/limpet/limpet/group/Member" "sessionTimeoutMs" "I" (.int p3)) (F_reba3_b2097 : Fld Z h0 b2097 "com/example/limpet/limpet/group/Member" "rebalanceTimeoutMs" "I" (.int p4)) (F_sess4_b2097 : Fld Z h0 b2097 "com/example/limpet/limpet/group/Member" "sessionDeadline" "J" (.long q5)) (F_pendingJoin_b2097 : Fld Z h0 b2097 "com/example/limpet/limpet/group/Member" "pendingJoin" "Ljava/util/function/Consumer;" .null) (F_pendingSync_b2097 : Fld Z h0 b2097 "com/example/limpet/limpet/group/Member" "pendingSync" "Ljava/util/function/Consumer;" .null) (F_id_b2092 : Fld Z h0 b2092 "com/example/limpet/limpet/group/Member" "id" "Ljava/lang/String;" (.ref b17_t0)) (F_instanceId_b2092 : Fld Z h0 b2092 "com/example/limpet/limpet/group/Member" "instanceId" "Ljava/lang/String;" (.ref b26_t0)) (F_generation_b2092 : Fld Z h0 b2092 "com/example/limpet/limpet/group/Member" "generation" "I" (.int p1)) (F_assignment_b2092 : Fld Z h0 b2092 "com/example/limpet/limpet/group/Member" "assignment" "[B" (.ref b37)) (F_protocols_b2092 : Fld Z h0 b2092 "com/example/limpet/limpet/group/Member" "protocols" "Ljava/util/List;" (.ref b1065)) (F_sess2_b2092 : Fld Z h0 b2092 "com/example/limpet/limpet/group/Member" "sessionTimeoutMs" "I" (.int x257_2115)) (F_reba3_b2092 : Fld Z h0 b2092 "com/example/limpet/limpet/group/Member" "rebalanceTimeoutMs" "I" (.int x265_2120)) (F_sess4_b2092 : Fld Z h0 b2092 "com/example/limpet/limpet/group/Member" "sessionDeadline" "J" (.long x276_2125)) (F_pendingJoin_b2092 : Fld Z h0 b2092 "com/example/limpet/limpet/group/Member" "pendingJoin" "Ljava/util/function/Consumer;" .null) (F_pendingSync_b2092 : Fld Z h0 b2092 "com/example/limpet/limpet/group/Member" "pendingSync" "Ljava/util/function/Consumer;" .null) (E_b2097 : Exa Z h0 b2097 "com/example/limpet/limpet/group/Member") (hr605_hE : (w8e = (1 : Int32) ∧ nra = (0 : Int32) ∧ vra = []) ∨ (w8e = (0 : Int32) ∧ nra = (2 : Int32) ∧ vra = [(.int y13_92_32), (.int y14_99_34)])) (hq694 : x257_2115 = (p3 ^^^ (-1 : Int32))) (hq705 : x265_2120 = (p4 ^^^ (-1 : Int32))) (hq720 : x276_2125 = (q5 ^^^ (-1 : Int64))) (E_b2092 : Exa Z h0 b2092 "com/example/limpet/limpet/group/Member") :
    Gl p e below (fun o U' => ∃ v L, o = .returned v ∧ (v = some (.int (1 : Int32)) ∧ Fr n0 L) ∧ FrameEnd s o U' L room_1.cells room_1.slots) (T0.setTop (mkF m 325 #[.val (.int p1), .val (.int p2), .val (.int p3), .val (.int p4), .val (.long q5), .second, .val (.int p6), .val (.int (0 : Int32)), .val (.int w8e), od9, .val (.ref b11_t0), .val (.ref b17_t0), .val (.ref b26_t0), .val (.int y13_92_32), .val (.int y14_99_34), .val (.ref b37), .val (.ref b1044), .val (.ref b1065), .val (.ref b1080), od19, .val (.ref b2092), .val (.ref b2097), .unset] [])) := by
  obtain ⟨L0, hL0⟩ : ∃ z : Array Slot, z = #[.val (.int p1), .val (.int p2), .val (.int p3), .val (.int p4), .val (.long q5), .second, .val (.int p6), .val (.int (0 : Int32)), .val (.int w8e), od9, .val (.ref b11_t0), .val (.ref b17_t0), .val (.ref b26_t0), .val (.int y13_92_32), .val (.int y14_99_34), .val (.ref b37), .val (.ref b1044), .val (.ref b1065), .val (.ref b1080), od19, .val (.ref b2092), .val (.ref b2097), .unset] := ⟨_, rfl⟩
  refine Gl.cast (B := (T0.setTop (mkF m 325 L0 []))) (by rw [hL0]) ?_
  refine Gl.st (B := (T0.setTop (mkF m 327 L0 [(.ref b2097)]))) (fun t k => XS.aload X0.here hx rfl (hb hby at_325) (ldAt hL0 rfl) rfl k) ?_
  obtain ⟨T3169, X3169, e3169, st3169⟩ := getF X0 hx hZ hown (host := "") (Or.inl (tw hw 114 rfl)) Via.refl e0 F_generation_b2097 (g := (mkF m 327 L0 [(.ref b2097)])) rfl rfl (hb hby at_327)
  refine Gl.st (B := (T3169.setTop (mkF m 330 L0 [(.int p1)]))) st3169 ?_
  obtain ⟨L3170, hL3170⟩ : ∃ z : Array Slot, z = #[.val (.int p1), .val (.int p2), .val (.int p3), .val (.int p4), .val (.long q5), .second, .val (.int p6), .val (.int (0 : Int32)), .val (.int w8e), od9, .val (.ref b11_t0), .val (.ref b17_t0), .val (.ref b26_t0), .val (.int y13_92_32), .val (.int y14_99_34), .val (.ref b37), .val (.ref b1044), .val (.ref b1065), .val (.ref b1080), od19, .val (.ref b2092), .val (.ref b2097), .val (.int (1 : Int32))] := ⟨_, rfl⟩
  refine Gl.st (B := (T3169.setTop (mkF m 343 L3170 [(.int (1 : Int32))]))) (fun t k => XS.iloadN X3169.here hx rfl (hb hby at_330) (ldAt hL0 rfl) (XS.icmpNo X3169.here hx rfl (hb hby at_331) rfl (teq rfl).2 (XS.iconst X3169.here hx rfl (hb hby at_334) (XS.goto X3169.here hx rfl (pc0 := 335) (pc' := 339) rfl (hb hby at_335) (by decide) (by decide) (XS.istore X3169.here hx rfl (hb hby at_339) rfl (l' := L3170) (stAt hL0 hL3170 rfl rfl) (XS.iload X3169.here hx rfl (hb hby at_341) (ldAt hL3170 rfl) k)))))) ?_
  refine Gl.st (B := (T3169.setTop (mkF m 348 L3170 [(.ref b2097)]))) (fun t k => XS.ifNo X3169.here hx rfl (hb hby at_343) rfl (by decide) (XS.aload X3169.here hx rfl (hb hby at_346) (ldAt hL3170 rfl) rfl k)) ?_
  obtain ⟨T3171, X3171, e3171, st3171⟩ := getF X3169 hx hZ hown (host := "") (Or.inl (tw hw 116 rfl)) Via.refl e3169 F_assignment_b2097 (g := (mkF m 348 L3170 [(.ref b2097)])) rfl rfl (hb hby at_348)
  refine Gl.st (B := (T3171.setTop (mkF m 351 L3170 [(.ref b37)]))) st3171 ?_
  refine Gl.st (B := (T3171.setTop (mkF m 357 L3170 [(.int y14_99_34), (.int y13_92_32), (.int w8e), (.ref b37)]))) (fun t k => XS.iload X3171.here hx rfl (hb hby at_351) (ldAt hL3170 rfl) (XS.iload X3171.here hx rfl (hb hby at_353) (ldAt hL3170 rfl) (XS.iload X3171.here hx rfl (hb hby at_355) (ldAt hL3170 rfl) k))) ?_
  obtain ⟨_, _, ⟨T3172, L3172q, k3172, n3172⟩, -, X3172, ⟨Lc3172, hQ3172, l3172, y3172, z3172⟩, st3172⟩ := Jvm.LawKit.callS X3171 hx (y := (⟨"com/example/limpet/limpet/group/MemberTakeOverPinLaw", "sameAssignment", "([BZBB)Z"⟩ : MethodName)) hown (mvT hZ (tw hw 133 rfl)) (mvT hZ (tw hw 134 rfl)) (mvT hZ (tw hw 135 rfl)) (mvT hZ (tw hw 136 rfl)) (by decide) (backOf (W := 0) (rm18g l Z a0 hw [] b37 w8e y13_92_32 y14_99_34 k37 nra vra h0 n0 Z0 V_b37 hr357_hE) hZ (tw hw 136 rfl) (tw hw 135 rfl) (by decide) (by decide)) (g := (mkF m 357 L3170 [(.int y14_99_34), (.int y13_92_32), (.int w8e), (.ref b37)])) rfl (szAt hml hL3170 rfl) (argsL := [(.ref b37), (.int w8e), (.int y13_92_32), (.int y14_99_34)]) (rest := []) (lenOf pd_0s325_3_0 rfl) rfl (by show 2 * 0 + _ ≤ _; exact Nat.le_of_eq rfl) (hb hby at_357) (fun _ _ => ⟨rfl, e3171, (by decide : 19 + 0 ≤ _), (by decide : 62 + 0 ≤ _)⟩)
  dsimp only [Pt.U, Pt.locs, Pt.cells, Pt.slots] at X3172 l3172 y3172 z3172 st3172 hQ3172
  subst l3172 y3172 z3172
  obtain ⟨rfl, N3172q, eh3172⟩ := hQ3172
  have N3172 := Fr.app N0 N3172q
  refine Gl.st (B := (T3172.setTop (mkF m 360 L3170 [(.int (1 : Int32))]))) (fun t k => st3172 t k) ?_
  obtain ⟨L3173, hL3173⟩ : ∃ z : Array Slot, z = #[.val (.int p1), .val (.int p2), .val (.int p3), .val (.int p4), .val (.long q5), .second, .val (.int p6), .val (.int (0 : Int32)), .val (.int w8e), od9, .val (.ref b11_t0), .val (.ref b17_t0), .val (.ref b26_t0), .val (.int y13_92_32), .val (.int y14_99_34), .val (.ref b37), .val (.ref b1044), .val (.ref b1065), .val (.ref b1080), od19, .val (.ref b2092), .val (.ref b2097), .val (.int (1 : Int32))] := ⟨_, rfl⟩
  refine Gl.st (B := (T3172.setTop (mkF m 398 L3173 []))) (fun t k => XS.ifNo X3172.here hx rfl (hb hby at_360) rfl (by decide) (XS.iconst X3172.here hx rfl (hb hby at_363) (XS.goto X3172.here hx rfl (pc0 := 364) (pc' := 368) rfl (hb hby at_364) (by decide) (by decide) (XS.istore X3172.here hx rfl (hb hby at_368) rfl (l' := L3173) (stAt hL3170 hL3173 rfl rfl) (XS.iload X3172.here hx rfl (hb hby at_370) (ldAt hL3173 rfl) (XS.ifYes X3172.here hx rfl (pc0 := 372) (pc' := 398) rfl (hb hby at_372) rfl (by decide) (by decide) (by decide) k)))))) ?_
  refine Gl.st (B := (T3172.setTop (mkF m 405 L3173 [(.ref b2097)]))) (fun t k => XS.iload X3172.here hx rfl (hb hby at_398) (ldAt hL3173 rfl) (XS.ifNo X3172.here hx rfl (hb hby at_400) rfl (by decide) (XS.aload X3172.here hx rfl (hb hby at_403) (ldAt hL3173 rfl) rfl k))) ?_
  obtain ⟨T3174, X3174, e3174, st3174⟩ := getF X3172 hx hZ hown (host := "") (Or.inl (tw hw 117 rfl)) Via.refl eh3172 F_protocols_b2097 (g := (mkF m 405 L3173 [(.ref b2097)])) rfl rfl (hb hby at_405)
  refine Gl.st (B := (T3174.setTop (mkF m 408 L3173 [(.ref b1065)]))) st3174 ?_
  refine Gl.st (B := (T3174.setTop (mkF m 413 L3173 [(.ref b2097)]))) (fun t k => XS.ifnullNo X3174.here hx rfl (hb hby at_408) rfl (XS.aload X3174.here hx rfl (hb hby at_411) (ldAt hL3173 rfl) rfl k)) ?_
  obtain ⟨T3175, X3175, e3175, st3175⟩ := getF X3174 hx hZ hown (host := "") (Or.inl (tw hw 117 rfl)) Via.refl e3174 F_protocols_b2097 (g := (mkF m 413 L3173 [(.ref b2097)])) rfl rfl (hb hby at_413)
  refine Gl.st (B := (T3175.setTop (mkF m 416 L3173 [(.ref b1065)]))) st3175 ?_
  obtain ⟨cq3176, kq3176, q3176a, q3176b, q3176c⟩ := isOf hZ e3175 E_b1065
  obtain ⟨_, _, ⟨T3176, L3176q, k3176, n3176⟩, -, X3176, ⟨Lc3176, hQ3176, l3176, y3176, z3176⟩, st3176⟩ := X3175.interfaceBack hx (xi := (⟨"java/util/List", "size", "()I"⟩ : MethodName)) (y := (⟨"java/util/ArrayList", "size", "()I"⟩ : MethodName)) hown (mvT hZ (tw hw 137 rfl)) (mvT hZ (tw hw 138 rfl)) (mvT hZ (tw hw 139 rfl)) (mvT hZ (tw hw 140 rfl)) (mvT hZ (tw hw 141 rfl)) (mvT hZ (tw hw 142 rfl)) (mvT hZ (tw hw 143 rfl)) (mvT hZ (tw hw 73 rfl)) (by decide) (backOf (W := 0) (rm19 l Z a0 hw [] b1065 (1 : Int32) h0 n0 Z0 F_size_b1065) hZ (tw hw 144 rfl) (tw hw 44 rfl) (by decide) (by decide)) q3176a q3176b q3176c (g := (mkF m 416 L3173 [(.ref b1065)])) rfl (szAt hml hL3173 rfl) (Steps.refl _) (argsL := []) (rest := []) (lenOf pd_0s325_3_1 rfl) rfl (by show 2 * 0 + _ ≤ _; exact Nat.le_of_eq rfl) (hb hby at_416) (fun _ _ => ⟨rfl, e3175, (by decide : 19 + 0 ≤ _), (by decide : 62 + 0 ≤ _)⟩)
  dsimp only [Pt.U, Pt.locs, Pt.cells, Pt.slots] at X3176 l3176 y3176 z3176 st3176 hQ3176
  subst l3176 y3176 z3176
  obtain ⟨rfl, N3176q, eh3176⟩ := hQ3176
  have N3176 := Fr.app N3172 N3176q
  refine Gl.st (B := (T3176.setTop (mkF m 421 L3173 [(.int (1 : Int32))]))) (fun t k => st3176.trans k) ?_
  refine Gl.st (B := (T3176.setTop (mkF m 427 L3173 [(.ref b2097)]))) (fun t k => XS.iconst X3176.here hx rfl (hb hby at_421) (XS.icmpNo X3176.here hx rfl (hb hby at_422) rfl (by decide) (XS.aload X3176.here hx rfl (hb hby at_425) (ldAt hL3173 rfl) rfl k))) ?_
  obtain ⟨T3177, X3177, e3177, st3177⟩ := getF X3176 hx hZ hown (host := "") (Or.inl (tw hw 117 rfl)) Via.refl eh3176 F_protocols_b2097 (g := (mkF m 427 L3173 [(.ref b2097)])) rfl rfl (hb hby at_427)
  refine Gl.st (B := (T3177.setTop (mkF m 430 L3173 [(.ref b1065)]))) st3177 ?_
  refine Gl.st (B := (T3177.setTop (mkF m 431 L3173 [(.int (0 : Int32)), (.ref b1065)]))) (fun t k => XS.iconst X3177.here hx rfl (hb hby at_430) k) ?_
  obtain ⟨cq3178, kq3178, q3178a, q3178b, q3178c⟩ := isOf hZ e3177 E_b1065
  obtain ⟨_, _, ⟨T3178, L3178q, k3178, n3178⟩, -, X3178, ⟨Lc3178, hQ3178, l3178, y3178, z3178⟩, st3178⟩ := X3177.interfaceBack hx (xi := (⟨"java/util/List", "get", "(I)Ljava/lang/Object;"⟩ : MethodName)) (y := (⟨"java/util/ArrayList", "get", "(I)Ljava/lang/Object;"⟩ : MethodName)) hown (mvT hZ (tw hw 145 rfl)) (mvT hZ (tw hw 146 rfl)) (mvT hZ (tw hw 147 rfl)) (mvT hZ (tw hw 148 rfl)) (mvT hZ (tw hw 149 rfl)) (mvT hZ (tw hw 150 rfl)) (mvT hZ (tw hw 151 rfl)) (mvT hZ (tw hw 73 rfl)) (by decide) (backOf (W := 0) (rm20 l Z a0 hw [] b1065 k1071_kx_t0 b1044 b1071_t0 h0 n0 Z0 V_b1071_t0 F_size_b1065 F_elementData_b1065 E_b1065) hZ (tw hw 152 rfl) (tw hw 44 rfl) (by decide) (by decide)) q3178a q3178b q3178c (g := (mkF m 431 L3173 [(.int (0 : Int32)), (.ref b1065)])) rfl (szAt hml hL3173 rfl) (Steps.refl _) (argsL := [(.int (0 : Int32))]) (rest := []) (lenOf pd_0s325_3_2 rfl) rfl (by show 2 * 0 + _ ≤ _; exact Nat.le_of_eq rfl) (hb hby at_431) (fun _ _ => ⟨rfl, e3177, (by decide : 19 + 0 ≤ _), (by decide : 62 + 0 ≤ _)⟩)
  dsimp only [Pt.U, Pt.locs, Pt.cells, Pt.slots] at X3178 l3178 y3178 z3178 st3178 hQ3178
  subst l3178 y3178 z3178
  obtain ⟨rfl, N3178q, eh3178⟩ := hQ3178
  have N3178 := Fr.app N3176 N3178q
  refine Gl.st (B := (T3178.setTop (mkF m 436 L3173 [(.ref b1044)]))) (fun t k => st3178.trans k) ?_
  obtain ⟨L3179, hL3179⟩ : ∃ z : Array Slot, z = #[.val (.int p1), .val (.int p2), .val (.int p3), .val (.int p4), .val (.long q5), .second, .val (.int p6), .val (.int (0 : Int32)), .val (.int w8e), od9, .val (.ref b11_t0), .val (.ref b17_t0), .val (.ref b26_t0), .val (.int y13_92_32), .val (.int y14_99_34), .val (.ref b37), .val (.ref b1044), .val (.ref b1065), .val (.ref b1080), od19, .val (.ref b2092), .val (.ref b2097), .val (.int (1 : Int32))] := ⟨_, rfl⟩
  refine Gl.st (B := (T3178.setTop (mkF m 448 L3179 []))) (fun t k => XS.aload X3178.here hx rfl (hb hby at_436) (ldAt hL3173 rfl) rfl (Jvm.RoadKit.acmp (g := (mkF m 438 L3173 [(.ref b1044), (.ref b1044)])) X3178 hx rfl rfl rfl (pc0 := 438) (pc' := 441) (same := true) rfl (hb hby at_438) rfl (decide_eq_true rfl) (by decide) (by decide) (XS.iconst X3178.here hx rfl (hb hby at_441) (XS.goto X3178.here hx rfl (pc0 := 442) (pc' := 446) rfl (hb hby at_442) (by decide) (by decide) (XS.istore X3178.here hx rfl (hb hby at_446) rfl (l' := L3179) (stAt hL3173 hL3179 rfl rfl) k))))) ?_
  refine Gl.cast (B := (T3178.setTop (mkF m 448 #[.val (.int p1), .val (.int p2), .val (.int p3), .val (.int p4), .val (.long q5), .second, .val (.int p6), .val (.int (0 : Int32)), .val (.int w8e), od9, .val (.ref b11_t0), .val (.ref b17_t0), .val (.ref b26_t0), .val (.int y13_92_32), .val (.int y14_99_34), .val (.ref b37), .val (.ref b1044), .val (.ref b1065), .val (.ref b1080), od19, .val (.ref b2092), .val (.ref b2097), .val (.int (1 : Int32))] []))) (by rw [hL3179]) ?_
  exact sg_448_4 l Z a0 hw hx hby hml hret hlk hZ hown n0 p1 p2 p3 p4 q5 p6 w8e b11_t0 b17_t0 b26_t0 y13_92_32 y14_99_34 b37 b1044 b1065 b1080 b2092 b2097 b1071_t0 x257_2115 x265_2120 x276_2125 k37 nra vra k1071_kx_t0 h0 (X3178.more (by decide) (by decide)) eh3178 N3178 Z0 F_id_b2097 F_instanceId_b2097 F_sess2_b2097 F_reba3_b2097 F_sess4_b2097 E_b2097 F_pendingJoin_b2097 F_pendingSync_b2097 F_id_b2092 F_instanceId_b2092 F_generation_b2092 F_assignment_b2092 F_protocols_b2092 F_size_b1065 F_elementData_b1065 F_sess2_b2092 F_reba3_b2092 F_sess4_b2092 F_pendingJoin_b2092 F_pendingSync_b2092 V_b37 V_b1071_t0 O_b1071_t0 hr605_hE E_b1065 hq694 hq705 hq720 E_b2092
theorem pd_0s206_2_0 : parseMethodDescriptor "(Ljava/lang/String;Ljava/lang/String;)V" = some ⟨[(.object "java/lang/String"), (.object "java/lang/String")], none⟩ := by decide +kernel
theorem pd_0s206_2_1 : parseMethodDescriptor "(Lcom/example/limpet/limpet/group/Member;)V" = some ⟨[(.object "com/example/limpet/limpet/group/Member")], none⟩ := by decide +kernel
set_option maxRecDepth 65536 in
set_option maxHeartbeats 40000000 in
theorem sg_206_2 (l : Launch) (Z : State) (a0 : Array Value) (hw : ∀ d ∈ tables_1, d.before a0 Z = true) {p : Program} {e : Env} {s : State} {m : MethodId} {A0 : Array Value} {below : List Frame} {meth : Method} {c : Code} (hx : p.tables.exec = Jvm.exec) (hby : c.code = code) (hml : c.maxLocals = 23) (hret : meth.sig.returnType = ret) (hlk : meth.locks = false) (hZ : Z.Warmed39 s.vm) (hown : s.vm.findClass "com/example/limpet/limpet/group/MemberTakeOverPinLaw" = some m.cls) (n0 : Nat) (p1 : Int32) (p2 : Int32) (p3 : Int32) (p4 : Int32) (q5 : Int64) (p6 : Int32) (w8e : Int32) (b11_t0 : Addr) (b17_t0 : Addr) (b26_t0 : Addr) (y13_92_32 : Int32) (y14_99_34 : Int32) (b37 : Addr) (b1044 : Addr) (b1065 : Addr) (b1080 : Addr) (b1086 : Addr) (b1071_t0 : Addr) (k37 : ClassId) (nra : Int32) (vra : List Value) (k1071_kx_t0 : ClassId) {T0 : State} {Lc : List Loc} (h0 : Heap) (X0 : Stand p l e room_1 s m A0 below meth c T0 Lc 15 42) (e0 : T0.heap = h0) (N0 : Fr n0 Lc) (Z0 : n0 ≤ h0.size) (F_size_b1065 : Fld Z h0 b1065 "java/util/ArrayList" "size" "I" (.int (1 : Int32))) (F_elementData_b1065 : Fld Z h0 b1065 "java/util/ArrayList" "elementData" "[Ljava/lang/Object;" (.ref b1071_t0)) (V_b37 : Arv Z h0 b37 k37 .byte nra vra (.int (0 : Int32))) (V_b1071_t0 : Arv Z h0 b1071_t0 k1071_kx_t0 (.object "java/lang/Object") (10 : Int32) [(.ref b1044), .null, .null, .null, .null, .null, .null, .null, .null, .null] .null) (O_b1071_t0 : Ovr Z k1071_kx_t0 "java/lang/Object") (hr357_hE : (w8e = (1 : Int32) ∧ nra = (0 : Int32) ∧ vra = []) ∨ (w8e = (0 : Int32) ∧ nra = (2 : Int32) ∧ vra = [(.int y13_92_32), (.int y14_99_34)])) (E_b1065 : Exa Z h0 b1065 "java/util/ArrayList") (hr605_hE : (w8e = (1 : Int32) ∧ nra = (0 : Int32) ∧ vra = []) ∨ (w8e = (0 : Int32) ∧ nra = (2 : Int32) ∧ vra = [(.int y13_92_32), (.int y14_99_34)])) :
    Gl p e below (fun o U' => ∃ v L, o = .returned v ∧ (v = some (.int (1 : Int32)) ∧ Fr n0 L) ∧ FrameEnd s o U' L room_1.cells room_1.slots) (T0.setTop (mkF m 206 #[.val (.int p1), .val (.int p2), .val (.int p3), .val (.int p4), .val (.long q5), .second, .val (.int p6), .val (.int (0 : Int32)), .val (.int w8e), od9, .val (.ref b11_t0), .val (.ref b17_t0), .val (.ref b26_t0), .val (.int y13_92_32), .val (.int y14_99_34), .val (.ref b37), .val (.ref b1044), .val (.ref b1065), .val (.ref b1080), .val (.ref b1086), .unset, .unset, .unset] [])) := by
  obtain ⟨L0, hL0⟩ : ∃ z : Array Slot, z = #[.val (.int p1), .val (.int p2), .val (.int p3), .val (.int p4), .val (.long q5), .second, .val (.int p6), .val (.int (0 : Int32)), .val (.int w8e), od9, .val (.ref b11_t0), .val (.ref b17_t0), .val (.ref b26_t0), .val (.int y13_92_32), .val (.int y14_99_34), .val (.ref b37), .val (.ref b1044), .val (.ref b1065), .val (.ref b1080), .val (.ref b1086), .unset, .unset, .unset] := ⟨_, rfl⟩
  refine Gl.cast (B := (T0.setTop (mkF m 206 L0 []))) (by rw [hL0]) ?_
  obtain ⟨T2092, h2092, X2092, e2092, E2092, A2092, D2092, -, st2092⟩ := newO X0 hx hZ hown (tw hw 101 rfl) (tw hw 102 rfl) (tw hw 103 rfl) e0 (g := (mkF m 206 L0 [])) rfl (hb hby at_206) (by decide) (by decide)
  obtain ⟨b2092, gq2092⟩ : ∃ z, z = h0.size := ⟨_, rfl⟩
  rw [← gq2092] at A2092 D2092 st2092
  have g_b2092 : n0 ≤ b2092 := Nat.le_trans Z0 (Nat.le_of_eq gq2092.symm)
  have lt_b2092 := A2092.lt
  have Zc2093 : n0 ≤ h2092.size := Nat.le_trans Z0 E2092.1
  have F2092_assignment : Fld Z h2092 b2092 "com/example/limpet/limpet/group/Member" "assignment" "[B" .null := D2092 (Or.inl (tw hw 109 rfl)) (ty := (.array .byte)) (by decide)
  have F2092_id : Fld Z h2092 b2092 "com/example/limpet/limpet/group/Member" "id" "Ljava/lang/String;" .null := D2092 (Or.inr (tw hw 111 rfl)) (ty := (.object "java/lang/String")) (by decide)
  have F2092_instanceId : Fld Z h2092 b2092 "com/example/limpet/limpet/group/Member" "instanceId" "Ljava/lang/String;" .null := D2092 (Or.inr (tw hw 113 rfl)) (ty := (.object "java/lang/String")) (by decide)
  have F2092_generation : Fld Z h2092 b2092 "com/example/limpet/limpet/group/Member" "generation" "I" (.int (0 : Int32)) := D2092 (Or.inl (tw hw 115 rfl)) (ty := .int) (by decide)
  have F2092_protocols : Fld Z h2092 b2092 "com/example/limpet/limpet/group/Member" "protocols" "Ljava/util/List;" .null := D2092 (Or.inl (tw hw 118 rfl)) (ty := (.object "java/util/List")) (by decide)
  have F2092_sess2 : Fld Z h2092 b2092 "com/example/limpet/limpet/group/Member" "sessionTimeoutMs" "I" (.int (0 : Int32)) := D2092 (Or.inl (tw hw 120 rfl)) (ty := .int) (by decide)
  have F2092_reba3 : Fld Z h2092 b2092 "com/example/limpet/limpet/group/Member" "rebalanceTimeoutMs" "I" (.int (0 : Int32)) := D2092 (Or.inl (tw hw 122 rfl)) (ty := .int) (by decide)
  have F2092_sess4 : Fld Z h2092 b2092 "com/example/limpet/limpet/group/Member" "sessionDeadline" "J" (.long (0 : Int64)) := D2092 (Or.inl (tw hw 125 rfl)) (ty := .long) (by decide)
  have F2092_pendingJoin : Fld Z h2092 b2092 "com/example/limpet/limpet/group/Member" "pendingJoin" "Ljava/util/function/Consumer;" .null := D2092 (Or.inl (tw hw 174 rfl)) (ty := (.object "java/util/function/Consumer")) (by decide)
  have F2092_pendingSync : Fld Z h2092 b2092 "com/example/limpet/limpet/group/Member" "pendingSync" "Ljava/util/function/Consumer;" .null := D2092 (Or.inl (tw hw 176 rfl)) (ty := (.object "java/util/function/Consumer")) (by decide)
  refine Gl.st (B := (T2092.setTop (mkF m 209 L0 [(.ref b2092)]))) st2092 ?_
  refine Gl.st (B := (T2092.setTop (mkF m 214 L0 [(.ref b26_t0), (.ref b17_t0), (.ref b2092), (.ref b2092)]))) (fun t k => XS.dup X2092.here hx rfl (hb hby at_209) rfl rfl (XS.aload X2092.here hx rfl (hb hby at_210) (ldAt hL0 rfl) rfl (XS.aload X2092.here hx rfl (hb hby at_212) (ldAt hL0 rfl) rfl k))) ?_
  obtain ⟨_, _, ⟨T2094, L2094q, k2094, n2094⟩, -, X2094, ⟨Lc2094, hQ2094, l2094, y2094, z2094⟩, st2094⟩ := X2092.specialBack hx (y := (⟨"com/example/limpet/limpet/group/Member", "<init>", "(Ljava/lang/String;Ljava/lang/String;)V"⟩ : MethodName)) rfl hown (mvT hZ (tw hw 104 rfl)) (mvT hZ (tw hw 105 rfl)) (mvT hZ (tw hw 106 rfl)) (by decide) (backOf (W := 1) (rm16 l Z a0 hw [] b2092 b17_t0 b26_t0 .null .null .null ((.int (0 : Int32))) .null ((.int (0 : Int32))) ((.int (0 : Int32))) ((.long (0 : Int64))) .null .null h2092 n0 Zc2093 F2092_assignment F2092_id F2092_instanceId F2092_generation F2092_protocols F2092_sess2 F2092_reba3 F2092_sess4 F2092_pendingJoin F2092_pendingSync A2092 g_b2092) hZ (tw hw 106 rfl) (tw hw 103 rfl) (by decide) (by decide)) (g := (mkF m 214 L0 [(.ref b26_t0), (.ref b17_t0), (.ref b2092), (.ref b2092)])) rfl (szAt hml hL0 rfl) (Steps.refl _) (a := b2092) (argsL := [(.ref b17_t0), (.ref b26_t0)]) (rest := [(.ref b2092)]) (lenOf pd_0s206_2_0 rfl) rfl (by show 2 * 0 + _ ≤ _; exact Nat.le_of_eq rfl) (hb hby at_214) (fun _ _ => ⟨rfl, e2092, (by decide : 16 + 1 ≤ _), (by decide : 52 + 0 ≤ _)⟩)
  dsimp only [Pt.U, Pt.locs, Pt.cells, Pt.slots] at X2094 l2094 y2094 z2094 st2094 hQ2094
  subst l2094 y2094 z2094
  obtain ⟨b2094_t0, k2094_kx_t0, rfl, N2094q, Kc2094, fq2094_0, fq2094_1, fq2094_2, fq2094_3, fq2094_4, fq2094_5, fq2094_6, fq2094_7, fq2094_8, fq2094_9, fq2094_10, fq2094_11, fq2094_12, fq2094_13⟩ := hQ2094
  have g_b2094_t0 : n0 ≤ b2094_t0 := Nat.le_trans Zc2093 fq2094_0
  have lt_b2094_t0 := fq2094_12.lt
  have Zc2095 : n0 ≤ T2094.heap.size := Nat.le_trans Zc2093 Kc2094.1
  have N2094 := Fr.app N0 N2094q
  refine Gl.st (B := (T2094.setTop (mkF m 217 L0 [(.ref b2092)]))) (fun t k => st2094.trans k) ?_
  obtain ⟨L2096, hL2096⟩ : ∃ z : Array Slot, z = #[.val (.int p1), .val (.int p2), .val (.int p3), .val (.int p4), .val (.long q5), .second, .val (.int p6), .val (.int (0 : Int32)), .val (.int w8e), od9, .val (.ref b11_t0), .val (.ref b17_t0), .val (.ref b26_t0), .val (.int y13_92_32), .val (.int y14_99_34), .val (.ref b37), .val (.ref b1044), .val (.ref b1065), .val (.ref b1080), .val (.ref b1086), .val (.ref b2092), .unset, .unset] := ⟨_, rfl⟩
  refine Gl.st (B := (T2094.setTop (mkF m 219 L2096 []))) (fun t k => XS.astore X2094.here hx rfl (hb hby at_217) rfl rfl (l' := L2096) (stAt hL0 hL2096 rfl rfl) k) ?_
  obtain ⟨T2097, h2097, X2097, e2097, E2097, A2097, D2097, -, st2097⟩ := newO X2094 hx hZ hown (tw hw 101 rfl) (tw hw 102 rfl) (tw hw 103 rfl) rfl (g := (mkF m 219 L2096 [])) rfl (hb hby at_219) (by decide) (by decide)
  obtain ⟨b2097, gq2097⟩ : ∃ z, z = T2094.heap.size := ⟨_, rfl⟩
  rw [← gq2097] at A2097 D2097 st2097
  have g_b2097 : n0 ≤ b2097 := Nat.le_trans Zc2095 (Nat.le_of_eq gq2097.symm)
  have lt_b2097 := A2097.lt
  have Zc2098 : n0 ≤ h2097.size := Nat.le_trans Zc2095 E2097.1
  have F2097_assignment : Fld Z h2097 b2097 "com/example/limpet/limpet/group/Member" "assignment" "[B" .null := D2097 (Or.inl (tw hw 109 rfl)) (ty := (.array .byte)) (by decide)
  have F2097_id : Fld Z h2097 b2097 "com/example/limpet/limpet/group/Member" "id" "Ljava/lang/String;" .null := D2097 (Or.inr (tw hw 111 rfl)) (ty := (.object "java/lang/String")) (by decide)
  have F2097_instanceId : Fld Z h2097 b2097 "com/example/limpet/limpet/group/Member" "instanceId" "Ljava/lang/String;" .null := D2097 (Or.inr (tw hw 113 rfl)) (ty := (.object "java/lang/String")) (by decide)
  have F2097_generation : Fld Z h2097 b2097 "com/example/limpet/limpet/group/Member" "generation" "I" (.int (0 : Int32)) := D2097 (Or.inl (tw hw 115 rfl)) (ty := .int) (by decide)
  have F2097_protocols : Fld Z h2097 b2097 "com/example/limpet/limpet/group/Member" "protocols" "Ljava/util/List;" .null := D2097 (Or.inl (tw hw 118 rfl)) (ty := (.object "java/util/List")) (by decide)
  have F2097_sess2 : Fld Z h2097 b2097 "com/example/limpet/limpet/group/Member" "sessionTimeoutMs" "I" (.int (0 : Int32)) := D2097 (Or.inl (tw hw 120 rfl)) (ty := .int) (by decide)
  have F2097_reba3 : Fld Z h2097 b2097 "com/example/limpet/limpet/group/Member" "rebalanceTimeoutMs" "I" (.int (0 : Int32)) := D2097 (Or.inl (tw hw 122 rfl)) (ty := .int) (by decide)
  have F2097_sess4 : Fld Z h2097 b2097 "com/example/limpet/limpet/group/Member" "sessionDeadline" "J" (.long (0 : Int64)) := D2097 (Or.inl (tw hw 125 rfl)) (ty := .long) (by decide)
  have F2097_pendingJoin : Fld Z h2097 b2097 "com/example/limpet/limpet/group/Member" "pendingJoin" "Ljava/util/function/Consumer;" .null := D2097 (Or.inl (tw hw 174 rfl)) (ty := (.object "java/util/function/Consumer")) (by decide)
  have F2097_pendingSync : Fld Z h2097 b2097 "com/example/limpet/limpet/group/Member" "pendingSync" "Ljava/util/function/Consumer;" .null := D2097 (Or.inl (tw hw 176 rfl)) (ty := (.object "java/util/function/Consumer")) (by decide)
  refine Gl.st (B := (T2097.setTop (mkF m 222 L2096 [(.ref b2097)]))) st2097 ?_
  refine Gl.st (B := (T2097.setTop (mkF m 227 L2096 [(.ref b26_t0), (.ref b11_t0), (.ref b2097), (.ref b2097)]))) (fun t k => XS.dup X2097.here hx rfl (hb hby at_222) rfl rfl (XS.aload X2097.here hx rfl (hb hby at_223) (ldAt hL2096 rfl) rfl (XS.aload X2097.here hx rfl (hb hby at_225) (ldAt hL2096 rfl) rfl k))) ?_
  obtain ⟨_, _, ⟨T2099, L2099q, k2099, n2099⟩, -, X2099, ⟨Lc2099, hQ2099, l2099, y2099, z2099⟩, st2099⟩ := X2097.specialBack hx (y := (⟨"com/example/limpet/limpet/group/Member", "<init>", "(Ljava/lang/String;Ljava/lang/String;)V"⟩ : MethodName)) rfl hown (mvT hZ (tw hw 104 rfl)) (mvT hZ (tw hw 105 rfl)) (mvT hZ (tw hw 106 rfl)) (by decide) (backOf (W := 1) (rm16 l Z a0 hw [] b2097 b11_t0 b26_t0 .null .null .null ((.int (0 : Int32))) .null ((.int (0 : Int32))) ((.int (0 : Int32))) ((.long (0 : Int64))) .null .null h2097 n0 Zc2098 F2097_assignment F2097_id F2097_instanceId F2097_generation F2097_protocols F2097_sess2 F2097_reba3 F2097_sess4 F2097_pendingJoin F2097_pendingSync A2097 g_b2097) hZ (tw hw 106 rfl) (tw hw 103 rfl) (by decide) (by decide)) (g := (mkF m 227 L2096 [(.ref b26_t0), (.ref b11_t0), (.ref b2097), (.ref b2097)])) rfl (szAt hml hL2096 rfl) (Steps.refl _) (a := b2097) (argsL := [(.ref b11_t0), (.ref b26_t0)]) (rest := [(.ref b2097)]) (lenOf pd_0s206_2_0 rfl) rfl (by show 2 * 0 + _ ≤ _; exact Nat.le_of_eq rfl) (hb hby at_227) (fun _ _ => ⟨rfl, e2097, (by decide : 18 + 1 ≤ _), (by decide : 62 + 0 ≤ _)⟩)
  dsimp only [Pt.U, Pt.locs, Pt.cells, Pt.slots] at X2099 l2099 y2099 z2099 st2099 hQ2099
  subst l2099 y2099 z2099
  obtain ⟨b2099_t0, k2099_kx_t0, rfl, N2099q, Kc2099, fq2099_0, fq2099_1, fq2099_2, fq2099_3, fq2099_4, fq2099_5, fq2099_6, fq2099_7, fq2099_8, fq2099_9, fq2099_10, fq2099_11, fq2099_12, fq2099_13⟩ := hQ2099
  have g_b2099_t0 : n0 ≤ b2099_t0 := Nat.le_trans Zc2098 fq2099_0
  have lt_b2099_t0 := fq2099_12.lt
  have Zc2100 : n0 ≤ T2099.heap.size := Nat.le_trans Zc2098 Kc2099.1
  have N2099 := Fr.app N2094 N2099q
  refine Gl.st (B := (T2099.setTop (mkF m 230 L2096 [(.ref b2097)]))) (fun t k => st2099.trans k) ?_
  obtain ⟨L2101, hL2101⟩ : ∃ z : Array Slot, z = #[.val (.int p1), .val (.int p2), .val (.int p3), .val (.int p4), .val (.long q5), .second, .val (.int p6), .val (.int (0 : Int32)), .val (.int w8e), od9, .val (.ref b11_t0), .val (.ref b17_t0), .val (.ref b26_t0), .val (.int y13_92_32), .val (.int y14_99_34), .val (.ref b37), .val (.ref b1044), .val (.ref b1065), .val (.ref b1080), .val (.ref b1086), .val (.ref b2092), .val (.ref b2097), .unset] := ⟨_, rfl⟩
  refine Gl.st (B := (T2099.setTop (mkF m 235 L2101 [(.int p1), (.ref b2092)]))) (fun t k => XS.astore X2099.here hx rfl (hb hby at_230) rfl rfl (l' := L2101) (stAt hL2096 hL2101 rfl rfl) (XS.aload X2099.here hx rfl (hb hby at_232) (ldAt hL2101 rfl) rfl (XS.iloadN X2099.here hx rfl (hb hby at_234) (ldAt hL2101 rfl) k))) ?_
  have c2102 := ((fq2094_1.ext E2097).keep Kc2099)
  have ne_b2092_b2097_2103 : b2092 ≠ b2097 := Nat.ne_of_lt (Nat.lt_of_lt_of_le lt_b2092 (Nat.le_trans Kc2094.1 (Nat.le_of_eq gq2097.symm)))
  have c2104 := ((fq2094_3.ext E2097).keep Kc2099 (ninS ne_b2092_b2097_2103 nin0))
  obtain ⟨T2105, h2105, X2105, e2105, W2105, st2105⟩ := putF X2099 hx hZ hown (host := "") (Or.inl (tw hw 114 rfl)) Via.refl rfl c2104 c2102 (Or.inl (tw hw 115 rfl)) (tw hw 102 rfl) (ty := .int) (by decide) rfl rfl (g := (mkF m 235 L2101 [(.int p1), (.ref b2092)])) rfl rfl (hb hby at_235)
  have Fw2105 := c2104.same W2105
  have Zc2106 : n0 ≤ h2105.size := Nat.le_trans Zc2100 (Nat.le_of_eq W2105.size.symm)
  have N2105 := Fr.snoc X2105 N2099 g_b2092
  refine Gl.st (B := (T2105.setTop (mkF m 238 L2101 []))) st2105 ?_
  refine Gl.st (B := (T2105.setTop (mkF m 242 L2101 [(.ref b37), (.ref b2092)]))) (fun t k => XS.aload X2105.here hx rfl (hb hby at_238) (ldAt hL2101 rfl) rfl (XS.aload X2105.here hx rfl (hb hby at_240) (ldAt hL2101 rfl) rfl k)) ?_
  have c2107 := (c2102.wr W2105)
  have c2108 := (((fq2094_2.ext E2097).keep Kc2099 (ninS ne_b2092_b2097_2103 nin0)).other W2105 (Or.inr (sn39 hw)))
  obtain ⟨T2109, h2109, X2109, e2109, W2109, st2109⟩ := putF X2105 hx hZ hown (host := "") (Or.inl (tw hw 116 rfl)) Via.refl e2105 c2108 c2107 (Or.inl (tw hw 109 rfl)) (tw hw 102 rfl) (ty := (.array .byte)) (by decide) rfl rfl (g := (mkF m 242 L2101 [(.ref b37), (.ref b2092)])) rfl rfl (hb hby at_242)
  have Fw2109 := c2108.same W2109
  have Zc2110 : n0 ≤ h2109.size := Nat.le_trans Zc2106 (Nat.le_of_eq W2109.size.symm)
  have N2109 := Fr.snoc X2109 N2105 g_b2092
  refine Gl.st (B := (T2109.setTop (mkF m 245 L2101 []))) st2109 ?_
  refine Gl.st (B := (T2109.setTop (mkF m 249 L2101 [(.ref b1065), (.ref b2092)]))) (fun t k => XS.aload X2109.here hx rfl (hb hby at_245) (ldAt hL2101 rfl) rfl (XS.aload X2109.here hx rfl (hb hby at_247) (ldAt hL2101 rfl) rfl k)) ?_
  have c2111 := (c2107.wr W2109)
  have c2112 := ((((fq2094_8.ext E2097).keep Kc2099 (ninS ne_b2092_b2097_2103 nin0)).other W2105 (Or.inr (sn48 hw))).other W2109 (Or.inr (sn25 hw)))
  obtain ⟨T2113, h2113, X2113, e2113, W2113, st2113⟩ := putF X2109 hx hZ hown (host := "") (Or.inl (tw hw 117 rfl)) Via.refl e2109 c2112 c2111 (Or.inl (tw hw 118 rfl)) (tw hw 102 rfl) (ty := (.object "java/util/List")) (by decide) rfl rfl (g := (mkF m 249 L2101 [(.ref b1065), (.ref b2092)])) rfl rfl (hb hby at_249)
  have Fw2113 := c2112.same W2113
  have Zc2114 : n0 ≤ h2113.size := Nat.le_trans Zc2110 (Nat.le_of_eq W2113.size.symm)
  have N2113 := Fr.snoc X2113 N2109 g_b2092
  refine Gl.st (B := (T2113.setTop (mkF m 252 L2101 []))) st2113 ?_
  refine Gl.st (B := (T2113.setTop (mkF m 257 L2101 [(.int (p3 ^^^ (-1 : Int32))), (.ref b2092)]))) (fun t k => XS.aload X2113.here hx rfl (hb hby at_252) (ldAt hL2101 rfl) rfl (XS.iloadN X2113.here hx rfl (hb hby at_254) (ldAt hL2101 rfl) (XS.iconst X2113.here hx rfl (hb hby at_255) (XS.ixor X2113.here hx rfl (hb hby at_256) rfl k)))) ?_
  obtain ⟨x257_2115, hx257_2115⟩ : ∃ z : Int32, z = (p3 ^^^ (-1 : Int32)) := ⟨_, rfl⟩
  refine Gl.cast (B := (T2113.setTop (mkF m 257 L2101 [(.int x257_2115), (.ref b2092)]))) (by rw [hx257_2115]) ?_
  have c2116 := (c2111.wr W2113)
  have c2117 := (((((fq2094_11.ext E2097).keep Kc2099 (ninS ne_b2092_b2097_2103 nin0)).other W2105 (Or.inr (sn54 hw))).other W2109 (Or.inr (sn34 hw))).other W2113 (Or.inr (sn53 hw)))
  obtain ⟨T2118, h2118, X2118, e2118, W2118, st2118⟩ := putF X2113 hx hZ hown (host := "") (Or.inl (tw hw 119 rfl)) Via.refl e2113 c2117 c2116 (Or.inl (tw hw 120 rfl)) (tw hw 102 rfl) (ty := .int) (by decide) rfl rfl (g := (mkF m 257 L2101 [(.int x257_2115), (.ref b2092)])) rfl rfl (hb hby at_257)
  have Fw2118 := c2117.same W2118
  have Zc2119 : n0 ≤ h2118.size := Nat.le_trans Zc2114 (Nat.le_of_eq W2118.size.symm)
  have N2118 := Fr.snoc X2118 N2113 g_b2092
  refine Gl.st (B := (T2118.setTop (mkF m 260 L2101 []))) st2118 ?_
  refine Gl.st (B := (T2118.setTop (mkF m 265 L2101 [(.int (p4 ^^^ (-1 : Int32))), (.ref b2092)]))) (fun t k => XS.aload X2118.here hx rfl (hb hby at_260) (ldAt hL2101 rfl) rfl (XS.iloadN X2118.here hx rfl (hb hby at_262) (ldAt hL2101 rfl) (XS.iconst X2118.here hx rfl (hb hby at_263) (XS.ixor X2118.here hx rfl (hb hby at_264) rfl k)))) ?_
  obtain ⟨x265_2120, hx265_2120⟩ : ∃ z : Int32, z = (p4 ^^^ (-1 : Int32)) := ⟨_, rfl⟩
  refine Gl.cast (B := (T2118.setTop (mkF m 265 L2101 [(.int x265_2120), (.ref b2092)]))) (by rw [hx265_2120]) ?_
  have c2121 := (c2116.wr W2118)
  have c2122 := ((((((fq2094_9.ext E2097).keep Kc2099 (ninS ne_b2092_b2097_2103 nin0)).other W2105 (Or.inr (sn50 hw))).other W2109 (Or.inr (sn28 hw))).other W2113 (Or.inr (sn49 hw))).other W2118 (Or.inr (sn55 hw)))
  obtain ⟨T2123, h2123, X2123, e2123, W2123, st2123⟩ := putF X2118 hx hZ hown (host := "") (Or.inl (tw hw 121 rfl)) Via.refl e2118 c2122 c2121 (Or.inl (tw hw 122 rfl)) (tw hw 102 rfl) (ty := .int) (by decide) rfl rfl (g := (mkF m 265 L2101 [(.int x265_2120), (.ref b2092)])) rfl rfl (hb hby at_265)
  have Fw2123 := c2122.same W2123
  have Zc2124 : n0 ≤ h2123.size := Nat.le_trans Zc2119 (Nat.le_of_eq W2123.size.symm)
  have N2123 := Fr.snoc X2123 N2118 g_b2092
  refine Gl.st (B := (T2123.setTop (mkF m 268 L2101 []))) st2123 ?_
  refine Gl.st (B := (T2123.setTop (mkF m 276 L2101 [(.long (q5 ^^^ (-1 : Int64))), (.ref b2092)]))) (fun t k => XS.aload X2123.here hx rfl (hb hby at_268) (ldAt hL2101 rfl) rfl (XS.lload X2123.here hx rfl (hb hby at_270) (ldAt hL2101 rfl) (X2123.ldc2Long hx hown (mvT hZ (tw hw 123 rfl)) (g := (mkF m 272 L2101 [(.long q5), (.ref b2092)])) rfl (hb hby at_272) _ (XS.lxor X2123.here hx rfl (hb hby at_275) rfl k)))) ?_
  obtain ⟨x276_2125, hx276_2125⟩ : ∃ z : Int64, z = (q5 ^^^ (-1 : Int64)) := ⟨_, rfl⟩
  refine Gl.cast (B := (T2123.setTop (mkF m 276 L2101 [(.long x276_2125), (.ref b2092)]))) (by rw [hx276_2125]) ?_
  have c2126 := (c2121.wr W2123)
  have c2127 := (((((((fq2094_10.ext E2097).keep Kc2099 (ninS ne_b2092_b2097_2103 nin0)).other W2105 (Or.inr (sn52 hw))).other W2109 (Or.inr (sn31 hw))).other W2113 (Or.inr (sn51 hw))).other W2118 (Or.inr (sn56 hw))).other W2123 (Or.inr (sn57 hw)))
  obtain ⟨T2128, h2128, X2128, e2128, W2128, st2128⟩ := putF X2123 hx hZ hown (host := "") (Or.inl (tw hw 124 rfl)) Via.refl e2123 c2127 c2126 (Or.inl (tw hw 125 rfl)) (tw hw 102 rfl) (ty := .long) (by decide) rfl rfl (g := (mkF m 276 L2101 [(.long x276_2125), (.ref b2092)])) rfl rfl (hb hby at_276)
  have Fw2128 := c2127.same W2128
  have Zc2129 : n0 ≤ h2128.size := Nat.le_trans Zc2124 (Nat.le_of_eq W2128.size.symm)
  have N2128 := Fr.snoc X2128 N2123 g_b2092
  refine Gl.st (B := (T2128.setTop (mkF m 279 L2101 []))) st2128 ?_
  refine Gl.st (B := (T2128.setTop (mkF m 282 L2101 [(.int p2), (.ref b2097)]))) (fun t k => XS.aload X2128.here hx rfl (hb hby at_279) (ldAt hL2101 rfl) rfl (XS.iloadN X2128.here hx rfl (hb hby at_281) (ldAt hL2101 rfl) k)) ?_
  have c2130 := ((((((fq2099_1.wr W2105).wr W2109).wr W2113).wr W2118).wr W2123).wr W2128)
  have c2131 := ((((((fq2099_3.other W2105 (Or.inl (Ne.symm ne_b2092_b2097_2103))).other W2109 (Or.inl (Ne.symm ne_b2092_b2097_2103))).other W2113 (Or.inl (Ne.symm ne_b2092_b2097_2103))).other W2118 (Or.inl (Ne.symm ne_b2092_b2097_2103))).other W2123 (Or.inl (Ne.symm ne_b2092_b2097_2103))).other W2128 (Or.inl (Ne.symm ne_b2092_b2097_2103)))
  obtain ⟨T2132, h2132, X2132, e2132, W2132, st2132⟩ := putF X2128 hx hZ hown (host := "") (Or.inl (tw hw 114 rfl)) Via.refl e2128 c2131 c2130 (Or.inl (tw hw 115 rfl)) (tw hw 102 rfl) (ty := .int) (by decide) rfl rfl (g := (mkF m 282 L2101 [(.int p2), (.ref b2097)])) rfl rfl (hb hby at_282)
  have Fw2132 := c2131.same W2132
  have Zc2133 : n0 ≤ h2132.size := Nat.le_trans Zc2129 (Nat.le_of_eq W2132.size.symm)
  have N2132 := Fr.snoc X2132 N2128 g_b2097
  refine Gl.st (B := (T2132.setTop (mkF m 285 L2101 []))) st2132 ?_
  refine Gl.st (B := (T2132.setTop (mkF m 289 L2101 [(.ref b1086), (.ref b2097)]))) (fun t k => XS.aload X2132.here hx rfl (hb hby at_285) (ldAt hL2101 rfl) rfl (XS.aload X2132.here hx rfl (hb hby at_287) (ldAt hL2101 rfl) rfl k)) ?_
  have c2134 := (c2130.wr W2132)
  have c2135 := (((((((fq2099_2.other W2105 (Or.inl (Ne.symm ne_b2092_b2097_2103))).other W2109 (Or.inl (Ne.symm ne_b2092_b2097_2103))).other W2113 (Or.inl (Ne.symm ne_b2092_b2097_2103))).other W2118 (Or.inl (Ne.symm ne_b2092_b2097_2103))).other W2123 (Or.inl (Ne.symm ne_b2092_b2097_2103))).other W2128 (Or.inl (Ne.symm ne_b2092_b2097_2103))).other W2132 (Or.inr (sn39 hw)))
  obtain ⟨T2136, h2136, X2136, e2136, W2136, st2136⟩ := putF X2132 hx hZ hown (host := "") (Or.inl (tw hw 116 rfl)) Via.refl e2132 c2135 c2134 (Or.inl (tw hw 109 rfl)) (tw hw 102 rfl) (ty := (.array .byte)) (by decide) rfl rfl (g := (mkF m 289 L2101 [(.ref b1086), (.ref b2097)])) rfl rfl (hb hby at_289)
  have Fw2136 := c2135.same W2136
  have Zc2137 : n0 ≤ h2136.size := Nat.le_trans Zc2133 (Nat.le_of_eq W2136.size.symm)
  have N2136 := Fr.snoc X2136 N2132 g_b2097
  refine Gl.st (B := (T2136.setTop (mkF m 292 L2101 []))) st2136 ?_
  refine Gl.st (B := (T2136.setTop (mkF m 296 L2101 [(.ref b1080), (.ref b2097)]))) (fun t k => XS.aload X2136.here hx rfl (hb hby at_292) (ldAt hL2101 rfl) rfl (XS.aload X2136.here hx rfl (hb hby at_294) (ldAt hL2101 rfl) rfl k)) ?_
  have c2138 := (c2134.wr W2136)
  have c2139 := ((((((((fq2099_8.other W2105 (Or.inl (Ne.symm ne_b2092_b2097_2103))).other W2109 (Or.inl (Ne.symm ne_b2092_b2097_2103))).other W2113 (Or.inl (Ne.symm ne_b2092_b2097_2103))).other W2118 (Or.inl (Ne.symm ne_b2092_b2097_2103))).other W2123 (Or.inl (Ne.symm ne_b2092_b2097_2103))).other W2128 (Or.inl (Ne.symm ne_b2092_b2097_2103))).other W2132 (Or.inr (sn48 hw))).other W2136 (Or.inr (sn25 hw)))
  obtain ⟨T2140, h2140, X2140, e2140, W2140, st2140⟩ := putF X2136 hx hZ hown (host := "") (Or.inl (tw hw 117 rfl)) Via.refl e2136 c2139 c2138 (Or.inl (tw hw 118 rfl)) (tw hw 102 rfl) (ty := (.object "java/util/List")) (by decide) rfl rfl (g := (mkF m 296 L2101 [(.ref b1080), (.ref b2097)])) rfl rfl (hb hby at_296)
  have Fw2140 := c2139.same W2140
  have Zc2141 : n0 ≤ h2140.size := Nat.le_trans Zc2137 (Nat.le_of_eq W2140.size.symm)
  have N2140 := Fr.snoc X2140 N2136 g_b2097
  refine Gl.st (B := (T2140.setTop (mkF m 299 L2101 []))) st2140 ?_
  refine Gl.st (B := (T2140.setTop (mkF m 302 L2101 [(.int p3), (.ref b2097)]))) (fun t k => XS.aload X2140.here hx rfl (hb hby at_299) (ldAt hL2101 rfl) rfl (XS.iloadN X2140.here hx rfl (hb hby at_301) (ldAt hL2101 rfl) k)) ?_
  have c2142 := (c2138.wr W2140)
  have c2143 := (((((((((fq2099_11.other W2105 (Or.inl (Ne.symm ne_b2092_b2097_2103))).other W2109 (Or.inl (Ne.symm ne_b2092_b2097_2103))).other W2113 (Or.inl (Ne.symm ne_b2092_b2097_2103))).other W2118 (Or.inl (Ne.symm ne_b2092_b2097_2103))).other W2123 (Or.inl (Ne.symm ne_b2092_b2097_2103))).other W2128 (Or.inl (Ne.symm ne_b2092_b2097_2103))).other W2132 (Or.inr (sn54 hw))).other W2136 (Or.inr (sn34 hw))).other W2140 (Or.inr (sn53 hw)))
  obtain ⟨T2144, h2144, X2144, e2144, W2144, st2144⟩ := putF X2140 hx hZ hown (host := "") (Or.inl (tw hw 119 rfl)) Via.refl e2140 c2143 c2142 (Or.inl (tw hw 120 rfl)) (tw hw 102 rfl) (ty := .int) (by decide) rfl rfl (g := (mkF m 302 L2101 [(.int p3), (.ref b2097)])) rfl rfl (hb hby at_302)
  have Fw2144 := c2143.same W2144
  have Zc2145 : n0 ≤ h2144.size := Nat.le_trans Zc2141 (Nat.le_of_eq W2144.size.symm)
  have N2144 := Fr.snoc X2144 N2140 g_b2097
  refine Gl.st (B := (T2144.setTop (mkF m 305 L2101 []))) st2144 ?_
  refine Gl.st (B := (T2144.setTop (mkF m 308 L2101 [(.int p4), (.ref b2097)]))) (fun t k => XS.aload X2144.here hx rfl (hb hby at_305) (ldAt hL2101 rfl) rfl (XS.iloadN X2144.here hx rfl (hb hby at_307) (ldAt hL2101 rfl) k)) ?_
  have c2146 := (c2142.wr W2144)
  have c2147 := ((((((((((fq2099_9.other W2105 (Or.inl (Ne.symm ne_b2092_b2097_2103))).other W2109 (Or.inl (Ne.symm ne_b2092_b2097_2103))).other W2113 (Or.inl (Ne.symm ne_b2092_b2097_2103))).other W2118 (Or.inl (Ne.symm ne_b2092_b2097_2103))).other W2123 (Or.inl (Ne.symm ne_b2092_b2097_2103))).other W2128 (Or.inl (Ne.symm ne_b2092_b2097_2103))).other W2132 (Or.inr (sn50 hw))).other W2136 (Or.inr (sn28 hw))).other W2140 (Or.inr (sn49 hw))).other W2144 (Or.inr (sn55 hw)))
  obtain ⟨T2148, h2148, X2148, e2148, W2148, st2148⟩ := putF X2144 hx hZ hown (host := "") (Or.inl (tw hw 121 rfl)) Via.refl e2144 c2147 c2146 (Or.inl (tw hw 122 rfl)) (tw hw 102 rfl) (ty := .int) (by decide) rfl rfl (g := (mkF m 308 L2101 [(.int p4), (.ref b2097)])) rfl rfl (hb hby at_308)
  have Fw2148 := c2147.same W2148
  have Zc2149 : n0 ≤ h2148.size := Nat.le_trans Zc2145 (Nat.le_of_eq W2148.size.symm)
  have N2148 := Fr.snoc X2148 N2144 g_b2097
  refine Gl.st (B := (T2148.setTop (mkF m 311 L2101 []))) st2148 ?_
  refine Gl.st (B := (T2148.setTop (mkF m 315 L2101 [(.long q5), (.ref b2097)]))) (fun t k => XS.aload X2148.here hx rfl (hb hby at_311) (ldAt hL2101 rfl) rfl (XS.lload X2148.here hx rfl (hb hby at_313) (ldAt hL2101 rfl) k)) ?_
  have c2150 := (c2146.wr W2148)
  have c2151 := (((((((((((fq2099_10.other W2105 (Or.inl (Ne.symm ne_b2092_b2097_2103))).other W2109 (Or.inl (Ne.symm ne_b2092_b2097_2103))).other W2113 (Or.inl (Ne.symm ne_b2092_b2097_2103))).other W2118 (Or.inl (Ne.symm ne_b2092_b2097_2103))).other W2123 (Or.inl (Ne.symm ne_b2092_b2097_2103))).other W2128 (Or.inl (Ne.symm ne_b2092_b2097_2103))).other W2132 (Or.inr (sn52 hw))).other W2136 (Or.inr (sn31 hw))).other W2140 (Or.inr (sn51 hw))).other W2144 (Or.inr (sn56 hw))).other W2148 (Or.inr (sn57 hw)))
  obtain ⟨T2152, h2152, X2152, e2152, W2152, st2152⟩ := putF X2148 hx hZ hown (host := "") (Or.inl (tw hw 124 rfl)) Via.refl e2148 c2151 c2150 (Or.inl (tw hw 125 rfl)) (tw hw 102 rfl) (ty := .long) (by decide) rfl rfl (g := (mkF m 315 L2101 [(.long q5), (.ref b2097)])) rfl rfl (hb hby at_315)
  have Fw2152 := c2151.same W2152
  have Zc2153 : n0 ≤ h2152.size := Nat.le_trans Zc2149 (Nat.le_of_eq W2152.size.symm)
  have N2152 := Fr.snoc X2152 N2148 g_b2097
  refine Gl.st (B := (T2152.setTop (mkF m 318 L2101 []))) st2152 ?_
  refine Gl.st (B := (T2152.setTop (mkF m 322 L2101 [(.ref b2092), (.ref b2097)]))) (fun t k => XS.aload X2152.here hx rfl (hb hby at_318) (ldAt hL2101 rfl) rfl (XS.aload X2152.here hx rfl (hb hby at_320) (ldAt hL2101 rfl) rfl k)) ?_
  have c2155 := ((((Fw2136.other W2140 (Or.inr (sn37 hw))).other W2144 (Or.inr (sn58 hw))).other W2148 (Or.inr (sn59 hw))).other W2152 (Or.inr (sn60 hw)))
  have c2156 := ((((((((((((fq2099_4.other W2105 (Or.inl (Ne.symm ne_b2092_b2097_2103))).other W2109 (Or.inl (Ne.symm ne_b2092_b2097_2103))).other W2113 (Or.inl (Ne.symm ne_b2092_b2097_2103))).other W2118 (Or.inl (Ne.symm ne_b2092_b2097_2103))).other W2123 (Or.inl (Ne.symm ne_b2092_b2097_2103))).other W2128 (Or.inl (Ne.symm ne_b2092_b2097_2103))).other W2132 (Or.inr (sn41 hw))).other W2136 (Or.inr (sn10 hw))).other W2140 (Or.inr (sn40 hw))).other W2144 (Or.inr (sn61 hw))).other W2148 (Or.inr (sn62 hw))).other W2152 (Or.inr (sn63 hw)))
  have c2157 := ((((((((((((fq2099_5.other W2105 (Or.inl (Ne.symm ne_b2092_b2097_2103))).other W2109 (Or.inl (Ne.symm ne_b2092_b2097_2103))).other W2113 (Or.inl (Ne.symm ne_b2092_b2097_2103))).other W2118 (Or.inl (Ne.symm ne_b2092_b2097_2103))).other W2123 (Or.inl (Ne.symm ne_b2092_b2097_2103))).other W2128 (Or.inl (Ne.symm ne_b2092_b2097_2103))).other W2132 (Or.inr (sn43 hw))).other W2136 (Or.inr (sn11 hw))).other W2140 (Or.inr (sn42 hw))).other W2144 (Or.inr (sn64 hw))).other W2148 (Or.inr (sn65 hw))).other W2152 (Or.inr (sn66 hw)))
  have c2158 := (((((Fw2132.other W2136 (Or.inr (sn15 hw))).other W2140 (Or.inr (sn38 hw))).other W2144 (Or.inr (sn67 hw))).other W2148 (Or.inr (sn68 hw))).other W2152 (Or.inr (sn69 hw)))
  have c2159 := (((Fw2140.other W2144 (Or.inr (sn70 hw))).other W2148 (Or.inr (sn71 hw))).other W2152 (Or.inr (sn72 hw)))
  have c2160 := ((Fw2144.other W2148 (Or.inr (sn73 hw))).other W2152 (Or.inr (sn74 hw)))
  have c2161 := (Fw2148.other W2152 (Or.inr (sn75 hw)))
  have c2162 := ((((((((((((fq2099_6.other W2105 (Or.inl (Ne.symm ne_b2092_b2097_2103))).other W2109 (Or.inl (Ne.symm ne_b2092_b2097_2103))).other W2113 (Or.inl (Ne.symm ne_b2092_b2097_2103))).other W2118 (Or.inl (Ne.symm ne_b2092_b2097_2103))).other W2123 (Or.inl (Ne.symm ne_b2092_b2097_2103))).other W2128 (Or.inl (Ne.symm ne_b2092_b2097_2103))).other W2132 (Or.inr (sn45 hw))).other W2136 (Or.inr (sn19 hw))).other W2140 (Or.inr (sn44 hw))).other W2144 (Or.inr (sn76 hw))).other W2148 (Or.inr (sn77 hw))).other W2152 (Or.inr (sn78 hw)))
  have c2163 := ((((((((((((fq2099_7.other W2105 (Or.inl (Ne.symm ne_b2092_b2097_2103))).other W2109 (Or.inl (Ne.symm ne_b2092_b2097_2103))).other W2113 (Or.inl (Ne.symm ne_b2092_b2097_2103))).other W2118 (Or.inl (Ne.symm ne_b2092_b2097_2103))).other W2123 (Or.inl (Ne.symm ne_b2092_b2097_2103))).other W2128 (Or.inl (Ne.symm ne_b2092_b2097_2103))).other W2132 (Or.inr (sn47 hw))).other W2136 (Or.inr (sn22 hw))).other W2140 (Or.inr (sn46 hw))).other W2144 (Or.inr (sn79 hw))).other W2148 (Or.inr (sn80 hw))).other W2152 (Or.inr (sn81 hw)))
  have c2164 := (((((((((Fw2113.other W2118 (Or.inr (sn70 hw))).other W2123 (Or.inr (sn71 hw))).other W2128 (Or.inr (sn72 hw))).other W2132 (Or.inl ne_b2092_b2097_2103)).other W2136 (Or.inl ne_b2092_b2097_2103)).other W2140 (Or.inl ne_b2092_b2097_2103)).other W2144 (Or.inl ne_b2092_b2097_2103)).other W2148 (Or.inl ne_b2092_b2097_2103)).other W2152 (Or.inl ne_b2092_b2097_2103))
  have c2165 := ((((((((((Fw2109.other W2113 (Or.inr (sn37 hw))).other W2118 (Or.inr (sn58 hw))).other W2123 (Or.inr (sn59 hw))).other W2128 (Or.inr (sn60 hw))).other W2132 (Or.inl ne_b2092_b2097_2103)).other W2136 (Or.inl ne_b2092_b2097_2103)).other W2140 (Or.inl ne_b2092_b2097_2103)).other W2144 (Or.inl ne_b2092_b2097_2103)).other W2148 (Or.inl ne_b2092_b2097_2103)).other W2152 (Or.inl ne_b2092_b2097_2103))
  have c2166 := (((((((((((Fw2105.other W2109 (Or.inr (sn15 hw))).other W2113 (Or.inr (sn38 hw))).other W2118 (Or.inr (sn67 hw))).other W2123 (Or.inr (sn68 hw))).other W2128 (Or.inr (sn69 hw))).other W2132 (Or.inl ne_b2092_b2097_2103)).other W2136 (Or.inl ne_b2092_b2097_2103)).other W2140 (Or.inl ne_b2092_b2097_2103)).other W2144 (Or.inl ne_b2092_b2097_2103)).other W2148 (Or.inl ne_b2092_b2097_2103)).other W2152 (Or.inl ne_b2092_b2097_2103))
  have c2167 := (c2150.wr W2152)
  obtain ⟨cq2154, kq2154, q2154a, q2154b, q2154c⟩ := isOf hZ e2152 c2167
  obtain ⟨_, _, ⟨T2154, L2154q, k2154, n2154⟩, -, X2154, ⟨Lc2154, hQ2154, l2154, y2154, z2154⟩, st2154⟩ := X2152.virtualBack hx (y := (⟨"com/example/limpet/limpet/group/Member", "takeOver", "(Lcom/example/limpet/limpet/group/Member;)V"⟩ : MethodName)) (z := (⟨"com/example/limpet/limpet/group/Member", "takeOver", "(Lcom/example/limpet/limpet/group/Member;)V"⟩ : MethodName)) hown (mvT hZ (tw hw 126 rfl)) (mvT hZ (tw hw 127 rfl)) (notFace_of_selects (args := #[]) (mvT hZ (tw hw 129 rfl))) (mvT hZ (tw hw 129 rfl)) (mvT hZ (tw hw 128 rfl)) (by decide) (backOf (W := 0) (rm17 l Z a0 hw [] b2097 b2092 ((.ref b1086)) ((.ref b11_t0)) ((.ref b26_t0)) ((.int p2)) ((.ref b1080)) ((.int p3)) ((.int p4)) ((.long q5)) .null .null b1065 b37 p1 h2152 n0 Zc2153 c2155 c2156 c2157 c2158 c2159 c2160 c2161 Fw2152 c2162 c2163 c2164 c2167 g_b2097 c2165 (Ne.symm ne_b2092_b2097_2103) c2166) hZ (tw hw 130 rfl) (tw hw 103 rfl) (by decide) (by decide)) q2154a q2154c (g := (mkF m 322 L2101 [(.ref b2092), (.ref b2097)])) rfl (szAt hml hL2101 rfl) (Steps.refl _) (argsL := [(.ref b2092)]) (rest := []) (lenOf pd_0s206_2_1 rfl) rfl (by show 2 * 0 + _ ≤ _; exact Nat.le_of_eq rfl) (hb hby at_322) (fun _ _ => ⟨rfl, e2152, (by decide : 19 + 0 ≤ _), (by decide : 62 + 0 ≤ _)⟩)
  dsimp only [Pt.U, Pt.locs, Pt.cells, Pt.slots] at X2154 l2154 y2154 z2154 st2154 hQ2154
  subst l2154 y2154 z2154
  obtain ⟨rfl, N2154q, Kc2154, fq2154_0, fq2154_1, fq2154_2, fq2154_3, fq2154_4, fq2154_5, fq2154_6, fq2154_7, fq2154_8, fq2154_9, fq2154_10⟩ := hQ2154
  have Zc2168 : n0 ≤ T2154.heap.size := Nat.le_trans Zc2153 Kc2154.1
  have N2154 := Fr.app N2152 N2154q
  refine Gl.st (B := (T2154.setTop (mkF m 325 L2101 []))) (fun t k => st2154.trans k) ?_
  have ne_b1065_b2092_2169 : b1065 ≠ b2092 := Nat.ne_of_lt (Nat.lt_of_lt_of_le F_size_b1065.lt (Nat.le_of_eq gq2092.symm))
  have ne_b1065_b2097_2170 : b1065 ≠ b2097 := Nat.ne_of_lt (Nat.lt_of_lt_of_le F_size_b1065.lt (Nat.le_trans E2092.1 (Nat.le_trans Kc2094.1 (Nat.le_of_eq gq2097.symm))))
  have c2171 := (((((((((((((((((F_size_b1065.ext E2092).keep Kc2094 (ninS ne_b1065_b2092_2169 nin0)).ext E2097).keep Kc2099 (ninS ne_b1065_b2097_2170 nin0)).other W2105 (Or.inl ne_b1065_b2092_2169)).other W2109 (Or.inl ne_b1065_b2092_2169)).other W2113 (Or.inl ne_b1065_b2092_2169)).other W2118 (Or.inl ne_b1065_b2092_2169)).other W2123 (Or.inl ne_b1065_b2092_2169)).other W2128 (Or.inl ne_b1065_b2092_2169)).other W2132 (Or.inl ne_b1065_b2097_2170)).other W2136 (Or.inl ne_b1065_b2097_2170)).other W2140 (Or.inl ne_b1065_b2097_2170)).other W2144 (Or.inl ne_b1065_b2097_2170)).other W2148 (Or.inl ne_b1065_b2097_2170)).other W2152 (Or.inl ne_b1065_b2097_2170)).keep Kc2154 (ninS ne_b1065_b2097_2170 nin0))
  have c2172 := (((((((((((((((((F_elementData_b1065.ext E2092).keep Kc2094 (ninS ne_b1065_b2092_2169 nin0)).ext E2097).keep Kc2099 (ninS ne_b1065_b2097_2170 nin0)).other W2105 (Or.inl ne_b1065_b2092_2169)).other W2109 (Or.inl ne_b1065_b2092_2169)).other W2113 (Or.inl ne_b1065_b2092_2169)).other W2118 (Or.inl ne_b1065_b2092_2169)).other W2123 (Or.inl ne_b1065_b2092_2169)).other W2128 (Or.inl ne_b1065_b2092_2169)).other W2132 (Or.inl ne_b1065_b2097_2170)).other W2136 (Or.inl ne_b1065_b2097_2170)).other W2140 (Or.inl ne_b1065_b2097_2170)).other W2144 (Or.inl ne_b1065_b2097_2170)).other W2148 (Or.inl ne_b1065_b2097_2170)).other W2152 (Or.inl ne_b1065_b2097_2170)).keep Kc2154 (ninS ne_b1065_b2097_2170 nin0))
  have c2173 := (((((((((((((((fq2094_4.ext E2097).keep Kc2099 (ninS ne_b2092_b2097_2103 nin0)).other W2105 (Or.inr (sn41 hw))).other W2109 (Or.inr (sn10 hw))).other W2113 (Or.inr (sn40 hw))).other W2118 (Or.inr (sn61 hw))).other W2123 (Or.inr (sn62 hw))).other W2128 (Or.inr (sn63 hw))).other W2132 (Or.inl ne_b2092_b2097_2103)).other W2136 (Or.inl ne_b2092_b2097_2103)).other W2140 (Or.inl ne_b2092_b2097_2103)).other W2144 (Or.inl ne_b2092_b2097_2103)).other W2148 (Or.inl ne_b2092_b2097_2103)).other W2152 (Or.inl ne_b2092_b2097_2103)).keep Kc2154 (ninS ne_b2092_b2097_2103 nin0))
  have c2174 := (((((((((((((((fq2094_5.ext E2097).keep Kc2099 (ninS ne_b2092_b2097_2103 nin0)).other W2105 (Or.inr (sn43 hw))).other W2109 (Or.inr (sn11 hw))).other W2113 (Or.inr (sn42 hw))).other W2118 (Or.inr (sn64 hw))).other W2123 (Or.inr (sn65 hw))).other W2128 (Or.inr (sn66 hw))).other W2132 (Or.inl ne_b2092_b2097_2103)).other W2136 (Or.inl ne_b2092_b2097_2103)).other W2140 (Or.inl ne_b2092_b2097_2103)).other W2144 (Or.inl ne_b2092_b2097_2103)).other W2148 (Or.inl ne_b2092_b2097_2103)).other W2152 (Or.inl ne_b2092_b2097_2103)).keep Kc2154 (ninS ne_b2092_b2097_2103 nin0))
  have c2175 := (c2166.keep Kc2154 (ninS ne_b2092_b2097_2103 nin0))
  have c2176 := (c2165.keep Kc2154 (ninS ne_b2092_b2097_2103 nin0))
  have c2177 := (c2164.keep Kc2154 (ninS ne_b2092_b2097_2103 nin0))
  have c2178 := (((((((((Fw2118.other W2123 (Or.inr (sn73 hw))).other W2128 (Or.inr (sn74 hw))).other W2132 (Or.inl ne_b2092_b2097_2103)).other W2136 (Or.inl ne_b2092_b2097_2103)).other W2140 (Or.inl ne_b2092_b2097_2103)).other W2144 (Or.inl ne_b2092_b2097_2103)).other W2148 (Or.inl ne_b2092_b2097_2103)).other W2152 (Or.inl ne_b2092_b2097_2103)).keep Kc2154 (ninS ne_b2092_b2097_2103 nin0))
  have c2179 := ((((((((Fw2123.other W2128 (Or.inr (sn75 hw))).other W2132 (Or.inl ne_b2092_b2097_2103)).other W2136 (Or.inl ne_b2092_b2097_2103)).other W2140 (Or.inl ne_b2092_b2097_2103)).other W2144 (Or.inl ne_b2092_b2097_2103)).other W2148 (Or.inl ne_b2092_b2097_2103)).other W2152 (Or.inl ne_b2092_b2097_2103)).keep Kc2154 (ninS ne_b2092_b2097_2103 nin0))
  have c2180 := (((((((Fw2128.other W2132 (Or.inl ne_b2092_b2097_2103)).other W2136 (Or.inl ne_b2092_b2097_2103)).other W2140 (Or.inl ne_b2092_b2097_2103)).other W2144 (Or.inl ne_b2092_b2097_2103)).other W2148 (Or.inl ne_b2092_b2097_2103)).other W2152 (Or.inl ne_b2092_b2097_2103)).keep Kc2154 (ninS ne_b2092_b2097_2103 nin0))
  have c2181 := (((((((((((((((fq2094_6.ext E2097).keep Kc2099 (ninS ne_b2092_b2097_2103 nin0)).other W2105 (Or.inr (sn45 hw))).other W2109 (Or.inr (sn19 hw))).other W2113 (Or.inr (sn44 hw))).other W2118 (Or.inr (sn76 hw))).other W2123 (Or.inr (sn77 hw))).other W2128 (Or.inr (sn78 hw))).other W2132 (Or.inl ne_b2092_b2097_2103)).other W2136 (Or.inl ne_b2092_b2097_2103)).other W2140 (Or.inl ne_b2092_b2097_2103)).other W2144 (Or.inl ne_b2092_b2097_2103)).other W2148 (Or.inl ne_b2092_b2097_2103)).other W2152 (Or.inl ne_b2092_b2097_2103)).keep Kc2154 (ninS ne_b2092_b2097_2103 nin0))
  have c2182 := (((((((((((((((fq2094_7.ext E2097).keep Kc2099 (ninS ne_b2092_b2097_2103 nin0)).other W2105 (Or.inr (sn47 hw))).other W2109 (Or.inr (sn22 hw))).other W2113 (Or.inr (sn46 hw))).other W2118 (Or.inr (sn79 hw))).other W2123 (Or.inr (sn80 hw))).other W2128 (Or.inr (sn81 hw))).other W2132 (Or.inl ne_b2092_b2097_2103)).other W2136 (Or.inl ne_b2092_b2097_2103)).other W2140 (Or.inl ne_b2092_b2097_2103)).other W2144 (Or.inl ne_b2092_b2097_2103)).other W2148 (Or.inl ne_b2092_b2097_2103)).other W2152 (Or.inl ne_b2092_b2097_2103)).keep Kc2154 (ninS ne_b2092_b2097_2103 nin0))
  have ne_b37_b2092_2183 : b37 ≠ b2092 := Nat.ne_of_lt (Nat.lt_of_lt_of_le V_b37.lt (Nat.le_of_eq gq2092.symm))
  have ne_b37_b2097_2184 : b37 ≠ b2097 := Nat.ne_of_lt (Nat.lt_of_lt_of_le V_b37.lt (Nat.le_trans E2092.1 (Nat.le_trans Kc2094.1 (Nat.le_of_eq gq2097.symm))))
  have c2185 := (((((((((((((((((V_b37.ext E2092).keep Kc2094 (ninS ne_b37_b2092_2183 nin0)).ext E2097).keep Kc2099 (ninS ne_b37_b2097_2184 nin0)).other W2105 ne_b37_b2092_2183).other W2109 ne_b37_b2092_2183).other W2113 ne_b37_b2092_2183).other W2118 ne_b37_b2092_2183).other W2123 ne_b37_b2092_2183).other W2128 ne_b37_b2092_2183).other W2132 ne_b37_b2097_2184).other W2136 ne_b37_b2097_2184).other W2140 ne_b37_b2097_2184).other W2144 ne_b37_b2097_2184).other W2148 ne_b37_b2097_2184).other W2152 ne_b37_b2097_2184).keep Kc2154 (ninS ne_b37_b2097_2184 nin0))
  have ne_b1071_t0_b2092_2186 : b1071_t0 ≠ b2092 := Nat.ne_of_lt (Nat.lt_of_lt_of_le V_b1071_t0.lt (Nat.le_of_eq gq2092.symm))
  have ne_b1071_t0_b2097_2187 : b1071_t0 ≠ b2097 := Nat.ne_of_lt (Nat.lt_of_lt_of_le V_b1071_t0.lt (Nat.le_trans E2092.1 (Nat.le_trans Kc2094.1 (Nat.le_of_eq gq2097.symm))))
  have c2188 := (((((((((((((((((V_b1071_t0.ext E2092).keep Kc2094 (ninS ne_b1071_t0_b2092_2186 nin0)).ext E2097).keep Kc2099 (ninS ne_b1071_t0_b2097_2187 nin0)).other W2105 ne_b1071_t0_b2092_2186).other W2109 ne_b1071_t0_b2092_2186).other W2113 ne_b1071_t0_b2092_2186).other W2118 ne_b1071_t0_b2092_2186).other W2123 ne_b1071_t0_b2092_2186).other W2128 ne_b1071_t0_b2092_2186).other W2132 ne_b1071_t0_b2097_2187).other W2136 ne_b1071_t0_b2097_2187).other W2140 ne_b1071_t0_b2097_2187).other W2144 ne_b1071_t0_b2097_2187).other W2148 ne_b1071_t0_b2097_2187).other W2152 ne_b1071_t0_b2097_2187).keep Kc2154 (ninS ne_b1071_t0_b2097_2187 nin0))
  have c2189 := (((((((((((((((((E_b1065.ext E2092).keep Kc2094).ext E2097).keep Kc2099).wr W2105).wr W2109).wr W2113).wr W2118).wr W2123).wr W2128).wr W2132).wr W2136).wr W2140).wr W2144).wr W2148).wr W2152).keep Kc2154)
  have c2190 := ((((((((c2126.wr W2128).wr W2132).wr W2136).wr W2140).wr W2144).wr W2148).wr W2152).keep Kc2154)
  refine Gl.cast (B := (T2154.setTop (mkF m 325 #[.val (.int p1), .val (.int p2), .val (.int p3), .val (.int p4), .val (.long q5), .second, .val (.int p6), .val (.int (0 : Int32)), .val (.int w8e), od9, .val (.ref b11_t0), .val (.ref b17_t0), .val (.ref b26_t0), .val (.int y13_92_32), .val (.int y14_99_34), .val (.ref b37), .val (.ref b1044), .val (.ref b1065), .val (.ref b1080), .val (.ref b1086), .val (.ref b2092), .val (.ref b2097), .unset] []))) (by rw [hL2101]) ?_
  exact sg_325_3 l Z a0 hw hx hby hml hret hlk hZ hown n0 p1 p2 p3 p4 q5 p6 w8e b11_t0 b17_t0 b26_t0 y13_92_32 y14_99_34 b37 b1044 b1065 b1080 (.val (.ref b1086)) b2092 b2097 k37 nra vra b1071_t0 k1071_kx_t0 x257_2115 x265_2120 x276_2125 T2154.heap (X2154.more (by decide) (by decide)) rfl N2154 Zc2168 fq2154_2 fq2154_1 c2185 hr357_hE fq2154_7 c2189 c2171 c2172 c2188 O_b1071_t0 fq2154_3 fq2154_4 fq2154_10 fq2154_8 fq2154_9 fq2154_5 fq2154_6 c2173 c2174 c2175 c2176 c2177 c2178 c2179 c2180 c2181 c2182 fq2154_0 hr605_hE hx257_2115 hx265_2120 hx276_2125 c2190
theorem pd_0s125_1_0 : parseMethodDescriptor "(C)Ljava/lang/String;" = some ⟨[.char], some (.object "java/lang/String")⟩ := by decide +kernel
theorem pd_0s125_1_1 : parseMethodDescriptor "(Ljava/lang/String;[B)V" = some ⟨[(.object "java/lang/String"), (.array .byte)], none⟩ := by decide +kernel
theorem pd_0s125_1_2 : parseMethodDescriptor "()V" = some ⟨[], none⟩ := by decide +kernel
theorem pd_0s125_1_3 : parseMethodDescriptor "(Ljava/lang/Object;)Z" = some ⟨[(.object "java/lang/Object")], some .boolean⟩ := by decide +kernel
theorem own_0s125_1_hp140_1049 (p4 : Int32) (x140_1046 : Int32) (hx140_1046 : x140_1046 = ((((p4.toUInt32 >>> ((16 : Int32) &&& 31).toUInt32).toInt32) &&& (255 : Int32)).toUInt32.toUInt16.toUInt32.toInt32))  : ¬ ((255 : Int32) < x140_1046) := by
  exact own_ch _ _ hx140_1046
set_option maxRecDepth 65536 in
set_option maxHeartbeats 40000000 in
theorem sg_125_1 (l : Launch) (Z : State) (a0 : Array Value) (hw : ∀ d ∈ tables_1, d.before a0 Z = true) {p : Program} {e : Env} {s : State} {m : MethodId} {A0 : Array Value} {below : List Frame} {meth : Method} {c : Code} (hx : p.tables.exec = Jvm.exec) (hby : c.code = code) (hml : c.maxLocals = 23) (hret : meth.sig.returnType = ret) (hlk : meth.locks = false) (hZ : Z.Warmed39 s.vm) (hown : s.vm.findClass "com/example/limpet/limpet/group/MemberTakeOverPinLaw" = some m.cls) (n0 : Nat) (p1 : Int32) (p2 : Int32) (p3 : Int32) (p4 : Int32) (q5 : Int64) (p6 : Int32) (w8e : Int32) (od9 : Slot) (b11_t0 : Addr) (b17_t0 : Addr) (b26_t0 : Addr) (y13_92_32 : Int32) (y14_99_34 : Int32) (b37 : Addr) (nra : Int32) (vra : List Value) (z_COMP1 : Int32) (z_DEFA0 : Addr) (kx_z_DEFA0 : ClassId) (k37 : ClassId) {T0 : State} {Lc : List Loc} (h0 : Heap) (X0 : Stand p l e room_1 s m A0 below meth c T0 Lc 7 17) (e0 : T0.heap = h0) (N0 : Fr n0 Lc) (Z0 : n0 ≤ h0.size) (S_COMP1 : Sta Z h0 "java/lang/String" "COMPACT_STRINGS" "Z" (.int z_COMP1)) (hr140_hq3 : ¬ (z_COMP1 = (0 : Int32))) (S_DEFA0 : Sta Z h0 "java/util/ArrayList" "DEFAULTCAPACITY_EMPTY_ELEMENTDATA" "[Ljava/lang/Object;" (.ref z_DEFA0)) (V_z_DEFA0 : Arv Z h0 z_DEFA0 kx_z_DEFA0 (.object "java/lang/Object") (0 : Int32) [] .null) (V_b37 : Arv Z h0 b37 k37 .byte nra vra (.int (0 : Int32))) (hr357_hE : (w8e = (1 : Int32) ∧ nra = (0 : Int32) ∧ vra = []) ∨ (w8e = (0 : Int32) ∧ nra = (2 : Int32) ∧ vra = [(.int y13_92_32), (.int y14_99_34)])) (hr605_hE : (w8e = (1 : Int32) ∧ nra = (0 : Int32) ∧ vra = []) ∨ (w8e = (0 : Int32) ∧ nra = (2 : Int32) ∧ vra = [(.int y13_92_32), (.int y14_99_34)])) :
    Gl p e below (fun o U' => ∃ v L, o = .returned v ∧ (v = some (.int (1 : Int32)) ∧ Fr n0 L) ∧ FrameEnd s o U' L room_1.cells room_1.slots) (T0.setTop (mkF m 125 #[.val (.int p1), .val (.int p2), .val (.int p3), .val (.int p4), .val (.long q5), .second, .val (.int p6), .val (.int (0 : Int32)), .val (.int w8e), od9, .val (.ref b11_t0), .val (.ref b17_t0), .val (.ref b26_t0), .val (.int y13_92_32), .val (.int y14_99_34), .unset, .unset, .unset, .unset, .unset, .unset, .unset, .unset] [(.ref b37)])) := by
  obtain ⟨L0, hL0⟩ : ∃ z : Array Slot, z = #[.val (.int p1), .val (.int p2), .val (.int p3), .val (.int p4), .val (.long q5), .second, .val (.int p6), .val (.int (0 : Int32)), .val (.int w8e), od9, .val (.ref b11_t0), .val (.ref b17_t0), .val (.ref b26_t0), .val (.int y13_92_32), .val (.int y14_99_34), .unset, .unset, .unset, .unset, .unset, .unset, .unset, .unset] := ⟨_, rfl⟩
  refine Gl.cast (B := (T0.setTop (mkF m 125 L0 [(.ref b37)]))) (by rw [hL0]) ?_
  obtain ⟨L1043, hL1043⟩ : ∃ z : Array Slot, z = #[.val (.int p1), .val (.int p2), .val (.int p3), .val (.int p4), .val (.long q5), .second, .val (.int p6), .val (.int (0 : Int32)), .val (.int w8e), od9, .val (.ref b11_t0), .val (.ref b17_t0), .val (.ref b26_t0), .val (.int y13_92_32), .val (.int y14_99_34), .val (.ref b37), .unset, .unset, .unset, .unset, .unset, .unset, .unset] := ⟨_, rfl⟩
  refine Gl.st (B := (T0.setTop (mkF m 127 L1043 []))) (fun t k => XS.astore X0.here hx rfl (hb hby at_125) rfl rfl (l' := L1043) (stAt hL0 hL1043 rfl rfl) k) ?_
  obtain ⟨T1044, h1044, X1044, e1044, E1044, A1044, D1044, -, st1044⟩ := newO X0 hx hZ hown (tw hw 26 rfl) (tw hw 27 rfl) (tw hw 28 rfl) e0 (g := (mkF m 127 L1043 [])) rfl (hb hby at_127) (by decide) (by decide)
  obtain ⟨b1044, gq1044⟩ : ∃ z, z = h0.size := ⟨_, rfl⟩
  rw [← gq1044] at A1044 D1044 st1044
  have g_b1044 : n0 ≤ b1044 := Nat.le_trans Z0 (Nat.le_of_eq gq1044.symm)
  have lt_b1044 := A1044.lt
  have Zc1045 : n0 ≤ h1044.size := Nat.le_trans Z0 E1044.1
  have F1044_name : Fld Z h1044 b1044 "com/example/limpet/limpet/protocol/JoinGroup$Protocol" "name" "Ljava/lang/String;" .null := D1044 (Or.inr (tw hw 39 rfl)) (ty := (.object "java/lang/String")) (by decide)
  have F1044_metadata : Fld Z h1044 b1044 "com/example/limpet/limpet/protocol/JoinGroup$Protocol" "metadata" "[B" .null := D1044 (Or.inr (tw hw 41 rfl)) (ty := (.array .byte)) (by decide)
  refine Gl.st (B := (T1044.setTop (mkF m 130 L1043 [(.ref b1044)]))) st1044 ?_
  refine Gl.st (B := (T1044.setTop (mkF m 139 L1043 [(.int (((p4.toUInt32 >>> ((16 : Int32) &&& 31).toUInt32).toInt32) &&& (255 : Int32))), (.ref b1044), (.ref b1044)]))) (fun t k => XS.dup X1044.here hx rfl (hb hby at_130) rfl rfl (XS.iloadN X1044.here hx rfl (hb hby at_131) (ldAt hL1043 rfl) (XS.bipush X1044.here hx rfl (hb hby at_132) (XS.iushr X1044.here hx rfl (hb hby at_134) rfl (XS.sipush X1044.here hx rfl (hb hby at_135) (XS.iand X1044.here hx rfl (hb hby at_138) rfl k)))))) ?_
  refine Gl.st (B := (T1044.setTop (mkF m 140 L1043 [(.int ((((p4.toUInt32 >>> ((16 : Int32) &&& 31).toUInt32).toInt32) &&& (255 : Int32)).toUInt32.toUInt16.toUInt32.toInt32)), (.ref b1044), (.ref b1044)]))) (fun t k => XS.i2c X1044.here hx rfl (hb hby at_139) rfl k) ?_
  obtain ⟨x140_1046, hx140_1046⟩ : ∃ z : Int32, z = ((((p4.toUInt32 >>> ((16 : Int32) &&& 31).toUInt32).toInt32) &&& (255 : Int32)).toUInt32.toUInt16.toUInt32.toInt32) := ⟨_, rfl⟩
  refine Gl.cast (B := (T1044.setTop (mkF m 140 L1043 [(.int x140_1046), (.ref b1044), (.ref b1044)]))) (by rw [hx140_1046]) ?_
  have c1048 := (S_COMP1.ext E1044)
  have hp140_1049 : ¬ ((255 : Int32) < x140_1046) := own_0s125_1_hp140_1049 p4 x140_1046 hx140_1046 
  obtain ⟨_, _, ⟨T1047, L1047q, k1047, n1047⟩, -, X1047, ⟨Lc1047, hQ1047, l1047, y1047, z1047⟩, st1047⟩ := Jvm.LawKit.callS X1044 hx (y := (⟨"java/lang/String", "valueOf", "(C)Ljava/lang/String;"⟩ : MethodName)) hown (mvT hZ (tw hw 0 rfl)) (mvT hZ (tw hw 1 rfl)) (mvT hZ (tw hw 2 rfl)) (mvT hZ (tw hw 3 rfl)) (by decide) (backOf (W := 2) (rm1 l Z a0 hw [] x140_1046 z_COMP1 h1044 n0 Zc1045 c1048 hr140_hq3 hp140_1049) hZ (tw hw 3 rfl) (tw hw 2 rfl) (by decide) (by decide)) (g := (mkF m 140 L1043 [(.int x140_1046), (.ref b1044), (.ref b1044)])) rfl (szAt hml hL1043 rfl) (argsL := [(.int x140_1046)]) (rest := [(.ref b1044), (.ref b1044)]) (lenOf pd_0s125_1_0 rfl) rfl (by show 2 * 0 + _ ≤ _; exact Nat.le_of_eq rfl) (hb hby at_140) (fun _ _ => ⟨rfl, e1044, (by decide : 8 + 2 ≤ _), (by decide : 19 + 5 ≤ _)⟩)
  dsimp only [Pt.U, Pt.locs, Pt.cells, Pt.slots] at X1047 l1047 y1047 z1047 st1047 hQ1047
  subst l1047 y1047 z1047
  obtain ⟨b1047_t0, b1047_t1, k1047_kx_t1, rfl, N1047q, Kc1047, fq1047_0, fq1047_1, fq1047_2, fq1047_3, fq1047_4, fq1047_5, fq1047_6⟩ := hQ1047
  have g_b1047_t0 : n0 ≤ b1047_t0 := Nat.le_trans Zc1045 fq1047_0
  have lt_b1047_t0 := fq1047_2.lt
  have g_b1047_t1 : n0 ≤ b1047_t1 := Nat.le_trans Zc1045 fq1047_1
  have lt_b1047_t1 := fq1047_5.lt
  have Zc1050 : n0 ≤ T1047.heap.size := Nat.le_trans Zc1045 Kc1047.1
  obtain ⟨f140_1051, hf140_1051⟩ : ∃ z : Int32, z = ((nar .byte (0 : Int32))) := ⟨_, rfl⟩
  rw [← hf140_1051] at fq1047_3
  have N1047 := Fr.app N0 N1047q
  refine Gl.st (B := (T1047.setTop (mkF m 143 L1043 [(.ref b1047_t0), (.ref b1044), (.ref b1044)]))) (fun t k => st1047 t k) ?_
  refine Gl.st (B := (T1047.setTop (mkF m 144 L1043 [(.int (1 : Int32)), (.ref b1047_t0), (.ref b1044), (.ref b1044)]))) (fun t k => XS.iconst X1047.here hx rfl (hb hby at_143) k) ?_
  obtain ⟨T1052, h1052, k1052, X1052, e1052, E1052, A1052, Ex1052, st1052⟩ := newPE X1047 hx hZ (tw hw 14 rfl) rfl (g := (mkF m 144 L1043 [(.int (1 : Int32)), (.ref b1047_t0), (.ref b1044), (.ref b1044)])) rfl (hb hby at_144) rfl (by decide) (cap := 1) (by decide) (by decide) (by decide) (by decide) (ad := "[B") rfl
  obtain ⟨b1052, gq1052⟩ : ∃ z, z = T1047.heap.size := ⟨_, rfl⟩
  rw [← gq1052] at A1052 Ex1052 st1052
  have V1052 : Arv Z h1052 b1052 k1052 .byte (1 : Int32) [(.int (0 : Int32))] (.int (0 : Int32)) := (Arv.new A1052 (by decide)).pad (pad_rep [] (.int (0 : Int32)) 1)
  have g_b1052 : n0 ≤ b1052 := Nat.le_trans Zc1050 (Nat.le_of_eq gq1052.symm)
  have lt_b1052 := V1052.lt
  have Zc1053 : n0 ≤ h1052.size := Nat.le_trans Zc1050 E1052.1
  refine Gl.st (B := (T1052.setTop (mkF m 146 L1043 [(.ref b1052), (.ref b1047_t0), (.ref b1044), (.ref b1044)]))) st1052 ?_
  refine Gl.st (B := (T1052.setTop (mkF m 153 L1043 [(.int (((p4.toUInt32 >>> ((24 : Int32) &&& 31).toUInt32).toInt32).toInt8.toInt32)), (.int (0 : Int32)), (.ref b1052), (.ref b1052), (.ref b1047_t0), (.ref b1044), (.ref b1044)]))) (fun t k => XS.dup X1052.here hx rfl (hb hby at_146) rfl rfl (XS.iconst X1052.here hx rfl (hb hby at_147) (XS.iloadN X1052.here hx rfl (hb hby at_148) (ldAt hL1043 rfl) (XS.bipush X1052.here hx rfl (hb hby at_149) (XS.iushr X1052.here hx rfl (hb hby at_151) rfl (XS.i2b X1052.here hx rfl (hb hby at_152) rfl k)))))) ?_
  obtain ⟨x153_1054, hx153_1054⟩ : ∃ z : Int32, z = (((p4.toUInt32 >>> ((24 : Int32) &&& 31).toUInt32).toInt32).toInt8.toInt32) := ⟨_, rfl⟩
  refine Gl.cast (B := (T1052.setTop (mkF m 153 L1043 [(.int x153_1054), (.int (0 : Int32)), (.ref b1052), (.ref b1052), (.ref b1047_t0), (.ref b1044), (.ref b1044)]))) (by rw [hx153_1054]) ?_
  obtain ⟨cl1055, Ar1055, q1055, S1055, P1055, H1055, G1055⟩ := (id V1052)
  have hin153_1055 : ¬ ((0 : Int32) < 0 ∨ cl1055.slots.size ≤ ((0 : Int32)).toNatClampNeg) := inb_of S1055 ⟨by decide, by decide⟩
  obtain ⟨T1055, h1055, X1055, e1055, W1055, st1055⟩ := stB X1052 hx hZ e1052 Ar1055 (j := (0 : Int32)) hin153_1055 (g := (mkF m 153 L1043 [(.int x153_1054), (.int (0 : Int32)), (.ref b1052), (.ref b1052), (.ref b1047_t0), (.ref b1044), (.ref b1044)])) rfl rfl (hb hby at_153)
  have V1055 : Arv Z h1055 b1052 k1052 .byte (1 : Int32) [(.int (nar .byte x153_1054))] (.int (0 : Int32)) := Arv.set Ar1055 q1055 S1055 P1055 H1055 G1055 (fits_nar_byte _) W1055 0 rfl (Nat.le_of_ble_eq_true rfl)
  have Zc1056 : n0 ≤ h1055.size := Nat.le_trans Zc1053 (Nat.le_of_eq W1055.size.symm)
  have N1055 := Fr.snoc X1055 N1047 g_b1052
  refine Gl.st (B := (T1055.setTop (mkF m 154 L1043 [(.ref b1052), (.ref b1047_t0), (.ref b1044), (.ref b1044)]))) st1055 ?_
  have ne_b1044_b1052_1058 : b1044 ≠ b1052 := Nat.ne_of_lt (Nat.lt_of_lt_of_le lt_b1044 (Nat.le_trans Kc1047.1 (Nat.le_of_eq gq1052.symm)))
  have c1059 := (((F1044_name.keep Kc1047 nin0).ext E1052).other W1055 (Or.inl ne_b1044_b1052_1058))
  have c1060 := (((F1044_metadata.keep Kc1047 nin0).ext E1052).other W1055 (Or.inl ne_b1044_b1052_1058))
  have c1061 := (((A1044.keep Kc1047).ext E1052).wr W1055)
  obtain ⟨_, _, ⟨T1057, L1057q, k1057, n1057⟩, -, X1057, ⟨Lc1057, hQ1057, l1057, y1057, z1057⟩, st1057⟩ := X1055.specialBack hx (y := (⟨"com/example/limpet/limpet/protocol/JoinGroup$Protocol", "<init>", "(Ljava/lang/String;[B)V"⟩ : MethodName)) rfl hown (mvT hZ (tw hw 29 rfl)) (mvT hZ (tw hw 30 rfl)) (mvT hZ (tw hw 31 rfl)) (by decide) (backOf (W := 1) (rm6 l Z a0 hw [] b1044 b1047_t0 b1052 .null .null h1055 n0 Zc1056 c1059 c1060 c1061 g_b1044) hZ (tw hw 31 rfl) (tw hw 28 rfl) (by decide) (by decide)) (g := (mkF m 154 L1043 [(.ref b1052), (.ref b1047_t0), (.ref b1044), (.ref b1044)])) rfl (szAt hml hL1043 rfl) (Steps.refl _) (a := b1044) (argsL := [(.ref b1047_t0), (.ref b1052)]) (rest := [(.ref b1044)]) (lenOf pd_0s125_1_1 rfl) rfl (by show 2 * 0 + _ ≤ _; exact Nat.le_of_eq rfl) (hb hby at_154) (fun _ _ => ⟨rfl, e1055, (by decide : 11 + 0 ≤ _), (by decide : 25 + 0 ≤ _)⟩)
  dsimp only [Pt.U, Pt.locs, Pt.cells, Pt.slots] at X1057 l1057 y1057 z1057 st1057 hQ1057
  subst l1057 y1057 z1057
  obtain ⟨rfl, N1057q, Kc1057, fq1057_0, fq1057_1, fq1057_2⟩ := hQ1057
  have Zc1062 : n0 ≤ T1057.heap.size := Nat.le_trans Zc1056 Kc1057.1
  have N1057 := Fr.app N1055 N1057q
  refine Gl.st (B := (T1057.setTop (mkF m 157 L1043 [(.ref b1044)]))) (fun t k => st1057.trans k) ?_
  obtain ⟨L1063, hL1063⟩ : ∃ z : Array Slot, z = #[.val (.int p1), .val (.int p2), .val (.int p3), .val (.int p4), .val (.long q5), .second, .val (.int p6), .val (.int (0 : Int32)), .val (.int w8e), od9, .val (.ref b11_t0), .val (.ref b17_t0), .val (.ref b26_t0), .val (.int y13_92_32), .val (.int y14_99_34), .val (.ref b37), .val (.ref b1044), .unset, .unset, .unset, .unset, .unset, .unset] := ⟨_, rfl⟩
  obtain ⟨L1064, hL1064⟩ : ∃ z : Array Slot, z = #[.val (.int p1), .val (.int p2), .val (.int p3), .val (.int p4), .val (.long q5), .second, .val (.int p6), .val (.int (0 : Int32)), .val (.int w8e), od9, .val (.ref b11_t0), .val (.ref b17_t0), .val (.ref b26_t0), .val (.int y13_92_32), .val (.int y14_99_34), .val (.ref b37), .val (.ref b1044), .val .null, .unset, .unset, .unset, .unset, .unset] := ⟨_, rfl⟩
  refine Gl.st (B := (T1057.setTop (mkF m 167 L1064 []))) (fun t k => XS.astore X1057.here hx rfl (hb hby at_157) rfl rfl (l' := L1063) (stAt hL1043 hL1063 rfl rfl) (XS.aconstNull X1057.here hx rfl (hb hby at_159) (XS.astore X1057.here hx rfl (hb hby at_160) rfl rfl (l' := L1064) (stAt hL1063 hL1064 rfl rfl) (XS.iload X1057.here hx rfl (hb hby at_162) (ldAt hL1064 rfl) (XS.ifNo X1057.here hx rfl (hb hby at_164) rfl (by decide) k))))) ?_
  obtain ⟨T1065, h1065, X1065, e1065, E1065, A1065, D1065, -, st1065⟩ := newO X1057 hx hZ hown (tw hw 42 rfl) (tw hw 43 rfl) (tw hw 44 rfl) rfl (g := (mkF m 167 L1064 [])) rfl (hb hby at_167) (by decide) (by decide)
  obtain ⟨b1065, gq1065⟩ : ∃ z, z = T1057.heap.size := ⟨_, rfl⟩
  rw [← gq1065] at A1065 D1065 st1065
  have g_b1065 : n0 ≤ b1065 := Nat.le_trans Zc1062 (Nat.le_of_eq gq1065.symm)
  have lt_b1065 := A1065.lt
  have Zc1066 : n0 ≤ h1065.size := Nat.le_trans Zc1062 E1065.1
  have F1065_modCount : Fld Z h1065 b1065 "java/util/AbstractList" "modCount" "I" (.int (0 : Int32)) := D1065 (Or.inl (tw hw 62 rfl)) (ty := .int) (by decide)
  have F1065_elementData : Fld Z h1065 b1065 "java/util/ArrayList" "elementData" "[Ljava/lang/Object;" .null := D1065 (Or.inl (tw hw 65 rfl)) (ty := (.array (.object "java/lang/Object"))) (by decide)
  have F1065_size : Fld Z h1065 b1065 "java/util/ArrayList" "size" "I" (.int (0 : Int32)) := D1065 (Or.inl (tw hw 78 rfl)) (ty := .int) (by decide)
  refine Gl.st (B := (T1065.setTop (mkF m 170 L1064 [(.ref b1065)]))) st1065 ?_
  refine Gl.st (B := (T1065.setTop (mkF m 171 L1064 [(.ref b1065), (.ref b1065)]))) (fun t k => XS.dup X1065.here hx rfl (hb hby at_170) rfl rfl k) ?_
  have c1068 := ((own_sta_keep (((own_sta_keep (S_DEFA0.ext E1044) Kc1047 all0).ext E1052).wr W1055) Kc1057 (allS (own_exa_plain c1061) all0)).ext E1065)
  obtain ⟨_, _, ⟨T1067, L1067q, k1067, n1067⟩, -, X1067, ⟨Lc1067, hQ1067, l1067, y1067, z1067⟩, st1067⟩ := X1065.specialBack hx (y := (⟨"java/util/ArrayList", "<init>", "()V"⟩ : MethodName)) rfl hown (mvT hZ (tw hw 45 rfl)) (mvT hZ (tw hw 46 rfl)) (mvT hZ (tw hw 47 rfl)) (by decide) (backOf (W := 1) (rm8 l Z a0 hw [] b1065 ((.int (0 : Int32))) .null ((.int (0 : Int32))) z_DEFA0 h1065 n0 Zc1066 F1065_modCount F1065_elementData F1065_size A1065 g_b1065 c1068) hZ (tw hw 47 rfl) (tw hw 44 rfl) (by decide) (by decide)) (g := (mkF m 171 L1064 [(.ref b1065), (.ref b1065)])) rfl (szAt hml hL1064 rfl) (Steps.refl _) (a := b1065) (argsL := []) (rest := [(.ref b1065)]) (lenOf pd_0s125_1_2 rfl) rfl (by show 2 * 0 + _ ≤ _; exact Nat.le_of_eq rfl) (hb hby at_171) (fun _ _ => ⟨rfl, e1065, (by decide : 12 + 0 ≤ _), (by decide : 28 + 0 ≤ _)⟩)
  dsimp only [Pt.U, Pt.locs, Pt.cells, Pt.slots] at X1067 l1067 y1067 z1067 st1067 hQ1067
  subst l1067 y1067 z1067
  obtain ⟨rfl, N1067q, Kc1067, fq1067_0, fq1067_1, fq1067_2, fq1067_3⟩ := hQ1067
  have Zc1069 : n0 ≤ T1067.heap.size := Nat.le_trans Zc1066 Kc1067.1
  have N1067 := Fr.app N1057 N1067q
  refine Gl.st (B := (T1067.setTop (mkF m 174 L1064 [(.ref b1065)]))) (fun t k => st1067.trans k) ?_
  obtain ⟨L1070, hL1070⟩ : ∃ z : Array Slot, z = #[.val (.int p1), .val (.int p2), .val (.int p3), .val (.int p4), .val (.long q5), .second, .val (.int p6), .val (.int (0 : Int32)), .val (.int w8e), od9, .val (.ref b11_t0), .val (.ref b17_t0), .val (.ref b26_t0), .val (.int y13_92_32), .val (.int y14_99_34), .val (.ref b37), .val (.ref b1044), .val (.ref b1065), .unset, .unset, .unset, .unset, .unset] := ⟨_, rfl⟩
  refine Gl.st (B := (T1067.setTop (mkF m 180 L1070 [(.ref b1044), (.ref b1065)]))) (fun t k => XS.astore X1067.here hx rfl (hb hby at_174) rfl rfl (l' := L1070) (stAt hL1064 hL1070 rfl rfl) (XS.aload X1067.here hx rfl (hb hby at_176) (ldAt hL1070 rfl) rfl (XS.aload X1067.here hx rfl (hb hby at_178) (ldAt hL1070 rfl) rfl k))) ?_
  have c1072 := (own_sta_keep c1068 Kc1067 (allS (own_exa_plain A1065) all0))
  have ne_z_DEFA0_b1052_1073 : z_DEFA0 ≠ b1052 := Nat.ne_of_lt (Nat.lt_of_lt_of_le V_z_DEFA0.lt (Nat.le_trans E1044.1 (Nat.le_trans Kc1047.1 (Nat.le_of_eq gq1052.symm))))
  have ne_z_DEFA0_b1044_1074 : z_DEFA0 ≠ b1044 := Nat.ne_of_lt (Nat.lt_of_lt_of_le V_z_DEFA0.lt (Nat.le_of_eq gq1044.symm))
  have ne_z_DEFA0_b1065_1075 : z_DEFA0 ≠ b1065 := Nat.ne_of_lt (Nat.lt_of_lt_of_le V_z_DEFA0.lt (Nat.le_trans E1044.1 (Nat.le_trans Kc1047.1 (Nat.le_trans E1052.1 (Nat.le_trans (Nat.le_of_eq W1055.size.symm) (Nat.le_trans Kc1057.1 (Nat.le_of_eq gq1065.symm)))))))
  have c1076 := (((((((V_z_DEFA0.ext E1044).keep Kc1047 nin0).ext E1052).other W1055 ne_z_DEFA0_b1052_1073).keep Kc1057 (ninS ne_z_DEFA0_b1044_1074 nin0)).ext E1065).keep Kc1067 (ninS ne_z_DEFA0_b1065_1075 nin0))
  have c1077 := ((fq1057_0.ext E1065).keep Kc1067)
  obtain ⟨cq1071, kq1071, q1071a, q1071b, q1071c⟩ := isOf hZ rfl fq1067_0
  obtain ⟨_, _, ⟨T1071, L1071q, k1071, n1071⟩, -, X1071, ⟨Lc1071, hQ1071, l1071, y1071, z1071⟩, st1071⟩ := X1067.interfaceBack hx (xi := (⟨"java/util/List", "add", "(Ljava/lang/Object;)Z"⟩ : MethodName)) (y := (⟨"java/util/ArrayList", "add", "(Ljava/lang/Object;)Z"⟩ : MethodName)) hown (mvT hZ (tw hw 66 rfl)) (mvT hZ (tw hw 67 rfl)) (mvT hZ (tw hw 68 rfl)) (mvT hZ (tw hw 69 rfl)) (mvT hZ (tw hw 70 rfl)) (mvT hZ (tw hw 71 rfl)) (mvT hZ (tw hw 72 rfl)) (mvT hZ (tw hw 73 rfl)) (by decide) (backOf (W := 0) (rm11 l Z a0 hw [] b1065 b1044 kx_z_DEFA0 (0 : Int32) z_DEFA0 T1067.heap n0 Zc1069 c1076 fq1067_2 fq1067_0 g_b1065 fq1067_1 fq1067_3 c1072 (Ne.symm ne_z_DEFA0_b1065_1075) c1077) hZ (tw hw 74 rfl) (tw hw 44 rfl) (by decide) (by decide)) q1071a q1071b q1071c (g := (mkF m 180 L1070 [(.ref b1044), (.ref b1065)])) rfl (szAt hml hL1070 rfl) (Steps.refl _) (argsL := [(.ref b1044)]) (rest := []) (lenOf pd_0s125_1_3 rfl) rfl (by show 2 * 0 + _ ≤ _; exact Nat.le_of_eq rfl) (hb hby at_180) (fun _ _ => ⟨rfl, rfl, (by decide : 12 + 1 ≤ _), (by decide : 28 + 10 ≤ _)⟩)
  dsimp only [Pt.U, Pt.locs, Pt.cells, Pt.slots] at X1071 l1071 y1071 z1071 st1071 hQ1071
  subst l1071 y1071 z1071
  obtain ⟨b1071_t0, k1071_kx_t0, rfl, N1071q, Kc1071, fq1071_0, fq1071_1, fq1071_2, fq1071_3, fq1071_4, fq1071_5, fq1071_6⟩ := hQ1071
  have g_b1071_t0 : n0 ≤ b1071_t0 := Nat.le_trans Zc1069 fq1071_0
  have lt_b1071_t0 := fq1071_5.lt
  have Zc1078 : n0 ≤ T1071.heap.size := Nat.le_trans Zc1069 Kc1071.1
  obtain ⟨f180_1079, hf180_1079⟩ : ∃ z : Int32, z = (((0 : Int32) + (1 : Int32))) := ⟨_, rfl⟩
  rw [← hf180_1079] at fq1071_3
  have N1071 := Fr.app N1067 N1071q
  refine Gl.st (B := (T1071.setTop (mkF m 185 L1070 [(.int (1 : Int32))]))) (fun t k => st1071.trans k) ?_
  refine Gl.st (B := (T1071.setTop (mkF m 186 L1070 []))) (fun t k => XS.pop X1071.here hx rfl (hb hby at_185) rfl rfl k) ?_
  obtain ⟨T1080, h1080, X1080, e1080, E1080, A1080, D1080, -, st1080⟩ := newO X1071 hx hZ hown (tw hw 42 rfl) (tw hw 43 rfl) (tw hw 44 rfl) rfl (g := (mkF m 186 L1070 [])) rfl (hb hby at_186) (by decide) (by decide)
  obtain ⟨b1080, gq1080⟩ : ∃ z, z = T1071.heap.size := ⟨_, rfl⟩
  rw [← gq1080] at A1080 D1080 st1080
  have g_b1080 : n0 ≤ b1080 := Nat.le_trans Zc1078 (Nat.le_of_eq gq1080.symm)
  have lt_b1080 := A1080.lt
  have Zc1081 : n0 ≤ h1080.size := Nat.le_trans Zc1078 E1080.1
  have F1080_modCount : Fld Z h1080 b1080 "java/util/AbstractList" "modCount" "I" (.int (0 : Int32)) := D1080 (Or.inl (tw hw 62 rfl)) (ty := .int) (by decide)
  have F1080_elementData : Fld Z h1080 b1080 "java/util/ArrayList" "elementData" "[Ljava/lang/Object;" .null := D1080 (Or.inl (tw hw 65 rfl)) (ty := (.array (.object "java/lang/Object"))) (by decide)
  have F1080_size : Fld Z h1080 b1080 "java/util/ArrayList" "size" "I" (.int (0 : Int32)) := D1080 (Or.inl (tw hw 78 rfl)) (ty := .int) (by decide)
  refine Gl.st (B := (T1080.setTop (mkF m 189 L1070 [(.ref b1080)]))) st1080 ?_
  refine Gl.st (B := (T1080.setTop (mkF m 190 L1070 [(.ref b1080), (.ref b1080)]))) (fun t k => XS.dup X1080.here hx rfl (hb hby at_189) rfl rfl k) ?_
  have c1083 := ((own_sta_keep c1072 Kc1071 (allS (own_exa_plain fq1067_0) all0)).ext E1080)
  obtain ⟨_, _, ⟨T1082, L1082q, k1082, n1082⟩, -, X1082, ⟨Lc1082, hQ1082, l1082, y1082, z1082⟩, st1082⟩ := X1080.specialBack hx (y := (⟨"java/util/ArrayList", "<init>", "()V"⟩ : MethodName)) rfl hown (mvT hZ (tw hw 45 rfl)) (mvT hZ (tw hw 46 rfl)) (mvT hZ (tw hw 47 rfl)) (by decide) (backOf (W := 1) (rm8 l Z a0 hw [] b1080 ((.int (0 : Int32))) .null ((.int (0 : Int32))) z_DEFA0 h1080 n0 Zc1081 F1080_modCount F1080_elementData F1080_size A1080 g_b1080 c1083) hZ (tw hw 47 rfl) (tw hw 44 rfl) (by decide) (by decide)) (g := (mkF m 190 L1070 [(.ref b1080), (.ref b1080)])) rfl (szAt hml hL1070 rfl) (Steps.refl _) (a := b1080) (argsL := []) (rest := [(.ref b1080)]) (lenOf pd_0s125_1_2 rfl) rfl (by show 2 * 0 + _ ≤ _; exact Nat.le_of_eq rfl) (hb hby at_190) (fun _ _ => ⟨rfl, e1080, (by decide : 14 + 0 ≤ _), (by decide : 41 + 0 ≤ _)⟩)
  dsimp only [Pt.U, Pt.locs, Pt.cells, Pt.slots] at X1082 l1082 y1082 z1082 st1082 hQ1082
  subst l1082 y1082 z1082
  obtain ⟨rfl, N1082q, Kc1082, fq1082_0, fq1082_1, fq1082_2, fq1082_3⟩ := hQ1082
  have Zc1084 : n0 ≤ T1082.heap.size := Nat.le_trans Zc1081 Kc1082.1
  have N1082 := Fr.app N1071 N1082q
  refine Gl.st (B := (T1082.setTop (mkF m 193 L1070 [(.ref b1080)]))) (fun t k => st1082.trans k) ?_
  obtain ⟨L1085, hL1085⟩ : ∃ z : Array Slot, z = #[.val (.int p1), .val (.int p2), .val (.int p3), .val (.int p4), .val (.long q5), .second, .val (.int p6), .val (.int (0 : Int32)), .val (.int w8e), od9, .val (.ref b11_t0), .val (.ref b17_t0), .val (.ref b26_t0), .val (.int y13_92_32), .val (.int y14_99_34), .val (.ref b37), .val (.ref b1044), .val (.ref b1065), .val (.ref b1080), .unset, .unset, .unset, .unset] := ⟨_, rfl⟩
  refine Gl.st (B := (T1082.setTop (mkF m 196 L1085 [(.int (1 : Int32))]))) (fun t k => XS.astore X1082.here hx rfl (hb hby at_193) rfl rfl (l' := L1085) (stAt hL1070 hL1085 rfl rfl) (XS.iconst X1082.here hx rfl (hb hby at_195) k)) ?_
  obtain ⟨T1086, h1086, k1086, X1086, e1086, E1086, A1086, Ex1086, st1086⟩ := newPE X1082 hx hZ (tw hw 14 rfl) rfl (g := (mkF m 196 L1085 [(.int (1 : Int32))])) rfl (hb hby at_196) rfl (by decide) (cap := 1) (by decide) (by decide) (by decide) (by decide) (ad := "[B") rfl
  obtain ⟨b1086, gq1086⟩ : ∃ z, z = T1082.heap.size := ⟨_, rfl⟩
  rw [← gq1086] at A1086 Ex1086 st1086
  have V1086 : Arv Z h1086 b1086 k1086 .byte (1 : Int32) [(.int (0 : Int32))] (.int (0 : Int32)) := (Arv.new A1086 (by decide)).pad (pad_rep [] (.int (0 : Int32)) 1)
  have g_b1086 : n0 ≤ b1086 := Nat.le_trans Zc1084 (Nat.le_of_eq gq1086.symm)
  have lt_b1086 := V1086.lt
  have Zc1087 : n0 ≤ h1086.size := Nat.le_trans Zc1084 E1086.1
  refine Gl.st (B := (T1086.setTop (mkF m 198 L1085 [(.ref b1086)]))) st1086 ?_
  refine Gl.st (B := (T1086.setTop (mkF m 203 L1085 [(.int (p6.toInt8.toInt32)), (.int (0 : Int32)), (.ref b1086), (.ref b1086)]))) (fun t k => XS.dup X1086.here hx rfl (hb hby at_198) rfl rfl (XS.iconst X1086.here hx rfl (hb hby at_199) (XS.iload X1086.here hx rfl (hb hby at_200) (ldAt hL1085 rfl) (XS.i2b X1086.here hx rfl (hb hby at_202) rfl k)))) ?_
  obtain ⟨x203_1088, hx203_1088⟩ : ∃ z : Int32, z = (p6.toInt8.toInt32) := ⟨_, rfl⟩
  refine Gl.cast (B := (T1086.setTop (mkF m 203 L1085 [(.int x203_1088), (.int (0 : Int32)), (.ref b1086), (.ref b1086)]))) (by rw [hx203_1088]) ?_
  obtain ⟨cl1089, Ar1089, q1089, S1089, P1089, H1089, G1089⟩ := (id V1086)
  have hin203_1089 : ¬ ((0 : Int32) < 0 ∨ cl1089.slots.size ≤ ((0 : Int32)).toNatClampNeg) := inb_of S1089 ⟨by decide, by decide⟩
  obtain ⟨T1089, h1089, X1089, e1089, W1089, st1089⟩ := stB X1086 hx hZ e1086 Ar1089 (j := (0 : Int32)) hin203_1089 (g := (mkF m 203 L1085 [(.int x203_1088), (.int (0 : Int32)), (.ref b1086), (.ref b1086)])) rfl rfl (hb hby at_203)
  have V1089 : Arv Z h1089 b1086 k1086 .byte (1 : Int32) [(.int (nar .byte x203_1088))] (.int (0 : Int32)) := Arv.set Ar1089 q1089 S1089 P1089 H1089 G1089 (fits_nar_byte _) W1089 0 rfl (Nat.le_of_ble_eq_true rfl)
  have Zc1090 : n0 ≤ h1089.size := Nat.le_trans Zc1087 (Nat.le_of_eq W1089.size.symm)
  have N1089 := Fr.snoc X1089 N1082 g_b1086
  refine Gl.st (B := (T1089.setTop (mkF m 204 L1085 [(.ref b1086)]))) st1089 ?_
  obtain ⟨L1091, hL1091⟩ : ∃ z : Array Slot, z = #[.val (.int p1), .val (.int p2), .val (.int p3), .val (.int p4), .val (.long q5), .second, .val (.int p6), .val (.int (0 : Int32)), .val (.int w8e), od9, .val (.ref b11_t0), .val (.ref b17_t0), .val (.ref b26_t0), .val (.int y13_92_32), .val (.int y14_99_34), .val (.ref b37), .val (.ref b1044), .val (.ref b1065), .val (.ref b1080), .val (.ref b1086), .unset, .unset, .unset] := ⟨_, rfl⟩
  refine Gl.st (B := (T1089.setTop (mkF m 206 L1091 []))) (fun t k => XS.astore X1089.here hx rfl (hb hby at_204) rfl rfl (l' := L1091) (stAt hL1085 hL1091 rfl rfl) k) ?_
  have ne_b1065_b1080_1092 : b1065 ≠ b1080 := Nat.ne_of_lt (Nat.lt_of_lt_of_le lt_b1065 (Nat.le_trans Kc1067.1 (Nat.le_trans Kc1071.1 (Nat.le_of_eq gq1080.symm))))
  have ne_b1065_b1086_1093 : b1065 ≠ b1086 := Nat.ne_of_lt (Nat.lt_of_lt_of_le lt_b1065 (Nat.le_trans Kc1067.1 (Nat.le_trans Kc1071.1 (Nat.le_trans E1080.1 (Nat.le_trans Kc1082.1 (Nat.le_of_eq gq1086.symm))))))
  have c1094 := ((((fq1071_4.ext E1080).keep Kc1082 (ninS ne_b1065_b1080_1092 nin0)).ext E1086).other W1089 (Or.inl ne_b1065_b1086_1093))
  have c1095 := ((((fq1071_2.ext E1080).keep Kc1082 (ninS ne_b1065_b1080_1092 nin0)).ext E1086).other W1089 (Or.inl ne_b1065_b1086_1093))
  have ne_b37_b1052_1096 : b37 ≠ b1052 := Nat.ne_of_lt (Nat.lt_of_lt_of_le V_b37.lt (Nat.le_trans E1044.1 (Nat.le_trans Kc1047.1 (Nat.le_of_eq gq1052.symm))))
  have ne_b37_b1044_1097 : b37 ≠ b1044 := Nat.ne_of_lt (Nat.lt_of_lt_of_le V_b37.lt (Nat.le_of_eq gq1044.symm))
  have ne_b37_b1065_1098 : b37 ≠ b1065 := Nat.ne_of_lt (Nat.lt_of_lt_of_le V_b37.lt (Nat.le_trans E1044.1 (Nat.le_trans Kc1047.1 (Nat.le_trans E1052.1 (Nat.le_trans (Nat.le_of_eq W1055.size.symm) (Nat.le_trans Kc1057.1 (Nat.le_of_eq gq1065.symm)))))))
  have ne_b37_b1080_1099 : b37 ≠ b1080 := Nat.ne_of_lt (Nat.lt_of_lt_of_le V_b37.lt (Nat.le_trans E1044.1 (Nat.le_trans Kc1047.1 (Nat.le_trans E1052.1 (Nat.le_trans (Nat.le_of_eq W1055.size.symm) (Nat.le_trans Kc1057.1 (Nat.le_trans E1065.1 (Nat.le_trans Kc1067.1 (Nat.le_trans Kc1071.1 (Nat.le_of_eq gq1080.symm))))))))))
  have ne_b37_b1086_1100 : b37 ≠ b1086 := Nat.ne_of_lt (Nat.lt_of_lt_of_le V_b37.lt (Nat.le_trans E1044.1 (Nat.le_trans Kc1047.1 (Nat.le_trans E1052.1 (Nat.le_trans (Nat.le_of_eq W1055.size.symm) (Nat.le_trans Kc1057.1 (Nat.le_trans E1065.1 (Nat.le_trans Kc1067.1 (Nat.le_trans Kc1071.1 (Nat.le_trans E1080.1 (Nat.le_trans Kc1082.1 (Nat.le_of_eq gq1086.symm))))))))))))
  have c1101 := ((((((((((((V_b37.ext E1044).keep Kc1047 nin0).ext E1052).other W1055 ne_b37_b1052_1096).keep Kc1057 (ninS ne_b37_b1044_1097 nin0)).ext E1065).keep Kc1067 (ninS ne_b37_b1065_1098 nin0)).keep Kc1071 (ninS ne_b37_b1065_1098 nin0)).ext E1080).keep Kc1082 (ninS ne_b37_b1080_1099 nin0)).ext E1086).other W1089 ne_b37_b1086_1100)
  have ne_b1071_t0_b1080_1102 : b1071_t0 ≠ b1080 := Nat.ne_of_lt (Nat.lt_of_lt_of_le lt_b1071_t0 (Nat.le_of_eq gq1080.symm))
  have ne_b1071_t0_b1086_1103 : b1071_t0 ≠ b1086 := Nat.ne_of_lt (Nat.lt_of_lt_of_le lt_b1071_t0 (Nat.le_trans E1080.1 (Nat.le_trans Kc1082.1 (Nat.le_of_eq gq1086.symm))))
  have c1104 := ((((fq1071_5.ext E1080).keep Kc1082 (ninS ne_b1071_t0_b1080_1102 nin0)).ext E1086).other W1089 ne_b1071_t0_b1086_1103)
  have c1105 := ((((fq1071_1.ext E1080).keep Kc1082).ext E1086).wr W1089)
  refine Gl.cast (B := (T1089.setTop (mkF m 206 #[.val (.int p1), .val (.int p2), .val (.int p3), .val (.int p4), .val (.long q5), .second, .val (.int p6), .val (.int (0 : Int32)), .val (.int w8e), od9, .val (.ref b11_t0), .val (.ref b17_t0), .val (.ref b26_t0), .val (.int y13_92_32), .val (.int y14_99_34), .val (.ref b37), .val (.ref b1044), .val (.ref b1065), .val (.ref b1080), .val (.ref b1086), .unset, .unset, .unset] []))) (by rw [hL1091]) ?_
  exact sg_206_2 l Z a0 hw hx hby hml hret hlk hZ hown n0 p1 p2 p3 p4 q5 p6 w8e b11_t0 b17_t0 b26_t0 y13_92_32 y14_99_34 b37 b1044 b1065 b1080 b1086 b1071_t0 k37 nra vra k1071_kx_t0 h1089 (X1089.more (by decide) (by decide)) e1089 N1089 Zc1090 c1094 c1095 c1101 c1104 fq1071_6 hr357_hE c1105 hr605_hE
theorem pd_0s582_11_0 : parseMethodDescriptor "([BZBB)Z" = some ⟨[(.array .byte), .boolean, .byte, .byte], some .boolean⟩ := by decide +kernel
set_option maxRecDepth 65536 in
set_option maxHeartbeats 40000000 in
theorem sg_582_11 (l : Launch) (Z : State) (a0 : Array Value) (hw : ∀ d ∈ tables_1, d.before a0 Z = true) {p : Program} {e : Env} {s : State} {m : MethodId} {A0 : Array Value} {below : List Frame} {meth : Method} {c : Code} (hx : p.tables.exec = Jvm.exec) (hby : c.code = code) (hml : c.maxLocals = 23) (hret : meth.sig.returnType = ret) (hlk : meth.locks = false) (hZ : Z.Warmed39 s.vm) (hown : s.vm.findClass "com/example/limpet/limpet/group/MemberTakeOverPinLaw" = some m.cls) (n0 : Nat) (p1 : Int32) (p2 : Int32) (p3 : Int32) (p4 : Int32) (q5 : Int64) (p6 : Int32) (w8e : Int32) (od9 : Slot) (od10 : Slot) (od11 : Slot) (od12 : Slot) (y13_92_63 : Int32) (y14_99_65 : Int32) (b68 : Addr) (b1075 : Addr) (od18 : Slot) (od19 : Slot) (b2108 : Addr) (b2113 : Addr) (k68 : ClassId) (nra : Int32) (vra : List Value) (x257_2131 : Int32) (x265_2136 : Int32) (x276_2141 : Int64) {T0 : State} {Lc : List Loc} (h0 : Heap) (X0 : Stand p l e room_1 s m A0 below meth c T0 Lc 17 49) (e0 : T0.heap = h0) (N0 : Fr n0 Lc) (Z0 : n0 ≤ h0.size) (F_assignment_b2108 : Fld Z h0 b2108 "com/example/limpet/limpet/group/Member" "assignment" "[B" (.ref b68)) (V_b68 : Arv Z h0 b68 k68 .byte nra vra (.int (0 : Int32))) (hr605_hE : (w8e = (1 : Int32) ∧ nra = (0 : Int32) ∧ vra = []) ∨ (w8e = (0 : Int32) ∧ nra = (2 : Int32) ∧ vra = [(.int y13_92_63), (.int y14_99_65)])) (F_protocols_b2108 : Fld Z h0 b2108 "com/example/limpet/limpet/group/Member" "protocols" "Ljava/util/List;" .null) (F_sess2_b2108 : Fld Z h0 b2108 "com/example/limpet/limpet/group/Member" "sessionTimeoutMs" "I" (.int x257_2131)) (F_reba3_b2108 : Fld Z h0 b2108 "com/example/limpet/limpet/group/Member" "rebalanceTimeoutMs" "I" (.int x265_2136)) (F_sess4_b2108 : Fld Z h0 b2108 "com/example/limpet/limpet/group/Member" "sessionDeadline" "J" (.long x276_2141)) (F_pendingJoin_b2108 : Fld Z h0 b2108 "com/example/limpet/limpet/group/Member" "pendingJoin" "Ljava/util/function/Consumer;" .null) (F_pendingSync_b2108 : Fld Z h0 b2108 "com/example/limpet/limpet/group/Member" "pendingSync" "Ljava/util/function/Consumer;" .null) (hq694 : x257_2131 = (p3 ^^^ (-1 : Int32))) (hq705 : x265_2136 = (p4 ^^^ (-1 : Int32))) (hq720 : x276_2141 = (q5 ^^^ (-1 : Int64))) (E_b2108 : Exa Z h0 b2108 "com/example/limpet/limpet/group/Member") :
    Gl p e below (fun o U' => ∃ v L, o = .returned v ∧ (v = some (.int (1 : Int32)) ∧ Fr n0 L) ∧ FrameEnd s o U' L room_1.cells room_1.slots) (T0.setTop (mkF m 582 #[.val (.int p1), .val (.int p2), .val (.int p3), .val (.int p4), .val (.long q5), .second, .val (.int p6), .val (.int (1 : Int32)), .val (.int w8e), od9, od10, od11, od12, .val (.int y13_92_63), .val (.int y14_99_65), .val (.ref b68), .val (.ref b1075), .val .null, od18, od19, .val (.ref b2108), .val (.ref b2113), .val (.int (1 : Int32))] [])) := by
  obtain ⟨L0, hL0⟩ : ∃ z : Array Slot, z = #[.val (.int p1), .val (.int p2), .val (.int p3), .val (.int p4), .val (.long q5), .second, .val (.int p6), .val (.int (1 : Int32)), .val (.int w8e), od9, od10, od11, od12, .val (.int y13_92_63), .val (.int y14_99_65), .val (.ref b68), .val (.ref b1075), .val .null, od18, od19, .val (.ref b2108), .val (.ref b2113), .val (.int (1 : Int32))] := ⟨_, rfl⟩
  refine Gl.cast (B := (T0.setTop (mkF m 582 L0 []))) (by rw [hL0]) ?_
  refine Gl.st (B := (T0.setTop (mkF m 589 L0 [(.ref b2108)]))) (fun t k => XS.iload X0.here hx rfl (hb hby at_582) (ldAt hL0 rfl) (XS.ifNo X0.here hx rfl (hb hby at_584) rfl (by decide) (XS.aload X0.here hx rfl (hb hby at_587) (ldAt hL0 rfl) rfl k))) ?_
  obtain ⟨T5206, X5206, e5206, st5206⟩ := getF X0 hx hZ hown (host := "") (Or.inl (tw hw 116 rfl)) Via.refl e0 F_assignment_b2108 (g := (mkF m 589 L0 [(.ref b2108)])) rfl rfl (hb hby at_589)
  refine Gl.st (B := (T5206.setTop (mkF m 592 L0 [(.ref b68)]))) st5206 ?_
  refine Gl.st (B := (T5206.setTop (mkF m 605 L0 [(.int y14_99_65), (.int y13_92_63), (.int w8e), (.ref b68)]))) (fun t k => XS.aload X5206.here hx rfl (hb hby at_592) (ldAt hL0 rfl) rfl (Jvm.RoadKit.acmp (g := (mkF m 594 L0 [(.ref b68), (.ref b68)])) X5206 hx rfl rfl rfl (pc0 := 594) (pc' := 597) (same := true) rfl (hb hby at_594) rfl (decide_eq_true rfl) (by decide) (by decide) (XS.aload X5206.here hx rfl (hb hby at_597) (ldAt hL0 rfl) rfl (XS.iload X5206.here hx rfl (hb hby at_599) (ldAt hL0 rfl) (XS.iload X5206.here hx rfl (hb hby at_601) (ldAt hL0 rfl) (XS.iload X5206.here hx rfl (hb hby at_603) (ldAt hL0 rfl) k)))))) ?_
  obtain ⟨_, _, ⟨T5207, L5207q, k5207, n5207⟩, -, X5207, ⟨Lc5207, hQ5207, l5207, y5207, z5207⟩, st5207⟩ := Jvm.LawKit.callS X5206 hx (y := (⟨"com/example/limpet/limpet/group/MemberTakeOverPinLaw", "sameAssignment", "([BZBB)Z"⟩ : MethodName)) hown (mvT hZ (tw hw 133 rfl)) (mvT hZ (tw hw 134 rfl)) (mvT hZ (tw hw 135 rfl)) (mvT hZ (tw hw 136 rfl)) (by decide) (backOf (W := 0) (rm18g l Z a0 hw [] b68 w8e y13_92_63 y14_99_65 k68 nra vra h0 n0 Z0 V_b68 hr605_hE) hZ (tw hw 136 rfl) (tw hw 135 rfl) (by decide) (by decide)) (g := (mkF m 605 L0 [(.int y14_99_65), (.int y13_92_63), (.int w8e), (.ref b68)])) rfl (szAt hml hL0 rfl) (argsL := [(.ref b68), (.int w8e), (.int y13_92_63), (.int y14_99_65)]) (rest := []) (lenOf pd_0s582_11_0 rfl) rfl (by show 2 * 0 + _ ≤ _; exact Nat.le_of_eq rfl) (hb hby at_605) (fun _ _ => ⟨rfl, e5206, (by decide : 17 + 0 ≤ _), (by decide : 49 + 0 ≤ _)⟩)
  dsimp only [Pt.U, Pt.locs, Pt.cells, Pt.slots] at X5207 l5207 y5207 z5207 st5207 hQ5207
  subst l5207 y5207 z5207
  obtain ⟨rfl, N5207q, eh5207⟩ := hQ5207
  have N5207 := Fr.app N0 N5207q
  refine Gl.st (B := (T5207.setTop (mkF m 608 L0 [(.int (1 : Int32))]))) (fun t k => st5207 t k) ?_
  obtain ⟨L5208, hL5208⟩ : ∃ z : Array Slot, z = #[.val (.int p1), .val (.int p2), .val (.int p3), .val (.int p4), .val (.long q5), .second, .val (.int p6), .val (.int (1 : Int32)), .val (.int w8e), od9, od10, od11, od12, .val (.int y13_92_63), .val (.int y14_99_65), .val (.ref b68), .val (.ref b1075), .val .null, od18, od19, .val (.ref b2108), .val (.ref b2113), .val (.int (1 : Int32))] := ⟨_, rfl⟩
  refine Gl.st (B := (T5207.setTop (mkF m 623 L5208 []))) (fun t k => XS.ifNo X5207.here hx rfl (hb hby at_608) rfl (by decide) (XS.iconst X5207.here hx rfl (hb hby at_611) (XS.goto X5207.here hx rfl (pc0 := 612) (pc' := 616) rfl (hb hby at_612) (by decide) (by decide) (XS.istore X5207.here hx rfl (hb hby at_616) rfl (l' := L5208) (stAt hL0 hL5208 rfl rfl) (XS.iload X5207.here hx rfl (hb hby at_618) (ldAt hL5208 rfl) (XS.ifNo X5207.here hx rfl (hb hby at_620) rfl (by decide) k)))))) ?_
  refine Gl.st (B := (T5207.setTop (mkF m 625 L5208 [(.ref b2108)]))) (fun t k => XS.aload X5207.here hx rfl (hb hby at_623) (ldAt hL5208 rfl) rfl k) ?_
  obtain ⟨T5209, X5209, e5209, st5209⟩ := getF X5207 hx hZ hown (host := "") (Or.inl (tw hw 117 rfl)) Via.refl eh5207 F_protocols_b2108 (g := (mkF m 625 L5208 [(.ref b2108)])) rfl rfl (hb hby at_625)
  refine Gl.st (B := (T5209.setTop (mkF m 628 L5208 [.null]))) st5209 ?_
  obtain ⟨L5210, hL5210⟩ : ∃ z : Array Slot, z = #[.val (.int p1), .val (.int p2), .val (.int p3), .val (.int p4), .val (.long q5), .second, .val (.int p6), .val (.int (1 : Int32)), .val (.int w8e), od9, od10, od11, od12, .val (.int y13_92_63), .val (.int y14_99_65), .val (.ref b68), .val (.ref b1075), .val .null, od18, od19, .val (.ref b2108), .val (.ref b2113), .val (.int (1 : Int32))] := ⟨_, rfl⟩
  refine Gl.st (B := (T5209.setTop (mkF m 642 L5210 [(.int (1 : Int32))]))) (fun t k => XS.aload X5209.here hx rfl (hb hby at_628) (ldAt hL5208 rfl) rfl (Jvm.RoadKit.acmp (g := (mkF m 630 L5208 [.null, .null])) X5209 hx rfl rfl rfl (pc0 := 630) (pc' := 633) (same := true) rfl (hb hby at_630) rfl (decide_eq_true rfl) (by decide) (by decide) (XS.iconst X5209.here hx rfl (hb hby at_633) (XS.goto X5209.here hx rfl (pc0 := 634) (pc' := 638) rfl (hb hby at_634) (by decide) (by decide) (XS.istore X5209.here hx rfl (hb hby at_638) rfl (l' := L5210) (stAt hL5208 hL5210 rfl rfl) (XS.iload X5209.here hx rfl (hb hby at_640) (ldAt hL5210 rfl) k)))))) ?_
  refine Gl.st (B := (T5209.setTop (mkF m 681 L5210 []))) (fun t k => XS.ifYes X5209.here hx rfl (pc0 := 642) (pc' := 681) rfl (hb hby at_642) rfl (by decide) (by decide) (by decide) k) ?_
  refine Gl.cast (B := (T5209.setTop (mkF m 681 #[.val (.int p1), .val (.int p2), .val (.int p3), .val (.int p4), .val (.long q5), .second, .val (.int p6), .val (.int (1 : Int32)), .val (.int w8e), od9, od10, od11, od12, .val (.int y13_92_63), .val (.int y14_99_65), .val (.ref b68), .val (.ref b1075), .val .null, od18, od19, .val (.ref b2108), .val (.ref b2113), .val (.int (1 : Int32))] []))) (by rw [hL5210]) ?_
  exact sg_681_6 l Z a0 hw hx hby hml hret hlk hZ hown n0 p1 p2 p3 p4 q5 p6 (.val (.int (1 : Int32))) (.val (.int w8e)) (od9) (od10) (od11) (od12) (.val (.int y13_92_63)) (.val (.int y14_99_65)) (.val (.ref b68)) (.val (.ref b1075)) (.val .null) (od18) (od19) b2108 b2113 x257_2131 x265_2136 x276_2141 h0 (X5209.more (by decide) (by decide)) e5209 N5207 Z0 F_sess2_b2108 hq694 F_reba3_b2108 hq705 F_sess4_b2108 hq720 E_b2108 F_pendingJoin_b2108 F_pendingSync_b2108
theorem pd_0s448_10_0 : parseMethodDescriptor "()Z" = some ⟨[], some .boolean⟩ := by decide +kernel
set_option maxRecDepth 65536 in
set_option maxHeartbeats 40000000 in
theorem sg_448_10 (l : Launch) (Z : State) (a0 : Array Value) (hw : ∀ d ∈ tables_1, d.before a0 Z = true) {p : Program} {e : Env} {s : State} {m : MethodId} {A0 : Array Value} {below : List Frame} {meth : Method} {c : Code} (hx : p.tables.exec = Jvm.exec) (hby : c.code = code) (hml : c.maxLocals = 23) (hret : meth.sig.returnType = ret) (hlk : meth.locks = false) (hZ : Z.Warmed39 s.vm) (hown : s.vm.findClass "com/example/limpet/limpet/group/MemberTakeOverPinLaw" = some m.cls) (n0 : Nat) (p1 : Int32) (p2 : Int32) (p3 : Int32) (p4 : Int32) (q5 : Int64) (p6 : Int32) (w8e : Int32) (b11_t0 : Addr) (b17_t0 : Addr) (b57_t0 : Addr) (y13_92_63 : Int32) (y14_99_65 : Int32) (b68 : Addr) (b1075 : Addr) (b1096 : Addr) (b2108 : Addr) (b2113 : Addr) (x257_2131 : Int32) (x265_2136 : Int32) (x276_2141 : Int64) (k68 : ClassId) (nra : Int32) (vra : List Value) {T0 : State} {Lc : List Loc} (h0 : Heap) (X0 : Stand p l e room_1 s m A0 below meth c T0 Lc 17 49) (e0 : T0.heap = h0) (N0 : Fr n0 Lc) (Z0 : n0 ≤ h0.size) (F_id_b2113 : Fld Z h0 b2113 "com/example/limpet/limpet/group/Member" "id" "Ljava/lang/String;" (.ref b11_t0)) (F_instanceId_b2113 : Fld Z h0 b2113 "com/example/limpet/limpet/group/Member" "instanceId" "Ljava/lang/String;" (.ref b57_t0)) (F_sess2_b2113 : Fld Z h0 b2113 "com/example/limpet/limpet/group/Member" "sessionTimeoutMs" "I" (.int p3)) (F_reba3_b2113 : Fld Z h0 b2113 "com/example/limpet/limpet/group/Member" "rebalanceTimeoutMs" "I" (.int p4)) (F_sess4_b2113 : Fld Z h0 b2113 "com/example/limpet/limpet/group/Member" "sessionDeadline" "J" (.long q5)) (E_b2113 : Exa Z h0 b2113 "com/example/limpet/limpet/group/Member") (F_pendingJoin_b2113 : Fld Z h0 b2113 "com/example/limpet/limpet/group/Member" "pendingJoin" "Ljava/util/function/Consumer;" .null) (F_pendingSync_b2113 : Fld Z h0 b2113 "com/example/limpet/limpet/group/Member" "pendingSync" "Ljava/util/function/Consumer;" .null) (F_id_b2108 : Fld Z h0 b2108 "com/example/limpet/limpet/group/Member" "id" "Ljava/lang/String;" (.ref b17_t0)) (F_instanceId_b2108 : Fld Z h0 b2108 "com/example/limpet/limpet/group/Member" "instanceId" "Ljava/lang/String;" (.ref b57_t0)) (F_generation_b2108 : Fld Z h0 b2108 "com/example/limpet/limpet/group/Member" "generation" "I" (.int p1)) (F_assignment_b2108 : Fld Z h0 b2108 "com/example/limpet/limpet/group/Member" "assignment" "[B" (.ref b68)) (F_protocols_b2108 : Fld Z h0 b2108 "com/example/limpet/limpet/group/Member" "protocols" "Ljava/util/List;" .null) (F_sess2_b2108 : Fld Z h0 b2108 "com/example/limpet/limpet/group/Member" "sessionTimeoutMs" "I" (.int x257_2131)) (F_reba3_b2108 : Fld Z h0 b2108 "com/example/limpet/limpet/group/Member" "rebalanceTimeoutMs" "I" (.int x265_2136)) (F_sess4_b2108 : Fld Z h0 b2108 "com/example/limpet/limpet/group/Member" "sessionDeadline" "J" (.long x276_2141)) (F_pendingJoin_b2108 : Fld Z h0 b2108 "com/example/limpet/limpet/group/Member" "pendingJoin" "Ljava/util/function/Consumer;" .null) (F_pendingSync_b2108 : Fld Z h0 b2108 "com/example/limpet/limpet/group/Member" "pendingSync" "Ljava/util/function/Consumer;" .null) (V_b68 : Arv Z h0 b68 k68 .byte nra vra (.int (0 : Int32))) (hr605_hE : (w8e = (1 : Int32) ∧ nra = (0 : Int32) ∧ vra = []) ∨ (w8e = (0 : Int32) ∧ nra = (2 : Int32) ∧ vra = [(.int y13_92_63), (.int y14_99_65)])) (hq694 : x257_2131 = (p3 ^^^ (-1 : Int32))) (hq705 : x265_2136 = (p4 ^^^ (-1 : Int32))) (hq720 : x276_2141 = (q5 ^^^ (-1 : Int64))) (E_b2108 : Exa Z h0 b2108 "com/example/limpet/limpet/group/Member") :
    Gl p e below (fun o U' => ∃ v L, o = .returned v ∧ (v = some (.int (1 : Int32)) ∧ Fr n0 L) ∧ FrameEnd s o U' L room_1.cells room_1.slots) (T0.setTop (mkF m 448 #[.val (.int p1), .val (.int p2), .val (.int p3), .val (.int p4), .val (.long q5), .second, .val (.int p6), .val (.int (1 : Int32)), .val (.int w8e), od9, .val (.ref b11_t0), .val (.ref b17_t0), .val (.ref b57_t0), .val (.int y13_92_63), .val (.int y14_99_65), .val (.ref b68), .val (.ref b1075), .val .null, .val (.ref b1096), od19, .val (.ref b2108), .val (.ref b2113), .val (.int (1 : Int32))] [])) := by
  obtain ⟨L0, hL0⟩ : ∃ z : Array Slot, z = #[.val (.int p1), .val (.int p2), .val (.int p3), .val (.int p4), .val (.long q5), .second, .val (.int p6), .val (.int (1 : Int32)), .val (.int w8e), od9, .val (.ref b11_t0), .val (.ref b17_t0), .val (.ref b57_t0), .val (.int y13_92_63), .val (.int y14_99_65), .val (.ref b68), .val (.ref b1075), .val .null, .val (.ref b1096), od19, .val (.ref b2108), .val (.ref b2113), .val (.int (1 : Int32))] := ⟨_, rfl⟩
  refine Gl.cast (B := (T0.setTop (mkF m 448 L0 []))) (by rw [hL0]) ?_
  refine Gl.st (B := (T0.setTop (mkF m 455 L0 [(.ref b2113)]))) (fun t k => XS.iload X0.here hx rfl (hb hby at_448) (ldAt hL0 rfl) (XS.ifNo X0.here hx rfl (hb hby at_450) rfl (by decide) (XS.aload X0.here hx rfl (hb hby at_453) (ldAt hL0 rfl) rfl k))) ?_
  obtain ⟨T4192, X4192, e4192, st4192⟩ := getF X0 hx hZ hown (host := "") (Or.inl (tw hw 166 rfl)) Via.refl e0 F_id_b2113 (g := (mkF m 455 L0 [(.ref b2113)])) rfl rfl (hb hby at_455)
  refine Gl.st (B := (T4192.setTop (mkF m 458 L0 [(.ref b11_t0)]))) st4192 ?_
  refine Gl.st (B := (T4192.setTop (mkF m 465 L0 [(.ref b2113)]))) (fun t k => XS.aload X4192.here hx rfl (hb hby at_458) (ldAt hL0 rfl) rfl (Jvm.RoadKit.acmp (g := (mkF m 460 L0 [(.ref b11_t0), (.ref b11_t0)])) X4192 hx rfl rfl rfl (pc0 := 460) (pc' := 463) (same := true) rfl (hb hby at_460) rfl (decide_eq_true rfl) (by decide) (by decide) (XS.aload X4192.here hx rfl (hb hby at_463) (ldAt hL0 rfl) rfl k))) ?_
  obtain ⟨T4193, X4193, e4193, st4193⟩ := getF X4192 hx hZ hown (host := "") (Or.inl (tw hw 167 rfl)) Via.refl e4192 F_instanceId_b2113 (g := (mkF m 465 L0 [(.ref b2113)])) rfl rfl (hb hby at_465)
  refine Gl.st (B := (T4193.setTop (mkF m 468 L0 [(.ref b57_t0)]))) st4193 ?_
  obtain ⟨L4194, hL4194⟩ : ∃ z : Array Slot, z = #[.val (.int p1), .val (.int p2), .val (.int p3), .val (.int p4), .val (.long q5), .second, .val (.int p6), .val (.int (1 : Int32)), .val (.int w8e), od9, .val (.ref b11_t0), .val (.ref b17_t0), .val (.ref b57_t0), .val (.int y13_92_63), .val (.int y14_99_65), .val (.ref b68), .val (.ref b1075), .val .null, .val (.ref b1096), od19, .val (.ref b2108), .val (.ref b2113), .val (.int (1 : Int32))] := ⟨_, rfl⟩
  refine Gl.st (B := (T4193.setTop (mkF m 482 L4194 [(.int (1 : Int32))]))) (fun t k => XS.aload X4193.here hx rfl (hb hby at_468) (ldAt hL0 rfl) rfl (Jvm.RoadKit.acmp (g := (mkF m 470 L0 [(.ref b57_t0), (.ref b57_t0)])) X4193 hx rfl rfl rfl (pc0 := 470) (pc' := 473) (same := true) rfl (hb hby at_470) rfl (decide_eq_true rfl) (by decide) (by decide) (XS.iconst X4193.here hx rfl (hb hby at_473) (XS.goto X4193.here hx rfl (pc0 := 474) (pc' := 478) rfl (hb hby at_474) (by decide) (by decide) (XS.istore X4193.here hx rfl (hb hby at_478) rfl (l' := L4194) (stAt hL0 hL4194 rfl rfl) (XS.iload X4193.here hx rfl (hb hby at_480) (ldAt hL4194 rfl) k)))))) ?_
  refine Gl.st (B := (T4193.setTop (mkF m 487 L4194 [(.ref b2113)]))) (fun t k => XS.ifNo X4193.here hx rfl (hb hby at_482) rfl (by decide) (XS.aload X4193.here hx rfl (hb hby at_485) (ldAt hL4194 rfl) rfl k)) ?_
  obtain ⟨T4195, X4195, e4195, st4195⟩ := getF X4193 hx hZ hown (host := "") (Or.inl (tw hw 119 rfl)) Via.refl e4193 F_sess2_b2113 (g := (mkF m 487 L4194 [(.ref b2113)])) rfl rfl (hb hby at_487)
  refine Gl.st (B := (T4195.setTop (mkF m 490 L4194 [(.int p3)]))) st4195 ?_
  refine Gl.st (B := (T4195.setTop (mkF m 496 L4194 [(.ref b2113)]))) (fun t k => XS.iloadN X4195.here hx rfl (hb hby at_490) (ldAt hL4194 rfl) (XS.icmpNo X4195.here hx rfl (hb hby at_491) rfl (teq rfl).2 (XS.aload X4195.here hx rfl (hb hby at_494) (ldAt hL4194 rfl) rfl k))) ?_
  obtain ⟨T4196, X4196, e4196, st4196⟩ := getF X4195 hx hZ hown (host := "") (Or.inl (tw hw 121 rfl)) Via.refl e4195 F_reba3_b2113 (g := (mkF m 496 L4194 [(.ref b2113)])) rfl rfl (hb hby at_496)
  refine Gl.st (B := (T4196.setTop (mkF m 499 L4194 [(.int p4)]))) st4196 ?_
  refine Gl.st (B := (T4196.setTop (mkF m 505 L4194 [(.ref b2113)]))) (fun t k => XS.iloadN X4196.here hx rfl (hb hby at_499) (ldAt hL4194 rfl) (XS.icmpNo X4196.here hx rfl (hb hby at_500) rfl (teq rfl).2 (XS.aload X4196.here hx rfl (hb hby at_503) (ldAt hL4194 rfl) rfl k))) ?_
  obtain ⟨T4197, X4197, e4197, st4197⟩ := getF X4196 hx hZ hown (host := "") (Or.inl (tw hw 124 rfl)) Via.refl e4196 F_sess4_b2113 (g := (mkF m 505 L4194 [(.ref b2113)])) rfl rfl (hb hby at_505)
  refine Gl.st (B := (T4197.setTop (mkF m 508 L4194 [(.long q5)]))) st4197 ?_
  refine Gl.st (B := (T4197.setTop (mkF m 511 L4194 [(.int (lcmpW q5 q5))]))) (fun t k => XS.lload X4197.here hx rfl (hb hby at_508) (ldAt hL4194 rfl) (XS.lcmp X4197.here hx rfl (hb hby at_510) rfl k)) ?_
  have hc511_4198 : q5 = q5 := by
    rfl
  obtain ⟨L4199, hL4199⟩ : ∃ z : Array Slot, z = #[.val (.int p1), .val (.int p2), .val (.int p3), .val (.int p4), .val (.long q5), .second, .val (.int p6), .val (.int (1 : Int32)), .val (.int w8e), od9, .val (.ref b11_t0), .val (.ref b17_t0), .val (.ref b57_t0), .val (.int y13_92_63), .val (.int y14_99_65), .val (.ref b68), .val (.ref b1075), .val .null, .val (.ref b1096), od19, .val (.ref b2108), .val (.ref b2113), .val (.int (1 : Int32))] := ⟨_, rfl⟩
  refine Gl.st (B := (T4197.setTop (mkF m 526 L4199 []))) (fun t k => XS.ifNo X4197.here hx rfl (hb hby at_511) rfl ((if0 _ _).trans (teq ((lw_eq q5 q5).mpr hc511_4198)).2) (XS.iconst X4197.here hx rfl (hb hby at_514) (XS.goto X4197.here hx rfl (pc0 := 515) (pc' := 519) rfl (hb hby at_515) (by decide) (by decide) (XS.istore X4197.here hx rfl (hb hby at_519) rfl (l' := L4199) (stAt hL4194 hL4199 rfl rfl) (XS.iload X4197.here hx rfl (hb hby at_521) (ldAt hL4199 rfl) (XS.ifNo X4197.here hx rfl (hb hby at_523) rfl (by decide) k)))))) ?_
  refine Gl.st (B := (T4197.setTop (mkF m 528 L4199 [(.ref b2113)]))) (fun t k => XS.aload X4197.here hx rfl (hb hby at_526) (ldAt hL4199 rfl) rfl k) ?_
  obtain ⟨cq4200, kq4200, q4200a, q4200b, q4200c⟩ := isOf hZ e4197 E_b2113
  obtain ⟨_, _, ⟨T4200, L4200q, k4200, n4200⟩, -, X4200, ⟨Lc4200, hQ4200, l4200, y4200, z4200⟩, st4200⟩ := X4197.virtualBack hx (y := (⟨"com/example/limpet/limpet/group/Member", "isWaiting", "()Z"⟩ : MethodName)) (z := (⟨"com/example/limpet/limpet/group/Member", "isWaiting", "()Z"⟩ : MethodName)) hown (mvT hZ (tw hw 168 rfl)) (mvT hZ (tw hw 169 rfl)) (notFace_of_selects (args := #[]) (mvT hZ (tw hw 171 rfl))) (mvT hZ (tw hw 171 rfl)) (mvT hZ (tw hw 170 rfl)) (by decide) (backOf (W := 0) (rm24 l Z a0 hw [] b2113 h0 n0 Z0 F_pendingJoin_b2113 F_pendingSync_b2113) hZ (tw hw 172 rfl) (tw hw 103 rfl) (by decide) (by decide)) q4200a q4200c (g := (mkF m 528 L4199 [(.ref b2113)])) rfl (szAt hml hL4199 rfl) (Steps.refl _) (argsL := []) (rest := []) (lenOf pd_0s448_10_0 rfl) rfl (by show 2 * 0 + _ ≤ _; exact Nat.le_of_eq rfl) (hb hby at_528) (fun _ _ => ⟨rfl, e4197, (by decide : 17 + 0 ≤ _), (by decide : 49 + 0 ≤ _)⟩)
  dsimp only [Pt.U, Pt.locs, Pt.cells, Pt.slots] at X4200 l4200 y4200 z4200 st4200 hQ4200
  subst l4200 y4200 z4200
  obtain ⟨rfl, N4200q, eh4200⟩ := hQ4200
  have N4200 := Fr.app N0 N4200q
  refine Gl.st (B := (T4200.setTop (mkF m 531 L4199 [(.int (0 : Int32))]))) (fun t k => st4200.trans k) ?_
  obtain ⟨L4201, hL4201⟩ : ∃ z : Array Slot, z = #[.val (.int p1), .val (.int p2), .val (.int p3), .val (.int p4), .val (.long q5), .second, .val (.int p6), .val (.int (1 : Int32)), .val (.int w8e), od9, .val (.ref b11_t0), .val (.ref b17_t0), .val (.ref b57_t0), .val (.int y13_92_63), .val (.int y14_99_65), .val (.ref b68), .val (.ref b1075), .val .null, .val (.ref b1096), od19, .val (.ref b2108), .val (.ref b2113), .val (.int (1 : Int32))] := ⟨_, rfl⟩
  refine Gl.st (B := (T4200.setTop (mkF m 546 L4201 []))) (fun t k => XS.ifNo X4200.here hx rfl (hb hby at_531) rfl (by decide) (XS.iconst X4200.here hx rfl (hb hby at_534) (XS.goto X4200.here hx rfl (pc0 := 535) (pc' := 539) rfl (hb hby at_535) (by decide) (by decide) (XS.istore X4200.here hx rfl (hb hby at_539) rfl (l' := L4201) (stAt hL4199 hL4201 rfl rfl) (XS.iload X4200.here hx rfl (hb hby at_541) (ldAt hL4201 rfl) (XS.ifNo X4200.here hx rfl (hb hby at_543) rfl (by decide) k)))))) ?_
  refine Gl.st (B := (T4200.setTop (mkF m 548 L4201 [(.ref b2108)]))) (fun t k => XS.aload X4200.here hx rfl (hb hby at_546) (ldAt hL4201 rfl) rfl k) ?_
  obtain ⟨T4202, X4202, e4202, st4202⟩ := getF X4200 hx hZ hown (host := "") (Or.inl (tw hw 166 rfl)) Via.refl eh4200 F_id_b2108 (g := (mkF m 548 L4201 [(.ref b2108)])) rfl rfl (hb hby at_548)
  refine Gl.st (B := (T4202.setTop (mkF m 551 L4201 [(.ref b17_t0)]))) st4202 ?_
  refine Gl.st (B := (T4202.setTop (mkF m 558 L4201 [(.ref b2108)]))) (fun t k => XS.aload X4202.here hx rfl (hb hby at_551) (ldAt hL4201 rfl) rfl (Jvm.RoadKit.acmp (g := (mkF m 553 L4201 [(.ref b17_t0), (.ref b17_t0)])) X4202 hx rfl rfl rfl (pc0 := 553) (pc' := 556) (same := true) rfl (hb hby at_553) rfl (decide_eq_true rfl) (by decide) (by decide) (XS.aload X4202.here hx rfl (hb hby at_556) (ldAt hL4201 rfl) rfl k))) ?_
  obtain ⟨T4203, X4203, e4203, st4203⟩ := getF X4202 hx hZ hown (host := "") (Or.inl (tw hw 167 rfl)) Via.refl e4202 F_instanceId_b2108 (g := (mkF m 558 L4201 [(.ref b2108)])) rfl rfl (hb hby at_558)
  refine Gl.st (B := (T4203.setTop (mkF m 561 L4201 [(.ref b57_t0)]))) st4203 ?_
  refine Gl.st (B := (T4203.setTop (mkF m 568 L4201 [(.ref b2108)]))) (fun t k => XS.aload X4203.here hx rfl (hb hby at_561) (ldAt hL4201 rfl) rfl (Jvm.RoadKit.acmp (g := (mkF m 563 L4201 [(.ref b57_t0), (.ref b57_t0)])) X4203 hx rfl rfl rfl (pc0 := 563) (pc' := 566) (same := true) rfl (hb hby at_563) rfl (decide_eq_true rfl) (by decide) (by decide) (XS.aload X4203.here hx rfl (hb hby at_566) (ldAt hL4201 rfl) rfl k))) ?_
  obtain ⟨T4204, X4204, e4204, st4204⟩ := getF X4203 hx hZ hown (host := "") (Or.inl (tw hw 114 rfl)) Via.refl e4203 F_generation_b2108 (g := (mkF m 568 L4201 [(.ref b2108)])) rfl rfl (hb hby at_568)
  refine Gl.st (B := (T4204.setTop (mkF m 571 L4201 [(.int p1)]))) st4204 ?_
  obtain ⟨L4205, hL4205⟩ : ∃ z : Array Slot, z = #[.val (.int p1), .val (.int p2), .val (.int p3), .val (.int p4), .val (.long q5), .second, .val (.int p6), .val (.int (1 : Int32)), .val (.int w8e), od9, .val (.ref b11_t0), .val (.ref b17_t0), .val (.ref b57_t0), .val (.int y13_92_63), .val (.int y14_99_65), .val (.ref b68), .val (.ref b1075), .val .null, .val (.ref b1096), od19, .val (.ref b2108), .val (.ref b2113), .val (.int (1 : Int32))] := ⟨_, rfl⟩
  refine Gl.st (B := (T4204.setTop (mkF m 582 L4205 []))) (fun t k => XS.iloadN X4204.here hx rfl (hb hby at_571) (ldAt hL4201 rfl) (XS.icmpNo X4204.here hx rfl (hb hby at_572) rfl (teq rfl).2 (XS.iconst X4204.here hx rfl (hb hby at_575) (XS.goto X4204.here hx rfl (pc0 := 576) (pc' := 580) rfl (hb hby at_576) (by decide) (by decide) (XS.istore X4204.here hx rfl (hb hby at_580) rfl (l' := L4205) (stAt hL4201 hL4205 rfl rfl) k))))) ?_
  refine Gl.cast (B := (T4204.setTop (mkF m 582 #[.val (.int p1), .val (.int p2), .val (.int p3), .val (.int p4), .val (.long q5), .second, .val (.int p6), .val (.int (1 : Int32)), .val (.int w8e), od9, .val (.ref b11_t0), .val (.ref b17_t0), .val (.ref b57_t0), .val (.int y13_92_63), .val (.int y14_99_65), .val (.ref b68), .val (.ref b1075), .val .null, .val (.ref b1096), od19, .val (.ref b2108), .val (.ref b2113), .val (.int (1 : Int32))] []))) (by rw [hL4205]) ?_
  exact sg_582_11 l Z a0 hw hx hby hml hret hlk hZ hown n0 p1 p2 p3 p4 q5 p6 w8e (od9) (.val (.ref b11_t0)) (.val (.ref b17_t0)) (.val (.ref b57_t0)) y13_92_63 y14_99_65 b68 b1075 (.val (.ref b1096)) (od19) b2108 b2113 k68 nra vra x257_2131 x265_2136 x276_2141 h0 (X4204.more (by decide) (by decide)) e4204 N4200 Z0 F_assignment_b2108 V_b68 hr605_hE F_protocols_b2108 F_sess2_b2108 F_reba3_b2108 F_sess4_b2108 F_pendingJoin_b2108 F_pendingSync_b2108 hq694 hq705 hq720 E_b2108
theorem pd_0s325_9_0 : parseMethodDescriptor "([BZBB)Z" = some ⟨[(.array .byte), .boolean, .byte, .byte], some .boolean⟩ := by decide +kernel
set_option maxRecDepth 65536 in
set_option maxHeartbeats 40000000 in
theorem sg_325_9 (l : Launch) (Z : State) (a0 : Array Value) (hw : ∀ d ∈ tables_1, d.before a0 Z = true) {p : Program} {e : Env} {s : State} {m : MethodId} {A0 : Array Value} {below : List Frame} {meth : Method} {c : Code} (hx : p.tables.exec = Jvm.exec) (hby : c.code = code) (hml : c.maxLocals = 23) (hret : meth.sig.returnType = ret) (hlk : meth.locks = false) (hZ : Z.Warmed39 s.vm) (hown : s.vm.findClass "com/example/limpet/limpet/group/MemberTakeOverPinLaw" = some m.cls) (n0 : Nat) (p1 : Int32) (p2 : Int32) (p3 : Int32) (p4 : Int32) (q5 : Int64) (p6 : Int32) (w8e : Int32) (b11_t0 : Addr) (b17_t0 : Addr) (b57_t0 : Addr) (y13_92_63 : Int32) (y14_99_65 : Int32) (b68 : Addr) (b1075 : Addr) (b1096 : Addr) (od19 : Slot) (b2108 : Addr) (b2113 : Addr) (k68 : ClassId) (nra : Int32) (vra : List Value) (x257_2131 : Int32) (x265_2136 : Int32) (x276_2141 : Int64) {T0 : State} {Lc : List Loc} (h0 : Heap) (X0 : Stand p l e room_1 s m A0 below meth c T0 Lc 17 49) (e0 : T0.heap = h0) (N0 : Fr n0 Lc) (Z0 : n0 ≤ h0.size) (F_generation_b2113 : Fld Z h0 b2113 "com/example/limpet/limpet/group/Member" "generation" "I" (.int p1)) (F_assignment_b2113 : Fld Z h0 b2113 "com/example/limpet/limpet/group/Member" "assignment" "[B" (.ref b68)) (V_b68 : Arv Z h0 b68 k68 .byte nra vra (.int (0 : Int32))) (hr357_hE : (w8e = (1 : Int32) ∧ nra = (0 : Int32) ∧ vra = []) ∨ (w8e = (0 : Int32) ∧ nra = (2 : Int32) ∧ vra = [(.int y13_92_63), (.int y14_99_65)])) (F_protocols_b2113 : Fld Z h0 b2113 "com/example/limpet/limpet/group/Member" "protocols" "Ljava/util/List;" .null) (F_id_b2113 : Fld Z h0 b2113 "com/example/limpet/limpet/group/Member" "id" "Ljava/lang/String;" (.ref b11_t0)) (F_instanceId_b2113 : Fld Z h0 b2113 "com/example/limpet/limpet/group/Member" "instanceId" "Ljava/lang/String;" (.ref b57_t0)) (F_sess2_b2113 : Fld Z h0 b2113 "com/example/limpet/limpet/group/Member" "sessionTimeoutMs" "I" (.int p3)) (F_reba3_b2113 : Fld Z h0 b2113 "com/example/limpet/limpet/group/Member" "rebalanceTimeoutMs" "I" (.int p4)) (F_sess4_b2113 : Fld Z h0 b2113 "com/example/limpet/limpet/group/Member" "sessionDeadline" "J" (.long q5)) (F_pendingJoin_b2113 : Fld Z h0 b2113 "com/example/limpet/limpet/group/Member" "pendingJoin" "Ljava/util/function/Consumer;" .null) (F_pendingSync_b2113 : Fld Z h0 b2113 "com/example/limpet/limpet/group/Member" "pendingSync" "Ljava/util/function/Consumer;" .null) (F_id_b2108 : Fld Z h0 b2108 "com/example/limpet/limpet/group/Member" "id" "Ljava/lang/String;" (.ref b17_t0)) (F_instanceId_b2108 : Fld Z h0 b2108 "com/example/limpet/limpet/group/Member" "instanceId" "Ljava/lang/String;" (.ref b57_t0)) (F_generation_b2108 : Fld Z h0 b2108 "com/example/limpet/limpet/group/Member" "generation" "I" (.int p1)) (F_assignment_b2108 : Fld Z h0 b2108 "com/example/limpet/limpet/group/Member" "assignment" "[B" (.ref b68)) (F_protocols_b2108 : Fld Z h0 b2108 "com/example/limpet/limpet/group/Member" "protocols" "Ljava/util/List;" .null) (F_sess2_b2108 : Fld Z h0 b2108 "com/example/limpet/limpet/group/Member" "sessionTimeoutMs" "I" (.int x257_2131)) (F_reba3_b2108 : Fld Z h0 b2108 "com/example/limpet/limpet/group/Member" "rebalanceTimeoutMs" "I" (.int x265_2136)) (F_sess4_b2108 : Fld Z h0 b2108 "com/example/limpet/limpet/group/Member" "sessionDeadline" "J" (.long x276_2141)) (F_pendingJoin_b2108 : Fld Z h0 b2108 "com/example/limpet/limpet/group/Member" "pendingJoin" "Ljava/util/function/Consumer;" .null) (F_pendingSync_b2108 : Fld Z h0 b2108 "com/example/limpet/limpet/group/Member" "pendingSync" "Ljava/util/function/Consumer;" .null) (E_b2113 : Exa Z h0 b2113 "com/example/limpet/limpet/group/Member") (hr605_hE : (w8e = (1 : Int32) ∧ nra = (0 : Int32) ∧ vra = []) ∨ (w8e = (0 : Int32) ∧ nra = (2 : Int32) ∧ vra = [(.int y13_92_63), (.int y14_99_65)])) (hq694 : x257_2131 = (p3 ^^^ (-1 : Int32))) (hq705 : x265_2136 = (p4 ^^^ (-1 : Int32))) (hq720 : x276_2141 = (q5 ^^^ (-1 : Int64))) (E_b2108 : Exa Z h0 b2108 "com/example/limpet/limpet/group/Member") :
    Gl p e below (fun o U' => ∃ v L, o = .returned v ∧ (v = some (.int (1 : Int32)) ∧ Fr n0 L) ∧ FrameEnd s o U' L room_1.cells room_1.slots) (T0.setTop (mkF m 325 #[.val (.int p1), .val (.int p2), .val (.int p3), .val (.int p4), .val (.long q5), .second, .val (.int p6), .val (.int (1 : Int32)), .val (.int w8e), od9, .val (.ref b11_t0), .val (.ref b17_t0), .val (.ref b57_t0), .val (.int y13_92_63), .val (.int y14_99_65), .val (.ref b68), .val (.ref b1075), .val .null, .val (.ref b1096), od19, .val (.ref b2108), .val (.ref b2113), .unset] [])) := by
  obtain ⟨L0, hL0⟩ : ∃ z : Array Slot, z = #[.val (.int p1), .val (.int p2), .val (.int p3), .val (.int p4), .val (.long q5), .second, .val (.int p6), .val (.int (1 : Int32)), .val (.int w8e), od9, .val (.ref b11_t0), .val (.ref b17_t0), .val (.ref b57_t0), .val (.int y13_92_63), .val (.int y14_99_65), .val (.ref b68), .val (.ref b1075), .val .null, .val (.ref b1096), od19, .val (.ref b2108), .val (.ref b2113), .unset] := ⟨_, rfl⟩
  refine Gl.cast (B := (T0.setTop (mkF m 325 L0 []))) (by rw [hL0]) ?_
  refine Gl.st (B := (T0.setTop (mkF m 327 L0 [(.ref b2113)]))) (fun t k => XS.aload X0.here hx rfl (hb hby at_325) (ldAt hL0 rfl) rfl k) ?_
  obtain ⟨T3185, X3185, e3185, st3185⟩ := getF X0 hx hZ hown (host := "") (Or.inl (tw hw 114 rfl)) Via.refl e0 F_generation_b2113 (g := (mkF m 327 L0 [(.ref b2113)])) rfl rfl (hb hby at_327)
  refine Gl.st (B := (T3185.setTop (mkF m 330 L0 [(.int p1)]))) st3185 ?_
  obtain ⟨L3186, hL3186⟩ : ∃ z : Array Slot, z = #[.val (.int p1), .val (.int p2), .val (.int p3), .val (.int p4), .val (.long q5), .second, .val (.int p6), .val (.int (1 : Int32)), .val (.int w8e), od9, .val (.ref b11_t0), .val (.ref b17_t0), .val (.ref b57_t0), .val (.int y13_92_63), .val (.int y14_99_65), .val (.ref b68), .val (.ref b1075), .val .null, .val (.ref b1096), od19, .val (.ref b2108), .val (.ref b2113), .val (.int (1 : Int32))] := ⟨_, rfl⟩
  refine Gl.st (B := (T3185.setTop (mkF m 343 L3186 [(.int (1 : Int32))]))) (fun t k => XS.iloadN X3185.here hx rfl (hb hby at_330) (ldAt hL0 rfl) (XS.icmpNo X3185.here hx rfl (hb hby at_331) rfl (teq rfl).2 (XS.iconst X3185.here hx rfl (hb hby at_334) (XS.goto X3185.here hx rfl (pc0 := 335) (pc' := 339) rfl (hb hby at_335) (by decide) (by decide) (XS.istore X3185.here hx rfl (hb hby at_339) rfl (l' := L3186) (stAt hL0 hL3186 rfl rfl) (XS.iload X3185.here hx rfl (hb hby at_341) (ldAt hL3186 rfl) k)))))) ?_
  refine Gl.st (B := (T3185.setTop (mkF m 348 L3186 [(.ref b2113)]))) (fun t k => XS.ifNo X3185.here hx rfl (hb hby at_343) rfl (by decide) (XS.aload X3185.here hx rfl (hb hby at_346) (ldAt hL3186 rfl) rfl k)) ?_
  obtain ⟨T3187, X3187, e3187, st3187⟩ := getF X3185 hx hZ hown (host := "") (Or.inl (tw hw 116 rfl)) Via.refl e3185 F_assignment_b2113 (g := (mkF m 348 L3186 [(.ref b2113)])) rfl rfl (hb hby at_348)
  refine Gl.st (B := (T3187.setTop (mkF m 351 L3186 [(.ref b68)]))) st3187 ?_
  refine Gl.st (B := (T3187.setTop (mkF m 357 L3186 [(.int y14_99_65), (.int y13_92_63), (.int w8e), (.ref b68)]))) (fun t k => XS.iload X3187.here hx rfl (hb hby at_351) (ldAt hL3186 rfl) (XS.iload X3187.here hx rfl (hb hby at_353) (ldAt hL3186 rfl) (XS.iload X3187.here hx rfl (hb hby at_355) (ldAt hL3186 rfl) k))) ?_
  obtain ⟨_, _, ⟨T3188, L3188q, k3188, n3188⟩, -, X3188, ⟨Lc3188, hQ3188, l3188, y3188, z3188⟩, st3188⟩ := Jvm.LawKit.callS X3187 hx (y := (⟨"com/example/limpet/limpet/group/MemberTakeOverPinLaw", "sameAssignment", "([BZBB)Z"⟩ : MethodName)) hown (mvT hZ (tw hw 133 rfl)) (mvT hZ (tw hw 134 rfl)) (mvT hZ (tw hw 135 rfl)) (mvT hZ (tw hw 136 rfl)) (by decide) (backOf (W := 0) (rm18g l Z a0 hw [] b68 w8e y13_92_63 y14_99_65 k68 nra vra h0 n0 Z0 V_b68 hr357_hE) hZ (tw hw 136 rfl) (tw hw 135 rfl) (by decide) (by decide)) (g := (mkF m 357 L3186 [(.int y14_99_65), (.int y13_92_63), (.int w8e), (.ref b68)])) rfl (szAt hml hL3186 rfl) (argsL := [(.ref b68), (.int w8e), (.int y13_92_63), (.int y14_99_65)]) (rest := []) (lenOf pd_0s325_9_0 rfl) rfl (by show 2 * 0 + _ ≤ _; exact Nat.le_of_eq rfl) (hb hby at_357) (fun _ _ => ⟨rfl, e3187, (by decide : 17 + 0 ≤ _), (by decide : 49 + 0 ≤ _)⟩)
  dsimp only [Pt.U, Pt.locs, Pt.cells, Pt.slots] at X3188 l3188 y3188 z3188 st3188 hQ3188
  subst l3188 y3188 z3188
  obtain ⟨rfl, N3188q, eh3188⟩ := hQ3188
  have N3188 := Fr.app N0 N3188q
  refine Gl.st (B := (T3188.setTop (mkF m 360 L3186 [(.int (1 : Int32))]))) (fun t k => st3188 t k) ?_
  obtain ⟨L3189, hL3189⟩ : ∃ z : Array Slot, z = #[.val (.int p1), .val (.int p2), .val (.int p3), .val (.int p4), .val (.long q5), .second, .val (.int p6), .val (.int (1 : Int32)), .val (.int w8e), od9, .val (.ref b11_t0), .val (.ref b17_t0), .val (.ref b57_t0), .val (.int y13_92_63), .val (.int y14_99_65), .val (.ref b68), .val (.ref b1075), .val .null, .val (.ref b1096), od19, .val (.ref b2108), .val (.ref b2113), .val (.int (1 : Int32))] := ⟨_, rfl⟩
  refine Gl.st (B := (T3188.setTop (mkF m 375 L3189 []))) (fun t k => XS.ifNo X3188.here hx rfl (hb hby at_360) rfl (by decide) (XS.iconst X3188.here hx rfl (hb hby at_363) (XS.goto X3188.here hx rfl (pc0 := 364) (pc' := 368) rfl (hb hby at_364) (by decide) (by decide) (XS.istore X3188.here hx rfl (hb hby at_368) rfl (l' := L3189) (stAt hL3186 hL3189 rfl rfl) (XS.iload X3188.here hx rfl (hb hby at_370) (ldAt hL3189 rfl) (XS.ifNo X3188.here hx rfl (hb hby at_372) rfl (by decide) k)))))) ?_
  refine Gl.st (B := (T3188.setTop (mkF m 382 L3189 [(.ref b2113)]))) (fun t k => XS.iload X3188.here hx rfl (hb hby at_375) (ldAt hL3189 rfl) (XS.ifNo X3188.here hx rfl (hb hby at_377) rfl (by decide) (XS.aload X3188.here hx rfl (hb hby at_380) (ldAt hL3189 rfl) rfl k))) ?_
  obtain ⟨T3190, X3190, e3190, st3190⟩ := getF X3188 hx hZ hown (host := "") (Or.inl (tw hw 117 rfl)) Via.refl eh3188 F_protocols_b2113 (g := (mkF m 382 L3189 [(.ref b2113)])) rfl rfl (hb hby at_382)
  refine Gl.st (B := (T3190.setTop (mkF m 385 L3189 [.null]))) st3190 ?_
  obtain ⟨L3191, hL3191⟩ : ∃ z : Array Slot, z = #[.val (.int p1), .val (.int p2), .val (.int p3), .val (.int p4), .val (.long q5), .second, .val (.int p6), .val (.int (1 : Int32)), .val (.int w8e), od9, .val (.ref b11_t0), .val (.ref b17_t0), .val (.ref b57_t0), .val (.int y13_92_63), .val (.int y14_99_65), .val (.ref b68), .val (.ref b1075), .val .null, .val (.ref b1096), od19, .val (.ref b2108), .val (.ref b2113), .val (.int (1 : Int32))] := ⟨_, rfl⟩
  refine Gl.st (B := (T3190.setTop (mkF m 448 L3191 []))) (fun t k => XS.ifnonnullNo X3190.here hx rfl (hb hby at_385) rfl (XS.iconst X3190.here hx rfl (hb hby at_388) (XS.goto X3190.here hx rfl (pc0 := 389) (pc' := 393) rfl (hb hby at_389) (by decide) (by decide) (XS.istore X3190.here hx rfl (hb hby at_393) rfl (l' := L3191) (stAt hL3189 hL3191 rfl rfl) (XS.goto X3190.here hx rfl (pc0 := 395) (pc' := 448) rfl (hb hby at_395) (by decide) (by decide) k))))) ?_
  refine Gl.cast (B := (T3190.setTop (mkF m 448 #[.val (.int p1), .val (.int p2), .val (.int p3), .val (.int p4), .val (.long q5), .second, .val (.int p6), .val (.int (1 : Int32)), .val (.int w8e), od9, .val (.ref b11_t0), .val (.ref b17_t0), .val (.ref b57_t0), .val (.int y13_92_63), .val (.int y14_99_65), .val (.ref b68), .val (.ref b1075), .val .null, .val (.ref b1096), od19, .val (.ref b2108), .val (.ref b2113), .val (.int (1 : Int32))] []))) (by rw [hL3191]) ?_
  exact sg_448_10 l Z a0 hw hx hby hml hret hlk hZ hown n0 p1 p2 p3 p4 q5 p6 w8e b11_t0 b17_t0 b57_t0 y13_92_63 y14_99_65 b68 b1075 b1096 b2108 b2113 x257_2131 x265_2136 x276_2141 k68 nra vra h0 (X3190.more (by decide) (by decide)) e3190 N3188 Z0 F_id_b2113 F_instanceId_b2113 F_sess2_b2113 F_reba3_b2113 F_sess4_b2113 E_b2113 F_pendingJoin_b2113 F_pendingSync_b2113 F_id_b2108 F_instanceId_b2108 F_generation_b2108 F_assignment_b2108 F_protocols_b2108 F_sess2_b2108 F_reba3_b2108 F_sess4_b2108 F_pendingJoin_b2108 F_pendingSync_b2108 V_b68 hr605_hE hq694 hq705 hq720 E_b2108
theorem pd_0s206_8_0 : parseMethodDescriptor "(Ljava/lang/String;Ljava/lang/String;)V" = some ⟨[(.object "java/lang/String"), (.object "java/lang/String")], none⟩ := by decide +kernel
theorem pd_0s206_8_1 : parseMethodDescriptor "(Lcom/example/limpet/limpet/group/Member;)V" = some ⟨[(.object "com/example/limpet/limpet/group/Member")], none⟩ := by decide +kernel
set_option maxRecDepth 65536 in
set_option maxHeartbeats 40000000 in
theorem sg_206_8 (l : Launch) (Z : State) (a0 : Array Value) (hw : ∀ d ∈ tables_1, d.before a0 Z = true) {p : Program} {e : Env} {s : State} {m : MethodId} {A0 : Array Value} {below : List Frame} {meth : Method} {c : Code} (hx : p.tables.exec = Jvm.exec) (hby : c.code = code) (hml : c.maxLocals = 23) (hret : meth.sig.returnType = ret) (hlk : meth.locks = false) (hZ : Z.Warmed39 s.vm) (hown : s.vm.findClass "com/example/limpet/limpet/group/MemberTakeOverPinLaw" = some m.cls) (n0 : Nat) (p1 : Int32) (p2 : Int32) (p3 : Int32) (p4 : Int32) (q5 : Int64) (p6 : Int32) (w8e : Int32) (b11_t0 : Addr) (b17_t0 : Addr) (b57_t0 : Addr) (y13_92_63 : Int32) (y14_99_65 : Int32) (b68 : Addr) (b1075 : Addr) (b1096 : Addr) (b1102 : Addr) (k68 : ClassId) (nra : Int32) (vra : List Value) {T0 : State} {Lc : List Loc} (h0 : Heap) (X0 : Stand p l e room_1 s m A0 below meth c T0 Lc 13 29) (e0 : T0.heap = h0) (N0 : Fr n0 Lc) (Z0 : n0 ≤ h0.size) (V_b68 : Arv Z h0 b68 k68 .byte nra vra (.int (0 : Int32))) (hr357_hE : (w8e = (1 : Int32) ∧ nra = (0 : Int32) ∧ vra = []) ∨ (w8e = (0 : Int32) ∧ nra = (2 : Int32) ∧ vra = [(.int y13_92_63), (.int y14_99_65)])) (hr605_hE : (w8e = (1 : Int32) ∧ nra = (0 : Int32) ∧ vra = []) ∨ (w8e = (0 : Int32) ∧ nra = (2 : Int32) ∧ vra = [(.int y13_92_63), (.int y14_99_65)])) :
    Gl p e below (fun o U' => ∃ v L, o = .returned v ∧ (v = some (.int (1 : Int32)) ∧ Fr n0 L) ∧ FrameEnd s o U' L room_1.cells room_1.slots) (T0.setTop (mkF m 206 #[.val (.int p1), .val (.int p2), .val (.int p3), .val (.int p4), .val (.long q5), .second, .val (.int p6), .val (.int (1 : Int32)), .val (.int w8e), od9, .val (.ref b11_t0), .val (.ref b17_t0), .val (.ref b57_t0), .val (.int y13_92_63), .val (.int y14_99_65), .val (.ref b68), .val (.ref b1075), .val .null, .val (.ref b1096), .val (.ref b1102), .unset, .unset, .unset] [])) := by
  obtain ⟨L0, hL0⟩ : ∃ z : Array Slot, z = #[.val (.int p1), .val (.int p2), .val (.int p3), .val (.int p4), .val (.long q5), .second, .val (.int p6), .val (.int (1 : Int32)), .val (.int w8e), od9, .val (.ref b11_t0), .val (.ref b17_t0), .val (.ref b57_t0), .val (.int y13_92_63), .val (.int y14_99_65), .val (.ref b68), .val (.ref b1075), .val .null, .val (.ref b1096), .val (.ref b1102), .unset, .unset, .unset] := ⟨_, rfl⟩
  refine Gl.cast (B := (T0.setTop (mkF m 206 L0 []))) (by rw [hL0]) ?_
  obtain ⟨T2108, h2108, X2108, e2108, E2108, A2108, D2108, -, st2108⟩ := newO X0 hx hZ hown (tw hw 101 rfl) (tw hw 102 rfl) (tw hw 103 rfl) e0 (g := (mkF m 206 L0 [])) rfl (hb hby at_206) (by decide) (by decide)
  obtain ⟨b2108, gq2108⟩ : ∃ z, z = h0.size := ⟨_, rfl⟩
  rw [← gq2108] at A2108 D2108 st2108
  have g_b2108 : n0 ≤ b2108 := Nat.le_trans Z0 (Nat.le_of_eq gq2108.symm)
  have lt_b2108 := A2108.lt
  have Zc2109 : n0 ≤ h2108.size := Nat.le_trans Z0 E2108.1
  have F2108_assignment : Fld Z h2108 b2108 "com/example/limpet/limpet/group/Member" "assignment" "[B" .null := D2108 (Or.inl (tw hw 109 rfl)) (ty := (.array .byte)) (by decide)
  have F2108_id : Fld Z h2108 b2108 "com/example/limpet/limpet/group/Member" "id" "Ljava/lang/String;" .null := D2108 (Or.inr (tw hw 111 rfl)) (ty := (.object "java/lang/String")) (by decide)
  have F2108_instanceId : Fld Z h2108 b2108 "com/example/limpet/limpet/group/Member" "instanceId" "Ljava/lang/String;" .null := D2108 (Or.inr (tw hw 113 rfl)) (ty := (.object "java/lang/String")) (by decide)
  have F2108_generation : Fld Z h2108 b2108 "com/example/limpet/limpet/group/Member" "generation" "I" (.int (0 : Int32)) := D2108 (Or.inl (tw hw 115 rfl)) (ty := .int) (by decide)
  have F2108_protocols : Fld Z h2108 b2108 "com/example/limpet/limpet/group/Member" "protocols" "Ljava/util/List;" .null := D2108 (Or.inl (tw hw 118 rfl)) (ty := (.object "java/util/List")) (by decide)
  have F2108_sess2 : Fld Z h2108 b2108 "com/example/limpet/limpet/group/Member" "sessionTimeoutMs" "I" (.int (0 : Int32)) := D2108 (Or.inl (tw hw 120 rfl)) (ty := .int) (by decide)
  have F2108_reba3 : Fld Z h2108 b2108 "com/example/limpet/limpet/group/Member" "rebalanceTimeoutMs" "I" (.int (0 : Int32)) := D2108 (Or.inl (tw hw 122 rfl)) (ty := .int) (by decide)
  have F2108_sess4 : Fld Z h2108 b2108 "com/example/limpet/limpet/group/Member" "sessionDeadline" "J" (.long (0 : Int64)) := D2108 (Or.inl (tw hw 125 rfl)) (ty := .long) (by decide)
  have F2108_pendingJoin : Fld Z h2108 b2108 "com/example/limpet/limpet/group/Member" "pendingJoin" "Ljava/util/function/Consumer;" .null := D2108 (Or.inl (tw hw 174 rfl)) (ty := (.object "java/util/function/Consumer")) (by decide)
  have F2108_pendingSync : Fld Z h2108 b2108 "com/example/limpet/limpet/group/Member" "pendingSync" "Ljava/util/function/Consumer;" .null := D2108 (Or.inl (tw hw 176 rfl)) (ty := (.object "java/util/function/Consumer")) (by decide)
  refine Gl.st (B := (T2108.setTop (mkF m 209 L0 [(.ref b2108)]))) st2108 ?_
  refine Gl.st (B := (T2108.setTop (mkF m 214 L0 [(.ref b57_t0), (.ref b17_t0), (.ref b2108), (.ref b2108)]))) (fun t k => XS.dup X2108.here hx rfl (hb hby at_209) rfl rfl (XS.aload X2108.here hx rfl (hb hby at_210) (ldAt hL0 rfl) rfl (XS.aload X2108.here hx rfl (hb hby at_212) (ldAt hL0 rfl) rfl k))) ?_
  obtain ⟨_, _, ⟨T2110, L2110q, k2110, n2110⟩, -, X2110, ⟨Lc2110, hQ2110, l2110, y2110, z2110⟩, st2110⟩ := X2108.specialBack hx (y := (⟨"com/example/limpet/limpet/group/Member", "<init>", "(Ljava/lang/String;Ljava/lang/String;)V"⟩ : MethodName)) rfl hown (mvT hZ (tw hw 104 rfl)) (mvT hZ (tw hw 105 rfl)) (mvT hZ (tw hw 106 rfl)) (by decide) (backOf (W := 1) (rm16 l Z a0 hw [] b2108 b17_t0 b57_t0 .null .null .null ((.int (0 : Int32))) .null ((.int (0 : Int32))) ((.int (0 : Int32))) ((.long (0 : Int64))) .null .null h2108 n0 Zc2109 F2108_assignment F2108_id F2108_instanceId F2108_generation F2108_protocols F2108_sess2 F2108_reba3 F2108_sess4 F2108_pendingJoin F2108_pendingSync A2108 g_b2108) hZ (tw hw 106 rfl) (tw hw 103 rfl) (by decide) (by decide)) (g := (mkF m 214 L0 [(.ref b57_t0), (.ref b17_t0), (.ref b2108), (.ref b2108)])) rfl (szAt hml hL0 rfl) (Steps.refl _) (a := b2108) (argsL := [(.ref b17_t0), (.ref b57_t0)]) (rest := [(.ref b2108)]) (lenOf pd_0s206_8_0 rfl) rfl (by show 2 * 0 + _ ≤ _; exact Nat.le_of_eq rfl) (hb hby at_214) (fun _ _ => ⟨rfl, e2108, (by decide : 14 + 1 ≤ _), (by decide : 39 + 0 ≤ _)⟩)
  dsimp only [Pt.U, Pt.locs, Pt.cells, Pt.slots] at X2110 l2110 y2110 z2110 st2110 hQ2110
  subst l2110 y2110 z2110
  obtain ⟨b2110_t0, k2110_kx_t0, rfl, N2110q, Kc2110, fq2110_0, fq2110_1, fq2110_2, fq2110_3, fq2110_4, fq2110_5, fq2110_6, fq2110_7, fq2110_8, fq2110_9, fq2110_10, fq2110_11, fq2110_12, fq2110_13⟩ := hQ2110
  have g_b2110_t0 : n0 ≤ b2110_t0 := Nat.le_trans Zc2109 fq2110_0
  have lt_b2110_t0 := fq2110_12.lt
  have Zc2111 : n0 ≤ T2110.heap.size := Nat.le_trans Zc2109 Kc2110.1
  have N2110 := Fr.app N0 N2110q
  refine Gl.st (B := (T2110.setTop (mkF m 217 L0 [(.ref b2108)]))) (fun t k => st2110.trans k) ?_
  obtain ⟨L2112, hL2112⟩ : ∃ z : Array Slot, z = #[.val (.int p1), .val (.int p2), .val (.int p3), .val (.int p4), .val (.long q5), .second, .val (.int p6), .val (.int (1 : Int32)), .val (.int w8e), od9, .val (.ref b11_t0), .val (.ref b17_t0), .val (.ref b57_t0), .val (.int y13_92_63), .val (.int y14_99_65), .val (.ref b68), .val (.ref b1075), .val .null, .val (.ref b1096), .val (.ref b1102), .val (.ref b2108), .unset, .unset] := ⟨_, rfl⟩
  refine Gl.st (B := (T2110.setTop (mkF m 219 L2112 []))) (fun t k => XS.astore X2110.here hx rfl (hb hby at_217) rfl rfl (l' := L2112) (stAt hL0 hL2112 rfl rfl) k) ?_
  obtain ⟨T2113, h2113, X2113, e2113, E2113, A2113, D2113, -, st2113⟩ := newO X2110 hx hZ hown (tw hw 101 rfl) (tw hw 102 rfl) (tw hw 103 rfl) rfl (g := (mkF m 219 L2112 [])) rfl (hb hby at_219) (by decide) (by decide)
  obtain ⟨b2113, gq2113⟩ : ∃ z, z = T2110.heap.size := ⟨_, rfl⟩
  rw [← gq2113] at A2113 D2113 st2113
  have g_b2113 : n0 ≤ b2113 := Nat.le_trans Zc2111 (Nat.le_of_eq gq2113.symm)
  have lt_b2113 := A2113.lt
  have Zc2114 : n0 ≤ h2113.size := Nat.le_trans Zc2111 E2113.1
  have F2113_assignment : Fld Z h2113 b2113 "com/example/limpet/limpet/group/Member" "assignment" "[B" .null := D2113 (Or.inl (tw hw 109 rfl)) (ty := (.array .byte)) (by decide)
  have F2113_id : Fld Z h2113 b2113 "com/example/limpet/limpet/group/Member" "id" "Ljava/lang/String;" .null := D2113 (Or.inr (tw hw 111 rfl)) (ty := (.object "java/lang/String")) (by decide)
  have F2113_instanceId : Fld Z h2113 b2113 "com/example/limpet/limpet/group/Member" "instanceId" "Ljava/lang/String;" .null := D2113 (Or.inr (tw hw 113 rfl)) (ty := (.object "java/lang/String")) (by decide)
  have F2113_generation : Fld Z h2113 b2113 "com/example/limpet/limpet/group/Member" "generation" "I" (.int (0 : Int32)) := D2113 (Or.inl (tw hw 115 rfl)) (ty := .int) (by decide)
  have F2113_protocols : Fld Z h2113 b2113 "com/example/limpet/limpet/group/Member" "protocols" "Ljava/util/List;" .null := D2113 (Or.inl (tw hw 118 rfl)) (ty := (.object "java/util/List")) (by decide)
  have F2113_sess2 : Fld Z h2113 b2113 "com/example/limpet/limpet/group/Member" "sessionTimeoutMs" "I" (.int (0 : Int32)) := D2113 (Or.inl (tw hw 120 rfl)) (ty := .int) (by decide)
  have F2113_reba3 : Fld Z h2113 b2113 "com/example/limpet/limpet/group/Member" "rebalanceTimeoutMs" "I" (.int (0 : Int32)) := D2113 (Or.inl (tw hw 122 rfl)) (ty := .int) (by decide)
  have F2113_sess4 : Fld Z h2113 b2113 "com/example/limpet/limpet/group/Member" "sessionDeadline" "J" (.long (0 : Int64)) := D2113 (Or.inl (tw hw 125 rfl)) (ty := .long) (by decide)
  have F2113_pendingJoin : Fld Z h2113 b2113 "com/example/limpet/limpet/group/Member" "pendingJoin" "Ljava/util/function/Consumer;" .null := D2113 (Or.inl (tw hw 174 rfl)) (ty := (.object "java/util/function/Consumer")) (by decide)
  have F2113_pendingSync : Fld Z h2113 b2113 "com/example/limpet/limpet/group/Member" "pendingSync" "Ljava/util/function/Consumer;" .null := D2113 (Or.inl (tw hw 176 rfl)) (ty := (.object "java/util/function/Consumer")) (by decide)
  refine Gl.st (B := (T2113.setTop (mkF m 222 L2112 [(.ref b2113)]))) st2113 ?_
  refine Gl.st (B := (T2113.setTop (mkF m 227 L2112 [(.ref b57_t0), (.ref b11_t0), (.ref b2113), (.ref b2113)]))) (fun t k => XS.dup X2113.here hx rfl (hb hby at_222) rfl rfl (XS.aload X2113.here hx rfl (hb hby at_223) (ldAt hL2112 rfl) rfl (XS.aload X2113.here hx rfl (hb hby at_225) (ldAt hL2112 rfl) rfl k))) ?_
  obtain ⟨_, _, ⟨T2115, L2115q, k2115, n2115⟩, -, X2115, ⟨Lc2115, hQ2115, l2115, y2115, z2115⟩, st2115⟩ := X2113.specialBack hx (y := (⟨"com/example/limpet/limpet/group/Member", "<init>", "(Ljava/lang/String;Ljava/lang/String;)V"⟩ : MethodName)) rfl hown (mvT hZ (tw hw 104 rfl)) (mvT hZ (tw hw 105 rfl)) (mvT hZ (tw hw 106 rfl)) (by decide) (backOf (W := 1) (rm16 l Z a0 hw [] b2113 b11_t0 b57_t0 .null .null .null ((.int (0 : Int32))) .null ((.int (0 : Int32))) ((.int (0 : Int32))) ((.long (0 : Int64))) .null .null h2113 n0 Zc2114 F2113_assignment F2113_id F2113_instanceId F2113_generation F2113_protocols F2113_sess2 F2113_reba3 F2113_sess4 F2113_pendingJoin F2113_pendingSync A2113 g_b2113) hZ (tw hw 106 rfl) (tw hw 103 rfl) (by decide) (by decide)) (g := (mkF m 227 L2112 [(.ref b57_t0), (.ref b11_t0), (.ref b2113), (.ref b2113)])) rfl (szAt hml hL2112 rfl) (Steps.refl _) (a := b2113) (argsL := [(.ref b11_t0), (.ref b57_t0)]) (rest := [(.ref b2113)]) (lenOf pd_0s206_8_0 rfl) rfl (by show 2 * 0 + _ ≤ _; exact Nat.le_of_eq rfl) (hb hby at_227) (fun _ _ => ⟨rfl, e2113, (by decide : 16 + 1 ≤ _), (by decide : 49 + 0 ≤ _)⟩)
  dsimp only [Pt.U, Pt.locs, Pt.cells, Pt.slots] at X2115 l2115 y2115 z2115 st2115 hQ2115
  subst l2115 y2115 z2115
  obtain ⟨b2115_t0, k2115_kx_t0, rfl, N2115q, Kc2115, fq2115_0, fq2115_1, fq2115_2, fq2115_3, fq2115_4, fq2115_5, fq2115_6, fq2115_7, fq2115_8, fq2115_9, fq2115_10, fq2115_11, fq2115_12, fq2115_13⟩ := hQ2115
  have g_b2115_t0 : n0 ≤ b2115_t0 := Nat.le_trans Zc2114 fq2115_0
  have lt_b2115_t0 := fq2115_12.lt
  have Zc2116 : n0 ≤ T2115.heap.size := Nat.le_trans Zc2114 Kc2115.1
  have N2115 := Fr.app N2110 N2115q
  refine Gl.st (B := (T2115.setTop (mkF m 230 L2112 [(.ref b2113)]))) (fun t k => st2115.trans k) ?_
  obtain ⟨L2117, hL2117⟩ : ∃ z : Array Slot, z = #[.val (.int p1), .val (.int p2), .val (.int p3), .val (.int p4), .val (.long q5), .second, .val (.int p6), .val (.int (1 : Int32)), .val (.int w8e), od9, .val (.ref b11_t0), .val (.ref b17_t0), .val (.ref b57_t0), .val (.int y13_92_63), .val (.int y14_99_65), .val (.ref b68), .val (.ref b1075), .val .null, .val (.ref b1096), .val (.ref b1102), .val (.ref b2108), .val (.ref b2113), .unset] := ⟨_, rfl⟩
  refine Gl.st (B := (T2115.setTop (mkF m 235 L2117 [(.int p1), (.ref b2108)]))) (fun t k => XS.astore X2115.here hx rfl (hb hby at_230) rfl rfl (l' := L2117) (stAt hL2112 hL2117 rfl rfl) (XS.aload X2115.here hx rfl (hb hby at_232) (ldAt hL2117 rfl) rfl (XS.iloadN X2115.here hx rfl (hb hby at_234) (ldAt hL2117 rfl) k))) ?_
  have c2118 := ((fq2110_1.ext E2113).keep Kc2115)
  have ne_b2108_b2113_2119 : b2108 ≠ b2113 := Nat.ne_of_lt (Nat.lt_of_lt_of_le lt_b2108 (Nat.le_trans Kc2110.1 (Nat.le_of_eq gq2113.symm)))
  have c2120 := ((fq2110_3.ext E2113).keep Kc2115 (ninS ne_b2108_b2113_2119 nin0))
  obtain ⟨T2121, h2121, X2121, e2121, W2121, st2121⟩ := putF X2115 hx hZ hown (host := "") (Or.inl (tw hw 114 rfl)) Via.refl rfl c2120 c2118 (Or.inl (tw hw 115 rfl)) (tw hw 102 rfl) (ty := .int) (by decide) rfl rfl (g := (mkF m 235 L2117 [(.int p1), (.ref b2108)])) rfl rfl (hb hby at_235)
  have Fw2121 := c2120.same W2121
  have Zc2122 : n0 ≤ h2121.size := Nat.le_trans Zc2116 (Nat.le_of_eq W2121.size.symm)
  have N2121 := Fr.snoc X2121 N2115 g_b2108
  refine Gl.st (B := (T2121.setTop (mkF m 238 L2117 []))) st2121 ?_
  refine Gl.st (B := (T2121.setTop (mkF m 242 L2117 [(.ref b68), (.ref b2108)]))) (fun t k => XS.aload X2121.here hx rfl (hb hby at_238) (ldAt hL2117 rfl) rfl (XS.aload X2121.here hx rfl (hb hby at_240) (ldAt hL2117 rfl) rfl k)) ?_
  have c2123 := (c2118.wr W2121)
  have c2124 := (((fq2110_2.ext E2113).keep Kc2115 (ninS ne_b2108_b2113_2119 nin0)).other W2121 (Or.inr (sn39 hw)))
  obtain ⟨T2125, h2125, X2125, e2125, W2125, st2125⟩ := putF X2121 hx hZ hown (host := "") (Or.inl (tw hw 116 rfl)) Via.refl e2121 c2124 c2123 (Or.inl (tw hw 109 rfl)) (tw hw 102 rfl) (ty := (.array .byte)) (by decide) rfl rfl (g := (mkF m 242 L2117 [(.ref b68), (.ref b2108)])) rfl rfl (hb hby at_242)
  have Fw2125 := c2124.same W2125
  have Zc2126 : n0 ≤ h2125.size := Nat.le_trans Zc2122 (Nat.le_of_eq W2125.size.symm)
  have N2125 := Fr.snoc X2125 N2121 g_b2108
  refine Gl.st (B := (T2125.setTop (mkF m 245 L2117 []))) st2125 ?_
  refine Gl.st (B := (T2125.setTop (mkF m 249 L2117 [.null, (.ref b2108)]))) (fun t k => XS.aload X2125.here hx rfl (hb hby at_245) (ldAt hL2117 rfl) rfl (XS.aload X2125.here hx rfl (hb hby at_247) (ldAt hL2117 rfl) rfl k)) ?_
  have c2127 := (c2123.wr W2125)
  have c2128 := ((((fq2110_8.ext E2113).keep Kc2115 (ninS ne_b2108_b2113_2119 nin0)).other W2121 (Or.inr (sn48 hw))).other W2125 (Or.inr (sn25 hw)))
  obtain ⟨T2129, h2129, X2129, e2129, W2129, st2129⟩ := putF X2125 hx hZ hown (host := "") (Or.inl (tw hw 117 rfl)) Via.refl e2125 c2128 c2127 (Or.inl (tw hw 118 rfl)) (tw hw 102 rfl) (ty := (.object "java/util/List")) (by decide) rfl rfl (g := (mkF m 249 L2117 [.null, (.ref b2108)])) rfl rfl (hb hby at_249)
  have Fw2129 := c2128.same W2129
  have Zc2130 : n0 ≤ h2129.size := Nat.le_trans Zc2126 (Nat.le_of_eq W2129.size.symm)
  have N2129 := Fr.snoc X2129 N2125 g_b2108
  refine Gl.st (B := (T2129.setTop (mkF m 252 L2117 []))) st2129 ?_
  refine Gl.st (B := (T2129.setTop (mkF m 257 L2117 [(.int (p3 ^^^ (-1 : Int32))), (.ref b2108)]))) (fun t k => XS.aload X2129.here hx rfl (hb hby at_252) (ldAt hL2117 rfl) rfl (XS.iloadN X2129.here hx rfl (hb hby at_254) (ldAt hL2117 rfl) (XS.iconst X2129.here hx rfl (hb hby at_255) (XS.ixor X2129.here hx rfl (hb hby at_256) rfl k)))) ?_
  obtain ⟨x257_2131, hx257_2131⟩ : ∃ z : Int32, z = (p3 ^^^ (-1 : Int32)) := ⟨_, rfl⟩
  refine Gl.cast (B := (T2129.setTop (mkF m 257 L2117 [(.int x257_2131), (.ref b2108)]))) (by rw [hx257_2131]) ?_
  have c2132 := (c2127.wr W2129)
  have c2133 := (((((fq2110_11.ext E2113).keep Kc2115 (ninS ne_b2108_b2113_2119 nin0)).other W2121 (Or.inr (sn54 hw))).other W2125 (Or.inr (sn34 hw))).other W2129 (Or.inr (sn53 hw)))
  obtain ⟨T2134, h2134, X2134, e2134, W2134, st2134⟩ := putF X2129 hx hZ hown (host := "") (Or.inl (tw hw 119 rfl)) Via.refl e2129 c2133 c2132 (Or.inl (tw hw 120 rfl)) (tw hw 102 rfl) (ty := .int) (by decide) rfl rfl (g := (mkF m 257 L2117 [(.int x257_2131), (.ref b2108)])) rfl rfl (hb hby at_257)
  have Fw2134 := c2133.same W2134
  have Zc2135 : n0 ≤ h2134.size := Nat.le_trans Zc2130 (Nat.le_of_eq W2134.size.symm)
  have N2134 := Fr.snoc X2134 N2129 g_b2108
  refine Gl.st (B := (T2134.setTop (mkF m 260 L2117 []))) st2134 ?_
  refine Gl.st (B := (T2134.setTop (mkF m 265 L2117 [(.int (p4 ^^^ (-1 : Int32))), (.ref b2108)]))) (fun t k => XS.aload X2134.here hx rfl (hb hby at_260) (ldAt hL2117 rfl) rfl (XS.iloadN X2134.here hx rfl (hb hby at_262) (ldAt hL2117 rfl) (XS.iconst X2134.here hx rfl (hb hby at_263) (XS.ixor X2134.here hx rfl (hb hby at_264) rfl k)))) ?_
  obtain ⟨x265_2136, hx265_2136⟩ : ∃ z : Int32, z = (p4 ^^^ (-1 : Int32)) := ⟨_, rfl⟩
  refine Gl.cast (B := (T2134.setTop (mkF m 265 L2117 [(.int x265_2136), (.ref b2108)]))) (by rw [hx265_2136]) ?_
  have c2137 := (c2132.wr W2134)
  have c2138 := ((((((fq2110_9.ext E2113).keep Kc2115 (ninS ne_b2108_b2113_2119 nin0)).other W2121 (Or.inr (sn50 hw))).other W2125 (Or.inr (sn28 hw))).other W2129 (Or.inr (sn49 hw))).other W2134 (Or.inr (sn55 hw)))
  obtain ⟨T2139, h2139, X2139, e2139, W2139, st2139⟩ := putF X2134 hx hZ hown (host := "") (Or.inl (tw hw 121 rfl)) Via.refl e2134 c2138 c2137 (Or.inl (tw hw 122 rfl)) (tw hw 102 rfl) (ty := .int) (by decide) rfl rfl (g := (mkF m 265 L2117 [(.int x265_2136), (.ref b2108)])) rfl rfl (hb hby at_265)
  have Fw2139 := c2138.same W2139
  have Zc2140 : n0 ≤ h2139.size := Nat.le_trans Zc2135 (Nat.le_of_eq W2139.size.symm)
  have N2139 := Fr.snoc X2139 N2134 g_b2108
  refine Gl.st (B := (T2139.setTop (mkF m 268 L2117 []))) st2139 ?_
  refine Gl.st (B := (T2139.setTop (mkF m 276 L2117 [(.long (q5 ^^^ (-1 : Int64))), (.ref b2108)]))) (fun t k => XS.aload X2139.here hx rfl (hb hby at_268) (ldAt hL2117 rfl) rfl (XS.lload X2139.here hx rfl (hb hby at_270) (ldAt hL2117 rfl) (X2139.ldc2Long hx hown (mvT hZ (tw hw 123 rfl)) (g := (mkF m 272 L2117 [(.long q5), (.ref b2108)])) rfl (hb hby at_272) _ (XS.lxor X2139.here hx rfl (hb hby at_275) rfl k)))) ?_
  obtain ⟨x276_2141, hx276_2141⟩ : ∃ z : Int64, z = (q5 ^^^ (-1 : Int64)) := ⟨_, rfl⟩
  refine Gl.cast (B := (T2139.setTop (mkF m 276 L2117 [(.long x276_2141), (.ref b2108)]))) (by rw [hx276_2141]) ?_
  have c2142 := (c2137.wr W2139)
  have c2143 := (((((((fq2110_10.ext E2113).keep Kc2115 (ninS ne_b2108_b2113_2119 nin0)).other W2121 (Or.inr (sn52 hw))).other W2125 (Or.inr (sn31 hw))).other W2129 (Or.inr (sn51 hw))).other W2134 (Or.inr (sn56 hw))).other W2139 (Or.inr (sn57 hw)))
  obtain ⟨T2144, h2144, X2144, e2144, W2144, st2144⟩ := putF X2139 hx hZ hown (host := "") (Or.inl (tw hw 124 rfl)) Via.refl e2139 c2143 c2142 (Or.inl (tw hw 125 rfl)) (tw hw 102 rfl) (ty := .long) (by decide) rfl rfl (g := (mkF m 276 L2117 [(.long x276_2141), (.ref b2108)])) rfl rfl (hb hby at_276)
  have Fw2144 := c2143.same W2144
  have Zc2145 : n0 ≤ h2144.size := Nat.le_trans Zc2140 (Nat.le_of_eq W2144.size.symm)
  have N2144 := Fr.snoc X2144 N2139 g_b2108
  refine Gl.st (B := (T2144.setTop (mkF m 279 L2117 []))) st2144 ?_
  refine Gl.st (B := (T2144.setTop (mkF m 282 L2117 [(.int p2), (.ref b2113)]))) (fun t k => XS.aload X2144.here hx rfl (hb hby at_279) (ldAt hL2117 rfl) rfl (XS.iloadN X2144.here hx rfl (hb hby at_281) (ldAt hL2117 rfl) k)) ?_
  have c2146 := ((((((fq2115_1.wr W2121).wr W2125).wr W2129).wr W2134).wr W2139).wr W2144)
  have c2147 := ((((((fq2115_3.other W2121 (Or.inl (Ne.symm ne_b2108_b2113_2119))).other W2125 (Or.inl (Ne.symm ne_b2108_b2113_2119))).other W2129 (Or.inl (Ne.symm ne_b2108_b2113_2119))).other W2134 (Or.inl (Ne.symm ne_b2108_b2113_2119))).other W2139 (Or.inl (Ne.symm ne_b2108_b2113_2119))).other W2144 (Or.inl (Ne.symm ne_b2108_b2113_2119)))
  obtain ⟨T2148, h2148, X2148, e2148, W2148, st2148⟩ := putF X2144 hx hZ hown (host := "") (Or.inl (tw hw 114 rfl)) Via.refl e2144 c2147 c2146 (Or.inl (tw hw 115 rfl)) (tw hw 102 rfl) (ty := .int) (by decide) rfl rfl (g := (mkF m 282 L2117 [(.int p2), (.ref b2113)])) rfl rfl (hb hby at_282)
  have Fw2148 := c2147.same W2148
  have Zc2149 : n0 ≤ h2148.size := Nat.le_trans Zc2145 (Nat.le_of_eq W2148.size.symm)
  have N2148 := Fr.snoc X2148 N2144 g_b2113
  refine Gl.st (B := (T2148.setTop (mkF m 285 L2117 []))) st2148 ?_
  refine Gl.st (B := (T2148.setTop (mkF m 289 L2117 [(.ref b1102), (.ref b2113)]))) (fun t k => XS.aload X2148.here hx rfl (hb hby at_285) (ldAt hL2117 rfl) rfl (XS.aload X2148.here hx rfl (hb hby at_287) (ldAt hL2117 rfl) rfl k)) ?_
  have c2150 := (c2146.wr W2148)
  have c2151 := (((((((fq2115_2.other W2121 (Or.inl (Ne.symm ne_b2108_b2113_2119))).other W2125 (Or.inl (Ne.symm ne_b2108_b2113_2119))).other W2129 (Or.inl (Ne.symm ne_b2108_b2113_2119))).other W2134 (Or.inl (Ne.symm ne_b2108_b2113_2119))).other W2139 (Or.inl (Ne.symm ne_b2108_b2113_2119))).other W2144 (Or.inl (Ne.symm ne_b2108_b2113_2119))).other W2148 (Or.inr (sn39 hw)))
  obtain ⟨T2152, h2152, X2152, e2152, W2152, st2152⟩ := putF X2148 hx hZ hown (host := "") (Or.inl (tw hw 116 rfl)) Via.refl e2148 c2151 c2150 (Or.inl (tw hw 109 rfl)) (tw hw 102 rfl) (ty := (.array .byte)) (by decide) rfl rfl (g := (mkF m 289 L2117 [(.ref b1102), (.ref b2113)])) rfl rfl (hb hby at_289)
  have Fw2152 := c2151.same W2152
  have Zc2153 : n0 ≤ h2152.size := Nat.le_trans Zc2149 (Nat.le_of_eq W2152.size.symm)
  have N2152 := Fr.snoc X2152 N2148 g_b2113
  refine Gl.st (B := (T2152.setTop (mkF m 292 L2117 []))) st2152 ?_
  refine Gl.st (B := (T2152.setTop (mkF m 296 L2117 [(.ref b1096), (.ref b2113)]))) (fun t k => XS.aload X2152.here hx rfl (hb hby at_292) (ldAt hL2117 rfl) rfl (XS.aload X2152.here hx rfl (hb hby at_294) (ldAt hL2117 rfl) rfl k)) ?_
  have c2154 := (c2150.wr W2152)
  have c2155 := ((((((((fq2115_8.other W2121 (Or.inl (Ne.symm ne_b2108_b2113_2119))).other W2125 (Or.inl (Ne.symm ne_b2108_b2113_2119))).other W2129 (Or.inl (Ne.symm ne_b2108_b2113_2119))).other W2134 (Or.inl (Ne.symm ne_b2108_b2113_2119))).other W2139 (Or.inl (Ne.symm ne_b2108_b2113_2119))).other W2144 (Or.inl (Ne.symm ne_b2108_b2113_2119))).other W2148 (Or.inr (sn48 hw))).other W2152 (Or.inr (sn25 hw)))
  obtain ⟨T2156, h2156, X2156, e2156, W2156, st2156⟩ := putF X2152 hx hZ hown (host := "") (Or.inl (tw hw 117 rfl)) Via.refl e2152 c2155 c2154 (Or.inl (tw hw 118 rfl)) (tw hw 102 rfl) (ty := (.object "java/util/List")) (by decide) rfl rfl (g := (mkF m 296 L2117 [(.ref b1096), (.ref b2113)])) rfl rfl (hb hby at_296)
  have Fw2156 := c2155.same W2156
  have Zc2157 : n0 ≤ h2156.size := Nat.le_trans Zc2153 (Nat.le_of_eq W2156.size.symm)
  have N2156 := Fr.snoc X2156 N2152 g_b2113
  refine Gl.st (B := (T2156.setTop (mkF m 299 L2117 []))) st2156 ?_
  refine Gl.st (B := (T2156.setTop (mkF m 302 L2117 [(.int p3), (.ref b2113)]))) (fun t k => XS.aload X2156.here hx rfl (hb hby at_299) (ldAt hL2117 rfl) rfl (XS.iloadN X2156.here hx rfl (hb hby at_301) (ldAt hL2117 rfl) k)) ?_
  have c2158 := (c2154.wr W2156)
  have c2159 := (((((((((fq2115_11.other W2121 (Or.inl (Ne.symm ne_b2108_b2113_2119))).other W2125 (Or.inl (Ne.symm ne_b2108_b2113_2119))).other W2129 (Or.inl (Ne.symm ne_b2108_b2113_2119))).other W2134 (Or.inl (Ne.symm ne_b2108_b2113_2119))).other W2139 (Or.inl (Ne.symm ne_b2108_b2113_2119))).other W2144 (Or.inl (Ne.symm ne_b2108_b2113_2119))).other W2148 (Or.inr (sn54 hw))).other W2152 (Or.inr (sn34 hw))).other W2156 (Or.inr (sn53 hw)))
  obtain ⟨T2160, h2160, X2160, e2160, W2160, st2160⟩ := putF X2156 hx hZ hown (host := "") (Or.inl (tw hw 119 rfl)) Via.refl e2156 c2159 c2158 (Or.inl (tw hw 120 rfl)) (tw hw 102 rfl) (ty := .int) (by decide) rfl rfl (g := (mkF m 302 L2117 [(.int p3), (.ref b2113)])) rfl rfl (hb hby at_302)
  have Fw2160 := c2159.same W2160
  have Zc2161 : n0 ≤ h2160.size := Nat.le_trans Zc2157 (Nat.le_of_eq W2160.size.symm)
  have N2160 := Fr.snoc X2160 N2156 g_b2113
  refine Gl.st (B := (T2160.setTop (mkF m 305 L2117 []))) st2160 ?_
  refine Gl.st (B := (T2160.setTop (mkF m 308 L2117 [(.int p4), (.ref b2113)]))) (fun t k => XS.aload X2160.here hx rfl (hb hby at_305) (ldAt hL2117 rfl) rfl (XS.iloadN X2160.here hx rfl (hb hby at_307) (ldAt hL2117 rfl) k)) ?_
  have c2162 := (c2158.wr W2160)
  have c2163 := ((((((((((fq2115_9.other W2121 (Or.inl (Ne.symm ne_b2108_b2113_2119))).other W2125 (Or.inl (Ne.symm ne_b2108_b2113_2119))).other W2129 (Or.inl (Ne.symm ne_b2108_b2113_2119))).other W2134 (Or.inl (Ne.symm ne_b2108_b2113_2119))).other W2139 (Or.inl (Ne.symm ne_b2108_b2113_2119))).other W2144 (Or.inl (Ne.symm ne_b2108_b2113_2119))).other W2148 (Or.inr (sn50 hw))).other W2152 (Or.inr (sn28 hw))).other W2156 (Or.inr (sn49 hw))).other W2160 (Or.inr (sn55 hw)))
  obtain ⟨T2164, h2164, X2164, e2164, W2164, st2164⟩ := putF X2160 hx hZ hown (host := "") (Or.inl (tw hw 121 rfl)) Via.refl e2160 c2163 c2162 (Or.inl (tw hw 122 rfl)) (tw hw 102 rfl) (ty := .int) (by decide) rfl rfl (g := (mkF m 308 L2117 [(.int p4), (.ref b2113)])) rfl rfl (hb hby at_308)
  have Fw2164 := c2163.same W2164
  have Zc2165 : n0 ≤ h2164.size := Nat.le_trans Zc2161 (Nat.le_of_eq W2164.size.symm)
  have N2164 := Fr.snoc X2164 N2160 g_b2113
  refine Gl.st (B := (T2164.setTop (mkF m 311 L2117 []))) st2164 ?_
  refine Gl.st (B := (T2164.setTop (mkF m 315 L2117 [(.long q5), (.ref b2113)]))) (fun t k => XS.aload X2164.here hx rfl (hb hby at_311) (ldAt hL2117 rfl) rfl (XS.lload X2164.here hx rfl (hb hby at_313) (ldAt hL2117 rfl) k)) ?_
  have c2166 := (c2162.wr W2164)
  have c2167 := (((((((((((fq2115_10.other W2121 (Or.inl (Ne.symm ne_b2108_b2113_2119))).other W2125 (Or.inl (Ne.symm ne_b2108_b2113_2119))).other W2129 (Or.inl (Ne.symm ne_b2108_b2113_2119))).other W2134 (Or.inl (Ne.symm ne_b2108_b2113_2119))).other W2139 (Or.inl (Ne.symm ne_b2108_b2113_2119))).other W2144 (Or.inl (Ne.symm ne_b2108_b2113_2119))).other W2148 (Or.inr (sn52 hw))).other W2152 (Or.inr (sn31 hw))).other W2156 (Or.inr (sn51 hw))).other W2160 (Or.inr (sn56 hw))).other W2164 (Or.inr (sn57 hw)))
  obtain ⟨T2168, h2168, X2168, e2168, W2168, st2168⟩ := putF X2164 hx hZ hown (host := "") (Or.inl (tw hw 124 rfl)) Via.refl e2164 c2167 c2166 (Or.inl (tw hw 125 rfl)) (tw hw 102 rfl) (ty := .long) (by decide) rfl rfl (g := (mkF m 315 L2117 [(.long q5), (.ref b2113)])) rfl rfl (hb hby at_315)
  have Fw2168 := c2167.same W2168
  have Zc2169 : n0 ≤ h2168.size := Nat.le_trans Zc2165 (Nat.le_of_eq W2168.size.symm)
  have N2168 := Fr.snoc X2168 N2164 g_b2113
  refine Gl.st (B := (T2168.setTop (mkF m 318 L2117 []))) st2168 ?_
  refine Gl.st (B := (T2168.setTop (mkF m 322 L2117 [(.ref b2108), (.ref b2113)]))) (fun t k => XS.aload X2168.here hx rfl (hb hby at_318) (ldAt hL2117 rfl) rfl (XS.aload X2168.here hx rfl (hb hby at_320) (ldAt hL2117 rfl) rfl k)) ?_
  have c2171 := ((((Fw2152.other W2156 (Or.inr (sn37 hw))).other W2160 (Or.inr (sn58 hw))).other W2164 (Or.inr (sn59 hw))).other W2168 (Or.inr (sn60 hw)))
  have c2172 := ((((((((((((fq2115_4.other W2121 (Or.inl (Ne.symm ne_b2108_b2113_2119))).other W2125 (Or.inl (Ne.symm ne_b2108_b2113_2119))).other W2129 (Or.inl (Ne.symm ne_b2108_b2113_2119))).other W2134 (Or.inl (Ne.symm ne_b2108_b2113_2119))).other W2139 (Or.inl (Ne.symm ne_b2108_b2113_2119))).other W2144 (Or.inl (Ne.symm ne_b2108_b2113_2119))).other W2148 (Or.inr (sn41 hw))).other W2152 (Or.inr (sn10 hw))).other W2156 (Or.inr (sn40 hw))).other W2160 (Or.inr (sn61 hw))).other W2164 (Or.inr (sn62 hw))).other W2168 (Or.inr (sn63 hw)))
  have c2173 := ((((((((((((fq2115_5.other W2121 (Or.inl (Ne.symm ne_b2108_b2113_2119))).other W2125 (Or.inl (Ne.symm ne_b2108_b2113_2119))).other W2129 (Or.inl (Ne.symm ne_b2108_b2113_2119))).other W2134 (Or.inl (Ne.symm ne_b2108_b2113_2119))).other W2139 (Or.inl (Ne.symm ne_b2108_b2113_2119))).other W2144 (Or.inl (Ne.symm ne_b2108_b2113_2119))).other W2148 (Or.inr (sn43 hw))).other W2152 (Or.inr (sn11 hw))).other W2156 (Or.inr (sn42 hw))).other W2160 (Or.inr (sn64 hw))).other W2164 (Or.inr (sn65 hw))).other W2168 (Or.inr (sn66 hw)))
  have c2174 := (((((Fw2148.other W2152 (Or.inr (sn15 hw))).other W2156 (Or.inr (sn38 hw))).other W2160 (Or.inr (sn67 hw))).other W2164 (Or.inr (sn68 hw))).other W2168 (Or.inr (sn69 hw)))
  have c2175 := (((Fw2156.other W2160 (Or.inr (sn70 hw))).other W2164 (Or.inr (sn71 hw))).other W2168 (Or.inr (sn72 hw)))
  have c2176 := ((Fw2160.other W2164 (Or.inr (sn73 hw))).other W2168 (Or.inr (sn74 hw)))
  have c2177 := (Fw2164.other W2168 (Or.inr (sn75 hw)))
  have c2178 := ((((((((((((fq2115_6.other W2121 (Or.inl (Ne.symm ne_b2108_b2113_2119))).other W2125 (Or.inl (Ne.symm ne_b2108_b2113_2119))).other W2129 (Or.inl (Ne.symm ne_b2108_b2113_2119))).other W2134 (Or.inl (Ne.symm ne_b2108_b2113_2119))).other W2139 (Or.inl (Ne.symm ne_b2108_b2113_2119))).other W2144 (Or.inl (Ne.symm ne_b2108_b2113_2119))).other W2148 (Or.inr (sn45 hw))).other W2152 (Or.inr (sn19 hw))).other W2156 (Or.inr (sn44 hw))).other W2160 (Or.inr (sn76 hw))).other W2164 (Or.inr (sn77 hw))).other W2168 (Or.inr (sn78 hw)))
  have c2179 := ((((((((((((fq2115_7.other W2121 (Or.inl (Ne.symm ne_b2108_b2113_2119))).other W2125 (Or.inl (Ne.symm ne_b2108_b2113_2119))).other W2129 (Or.inl (Ne.symm ne_b2108_b2113_2119))).other W2134 (Or.inl (Ne.symm ne_b2108_b2113_2119))).other W2139 (Or.inl (Ne.symm ne_b2108_b2113_2119))).other W2144 (Or.inl (Ne.symm ne_b2108_b2113_2119))).other W2148 (Or.inr (sn47 hw))).other W2152 (Or.inr (sn22 hw))).other W2156 (Or.inr (sn46 hw))).other W2160 (Or.inr (sn79 hw))).other W2164 (Or.inr (sn80 hw))).other W2168 (Or.inr (sn81 hw)))
  have c2180 := (((((((((Fw2129.other W2134 (Or.inr (sn70 hw))).other W2139 (Or.inr (sn71 hw))).other W2144 (Or.inr (sn72 hw))).other W2148 (Or.inl ne_b2108_b2113_2119)).other W2152 (Or.inl ne_b2108_b2113_2119)).other W2156 (Or.inl ne_b2108_b2113_2119)).other W2160 (Or.inl ne_b2108_b2113_2119)).other W2164 (Or.inl ne_b2108_b2113_2119)).other W2168 (Or.inl ne_b2108_b2113_2119))
  have c2181 := ((((((((((Fw2125.other W2129 (Or.inr (sn37 hw))).other W2134 (Or.inr (sn58 hw))).other W2139 (Or.inr (sn59 hw))).other W2144 (Or.inr (sn60 hw))).other W2148 (Or.inl ne_b2108_b2113_2119)).other W2152 (Or.inl ne_b2108_b2113_2119)).other W2156 (Or.inl ne_b2108_b2113_2119)).other W2160 (Or.inl ne_b2108_b2113_2119)).other W2164 (Or.inl ne_b2108_b2113_2119)).other W2168 (Or.inl ne_b2108_b2113_2119))
  have c2182 := (((((((((((Fw2121.other W2125 (Or.inr (sn15 hw))).other W2129 (Or.inr (sn38 hw))).other W2134 (Or.inr (sn67 hw))).other W2139 (Or.inr (sn68 hw))).other W2144 (Or.inr (sn69 hw))).other W2148 (Or.inl ne_b2108_b2113_2119)).other W2152 (Or.inl ne_b2108_b2113_2119)).other W2156 (Or.inl ne_b2108_b2113_2119)).other W2160 (Or.inl ne_b2108_b2113_2119)).other W2164 (Or.inl ne_b2108_b2113_2119)).other W2168 (Or.inl ne_b2108_b2113_2119))
  have c2183 := (c2166.wr W2168)
  obtain ⟨cq2170, kq2170, q2170a, q2170b, q2170c⟩ := isOf hZ e2168 c2183
  obtain ⟨_, _, ⟨T2170, L2170q, k2170, n2170⟩, -, X2170, ⟨Lc2170, hQ2170, l2170, y2170, z2170⟩, st2170⟩ := X2168.virtualBack hx (y := (⟨"com/example/limpet/limpet/group/Member", "takeOver", "(Lcom/example/limpet/limpet/group/Member;)V"⟩ : MethodName)) (z := (⟨"com/example/limpet/limpet/group/Member", "takeOver", "(Lcom/example/limpet/limpet/group/Member;)V"⟩ : MethodName)) hown (mvT hZ (tw hw 126 rfl)) (mvT hZ (tw hw 127 rfl)) (notFace_of_selects (args := #[]) (mvT hZ (tw hw 129 rfl))) (mvT hZ (tw hw 129 rfl)) (mvT hZ (tw hw 128 rfl)) (by decide) (backOf (W := 0) (rm17n l Z a0 hw [] b2113 b2108 ((.ref b1102)) ((.ref b11_t0)) ((.ref b57_t0)) ((.int p2)) ((.ref b1096)) ((.int p3)) ((.int p4)) ((.long q5)) .null .null b68 p1 h2168 n0 Zc2169 c2171 c2172 c2173 c2174 c2175 c2176 c2177 Fw2168 c2178 c2179 c2180 c2183 g_b2113 c2181 (Ne.symm ne_b2108_b2113_2119) c2182) hZ (tw hw 130 rfl) (tw hw 103 rfl) (by decide) (by decide)) q2170a q2170c (g := (mkF m 322 L2117 [(.ref b2108), (.ref b2113)])) rfl (szAt hml hL2117 rfl) (Steps.refl _) (argsL := [(.ref b2108)]) (rest := []) (lenOf pd_0s206_8_1 rfl) rfl (by show 2 * 0 + _ ≤ _; exact Nat.le_of_eq rfl) (hb hby at_322) (fun _ _ => ⟨rfl, e2168, (by decide : 17 + 0 ≤ _), (by decide : 49 + 0 ≤ _)⟩)
  dsimp only [Pt.U, Pt.locs, Pt.cells, Pt.slots] at X2170 l2170 y2170 z2170 st2170 hQ2170
  subst l2170 y2170 z2170
  obtain ⟨rfl, N2170q, Kc2170, fq2170_0, fq2170_1, fq2170_2, fq2170_3, fq2170_4, fq2170_5, fq2170_6, fq2170_7, fq2170_8, fq2170_9, fq2170_10⟩ := hQ2170
  have Zc2184 : n0 ≤ T2170.heap.size := Nat.le_trans Zc2169 Kc2170.1
  have N2170 := Fr.app N2168 N2170q
  refine Gl.st (B := (T2170.setTop (mkF m 325 L2117 []))) (fun t k => st2170.trans k) ?_
  have c2185 := (((((((((((((((fq2110_4.ext E2113).keep Kc2115 (ninS ne_b2108_b2113_2119 nin0)).other W2121 (Or.inr (sn41 hw))).other W2125 (Or.inr (sn10 hw))).other W2129 (Or.inr (sn40 hw))).other W2134 (Or.inr (sn61 hw))).other W2139 (Or.inr (sn62 hw))).other W2144 (Or.inr (sn63 hw))).other W2148 (Or.inl ne_b2108_b2113_2119)).other W2152 (Or.inl ne_b2108_b2113_2119)).other W2156 (Or.inl ne_b2108_b2113_2119)).other W2160 (Or.inl ne_b2108_b2113_2119)).other W2164 (Or.inl ne_b2108_b2113_2119)).other W2168 (Or.inl ne_b2108_b2113_2119)).keep Kc2170 (ninS ne_b2108_b2113_2119 nin0))
  have c2186 := (((((((((((((((fq2110_5.ext E2113).keep Kc2115 (ninS ne_b2108_b2113_2119 nin0)).other W2121 (Or.inr (sn43 hw))).other W2125 (Or.inr (sn11 hw))).other W2129 (Or.inr (sn42 hw))).other W2134 (Or.inr (sn64 hw))).other W2139 (Or.inr (sn65 hw))).other W2144 (Or.inr (sn66 hw))).other W2148 (Or.inl ne_b2108_b2113_2119)).other W2152 (Or.inl ne_b2108_b2113_2119)).other W2156 (Or.inl ne_b2108_b2113_2119)).other W2160 (Or.inl ne_b2108_b2113_2119)).other W2164 (Or.inl ne_b2108_b2113_2119)).other W2168 (Or.inl ne_b2108_b2113_2119)).keep Kc2170 (ninS ne_b2108_b2113_2119 nin0))
  have c2187 := (c2182.keep Kc2170 (ninS ne_b2108_b2113_2119 nin0))
  have c2188 := (c2181.keep Kc2170 (ninS ne_b2108_b2113_2119 nin0))
  have c2189 := (c2180.keep Kc2170 (ninS ne_b2108_b2113_2119 nin0))
  have c2190 := (((((((((Fw2134.other W2139 (Or.inr (sn73 hw))).other W2144 (Or.inr (sn74 hw))).other W2148 (Or.inl ne_b2108_b2113_2119)).other W2152 (Or.inl ne_b2108_b2113_2119)).other W2156 (Or.inl ne_b2108_b2113_2119)).other W2160 (Or.inl ne_b2108_b2113_2119)).other W2164 (Or.inl ne_b2108_b2113_2119)).other W2168 (Or.inl ne_b2108_b2113_2119)).keep Kc2170 (ninS ne_b2108_b2113_2119 nin0))
  have c2191 := ((((((((Fw2139.other W2144 (Or.inr (sn75 hw))).other W2148 (Or.inl ne_b2108_b2113_2119)).other W2152 (Or.inl ne_b2108_b2113_2119)).other W2156 (Or.inl ne_b2108_b2113_2119)).other W2160 (Or.inl ne_b2108_b2113_2119)).other W2164 (Or.inl ne_b2108_b2113_2119)).other W2168 (Or.inl ne_b2108_b2113_2119)).keep Kc2170 (ninS ne_b2108_b2113_2119 nin0))
  have c2192 := (((((((Fw2144.other W2148 (Or.inl ne_b2108_b2113_2119)).other W2152 (Or.inl ne_b2108_b2113_2119)).other W2156 (Or.inl ne_b2108_b2113_2119)).other W2160 (Or.inl ne_b2108_b2113_2119)).other W2164 (Or.inl ne_b2108_b2113_2119)).other W2168 (Or.inl ne_b2108_b2113_2119)).keep Kc2170 (ninS ne_b2108_b2113_2119 nin0))
  have c2193 := (((((((((((((((fq2110_6.ext E2113).keep Kc2115 (ninS ne_b2108_b2113_2119 nin0)).other W2121 (Or.inr (sn45 hw))).other W2125 (Or.inr (sn19 hw))).other W2129 (Or.inr (sn44 hw))).other W2134 (Or.inr (sn76 hw))).other W2139 (Or.inr (sn77 hw))).other W2144 (Or.inr (sn78 hw))).other W2148 (Or.inl ne_b2108_b2113_2119)).other W2152 (Or.inl ne_b2108_b2113_2119)).other W2156 (Or.inl ne_b2108_b2113_2119)).other W2160 (Or.inl ne_b2108_b2113_2119)).other W2164 (Or.inl ne_b2108_b2113_2119)).other W2168 (Or.inl ne_b2108_b2113_2119)).keep Kc2170 (ninS ne_b2108_b2113_2119 nin0))
  have c2194 := (((((((((((((((fq2110_7.ext E2113).keep Kc2115 (ninS ne_b2108_b2113_2119 nin0)).other W2121 (Or.inr (sn47 hw))).other W2125 (Or.inr (sn22 hw))).other W2129 (Or.inr (sn46 hw))).other W2134 (Or.inr (sn79 hw))).other W2139 (Or.inr (sn80 hw))).other W2144 (Or.inr (sn81 hw))).other W2148 (Or.inl ne_b2108_b2113_2119)).other W2152 (Or.inl ne_b2108_b2113_2119)).other W2156 (Or.inl ne_b2108_b2113_2119)).other W2160 (Or.inl ne_b2108_b2113_2119)).other W2164 (Or.inl ne_b2108_b2113_2119)).other W2168 (Or.inl ne_b2108_b2113_2119)).keep Kc2170 (ninS ne_b2108_b2113_2119 nin0))
  have ne_b68_b2108_2195 : b68 ≠ b2108 := Nat.ne_of_lt (Nat.lt_of_lt_of_le V_b68.lt (Nat.le_of_eq gq2108.symm))
  have ne_b68_b2113_2196 : b68 ≠ b2113 := Nat.ne_of_lt (Nat.lt_of_lt_of_le V_b68.lt (Nat.le_trans E2108.1 (Nat.le_trans Kc2110.1 (Nat.le_of_eq gq2113.symm))))
  have c2197 := (((((((((((((((((V_b68.ext E2108).keep Kc2110 (ninS ne_b68_b2108_2195 nin0)).ext E2113).keep Kc2115 (ninS ne_b68_b2113_2196 nin0)).other W2121 ne_b68_b2108_2195).other W2125 ne_b68_b2108_2195).other W2129 ne_b68_b2108_2195).other W2134 ne_b68_b2108_2195).other W2139 ne_b68_b2108_2195).other W2144 ne_b68_b2108_2195).other W2148 ne_b68_b2113_2196).other W2152 ne_b68_b2113_2196).other W2156 ne_b68_b2113_2196).other W2160 ne_b68_b2113_2196).other W2164 ne_b68_b2113_2196).other W2168 ne_b68_b2113_2196).keep Kc2170 (ninS ne_b68_b2113_2196 nin0))
  have c2198 := ((((((((c2142.wr W2144).wr W2148).wr W2152).wr W2156).wr W2160).wr W2164).wr W2168).keep Kc2170)
  refine Gl.cast (B := (T2170.setTop (mkF m 325 #[.val (.int p1), .val (.int p2), .val (.int p3), .val (.int p4), .val (.long q5), .second, .val (.int p6), .val (.int (1 : Int32)), .val (.int w8e), od9, .val (.ref b11_t0), .val (.ref b17_t0), .val (.ref b57_t0), .val (.int y13_92_63), .val (.int y14_99_65), .val (.ref b68), .val (.ref b1075), .val .null, .val (.ref b1096), .val (.ref b1102), .val (.ref b2108), .val (.ref b2113), .unset] []))) (by rw [hL2117]) ?_
  exact sg_325_9 l Z a0 hw hx hby hml hret hlk hZ hown n0 p1 p2 p3 p4 q5 p6 w8e b11_t0 b17_t0 b57_t0 y13_92_63 y14_99_65 b68 b1075 b1096 (.val (.ref b1102)) b2108 b2113 k68 nra vra x257_2131 x265_2136 x276_2141 T2170.heap (X2170.more (by decide) (by decide)) rfl N2170 Zc2184 fq2170_2 fq2170_1 c2197 hr357_hE fq2170_7 fq2170_3 fq2170_4 fq2170_10 fq2170_8 fq2170_9 fq2170_5 fq2170_6 c2185 c2186 c2187 c2188 c2189 c2190 c2191 c2192 c2193 c2194 fq2170_0 hr605_hE hx257_2131 hx265_2136 hx276_2141 c2198
theorem pd_0s125_7_0 : parseMethodDescriptor "(C)Ljava/lang/String;" = some ⟨[.char], some (.object "java/lang/String")⟩ := by decide +kernel
theorem pd_0s125_7_1 : parseMethodDescriptor "(Ljava/lang/String;[B)V" = some ⟨[(.object "java/lang/String"), (.array .byte)], none⟩ := by decide +kernel
theorem pd_0s125_7_2 : parseMethodDescriptor "()V" = some ⟨[], none⟩ := by decide +kernel
theorem own_0s125_7_hp140_1080 (p4 : Int32) (x140_1077 : Int32) (hx140_1077 : x140_1077 = ((((p4.toUInt32 >>> ((16 : Int32) &&& 31).toUInt32).toInt32) &&& (255 : Int32)).toUInt32.toUInt16.toUInt32.toInt32))  : ¬ ((255 : Int32) < x140_1077) := by
  exact own_ch _ _ hx140_1077
set_option maxRecDepth 65536 in
set_option maxHeartbeats 40000000 in
theorem sg_125_7 (l : Launch) (Z : State) (a0 : Array Value) (hw : ∀ d ∈ tables_1, d.before a0 Z = true) {p : Program} {e : Env} {s : State} {m : MethodId} {A0 : Array Value} {below : List Frame} {meth : Method} {c : Code} (hx : p.tables.exec = Jvm.exec) (hby : c.code = code) (hml : c.maxLocals = 23) (hret : meth.sig.returnType = ret) (hlk : meth.locks = false) (hZ : Z.Warmed39 s.vm) (hown : s.vm.findClass "com/example/limpet/limpet/group/MemberTakeOverPinLaw" = some m.cls) (n0 : Nat) (p1 : Int32) (p2 : Int32) (p3 : Int32) (p4 : Int32) (q5 : Int64) (p6 : Int32) (w8e : Int32) (od9 : Slot) (b11_t0 : Addr) (b17_t0 : Addr) (b57_t0 : Addr) (y13_92_63 : Int32) (y14_99_65 : Int32) (b68 : Addr) (nra : Int32) (vra : List Value) (z_COMP1 : Int32) (z_DEFA0 : Addr) (k68 : ClassId) {T0 : State} {Lc : List Loc} (h0 : Heap) (X0 : Stand p l e room_1 s m A0 below meth c T0 Lc 7 17) (e0 : T0.heap = h0) (N0 : Fr n0 Lc) (Z0 : n0 ≤ h0.size) (S_COMP1 : Sta Z h0 "java/lang/String" "COMPACT_STRINGS" "Z" (.int z_COMP1)) (hr140_hq3 : ¬ (z_COMP1 = (0 : Int32))) (S_DEFA0 : Sta Z h0 "java/util/ArrayList" "DEFAULTCAPACITY_EMPTY_ELEMENTDATA" "[Ljava/lang/Object;" (.ref z_DEFA0)) (V_b68 : Arv Z h0 b68 k68 .byte nra vra (.int (0 : Int32))) (hr357_hE : (w8e = (1 : Int32) ∧ nra = (0 : Int32) ∧ vra = []) ∨ (w8e = (0 : Int32) ∧ nra = (2 : Int32) ∧ vra = [(.int y13_92_63), (.int y14_99_65)])) (hr605_hE : (w8e = (1 : Int32) ∧ nra = (0 : Int32) ∧ vra = []) ∨ (w8e = (0 : Int32) ∧ nra = (2 : Int32) ∧ vra = [(.int y13_92_63), (.int y14_99_65)])) :
    Gl p e below (fun o U' => ∃ v L, o = .returned v ∧ (v = some (.int (1 : Int32)) ∧ Fr n0 L) ∧ FrameEnd s o U' L room_1.cells room_1.slots) (T0.setTop (mkF m 125 #[.val (.int p1), .val (.int p2), .val (.int p3), .val (.int p4), .val (.long q5), .second, .val (.int p6), .val (.int (1 : Int32)), .val (.int w8e), od9, .val (.ref b11_t0), .val (.ref b17_t0), .val (.ref b57_t0), .val (.int y13_92_63), .val (.int y14_99_65), .unset, .unset, .unset, .unset, .unset, .unset, .unset, .unset] [(.ref b68)])) := by
  obtain ⟨L0, hL0⟩ : ∃ z : Array Slot, z = #[.val (.int p1), .val (.int p2), .val (.int p3), .val (.int p4), .val (.long q5), .second, .val (.int p6), .val (.int (1 : Int32)), .val (.int w8e), od9, .val (.ref b11_t0), .val (.ref b17_t0), .val (.ref b57_t0), .val (.int y13_92_63), .val (.int y14_99_65), .unset, .unset, .unset, .unset, .unset, .unset, .unset, .unset] := ⟨_, rfl⟩
  refine Gl.cast (B := (T0.setTop (mkF m 125 L0 [(.ref b68)]))) (by rw [hL0]) ?_
  obtain ⟨L1074, hL1074⟩ : ∃ z : Array Slot, z = #[.val (.int p1), .val (.int p2), .val (.int p3), .val (.int p4), .val (.long q5), .second, .val (.int p6), .val (.int (1 : Int32)), .val (.int w8e), od9, .val (.ref b11_t0), .val (.ref b17_t0), .val (.ref b57_t0), .val (.int y13_92_63), .val (.int y14_99_65), .val (.ref b68), .unset, .unset, .unset, .unset, .unset, .unset, .unset] := ⟨_, rfl⟩
  refine Gl.st (B := (T0.setTop (mkF m 127 L1074 []))) (fun t k => XS.astore X0.here hx rfl (hb hby at_125) rfl rfl (l' := L1074) (stAt hL0 hL1074 rfl rfl) k) ?_
  obtain ⟨T1075, h1075, X1075, e1075, E1075, A1075, D1075, -, st1075⟩ := newO X0 hx hZ hown (tw hw 26 rfl) (tw hw 27 rfl) (tw hw 28 rfl) e0 (g := (mkF m 127 L1074 [])) rfl (hb hby at_127) (by decide) (by decide)
  obtain ⟨b1075, gq1075⟩ : ∃ z, z = h0.size := ⟨_, rfl⟩
  rw [← gq1075] at A1075 D1075 st1075
  have g_b1075 : n0 ≤ b1075 := Nat.le_trans Z0 (Nat.le_of_eq gq1075.symm)
  have lt_b1075 := A1075.lt
  have Zc1076 : n0 ≤ h1075.size := Nat.le_trans Z0 E1075.1
  have F1075_name : Fld Z h1075 b1075 "com/example/limpet/limpet/protocol/JoinGroup$Protocol" "name" "Ljava/lang/String;" .null := D1075 (Or.inr (tw hw 39 rfl)) (ty := (.object "java/lang/String")) (by decide)
  have F1075_metadata : Fld Z h1075 b1075 "com/example/limpet/limpet/protocol/JoinGroup$Protocol" "metadata" "[B" .null := D1075 (Or.inr (tw hw 41 rfl)) (ty := (.array .byte)) (by decide)
  refine Gl.st (B := (T1075.setTop (mkF m 130 L1074 [(.ref b1075)]))) st1075 ?_
  refine Gl.st (B := (T1075.setTop (mkF m 139 L1074 [(.int (((p4.toUInt32 >>> ((16 : Int32) &&& 31).toUInt32).toInt32) &&& (255 : Int32))), (.ref b1075), (.ref b1075)]))) (fun t k => XS.dup X1075.here hx rfl (hb hby at_130) rfl rfl (XS.iloadN X1075.here hx rfl (hb hby at_131) (ldAt hL1074 rfl) (XS.bipush X1075.here hx rfl (hb hby at_132) (XS.iushr X1075.here hx rfl (hb hby at_134) rfl (XS.sipush X1075.here hx rfl (hb hby at_135) (XS.iand X1075.here hx rfl (hb hby at_138) rfl k)))))) ?_
  refine Gl.st (B := (T1075.setTop (mkF m 140 L1074 [(.int ((((p4.toUInt32 >>> ((16 : Int32) &&& 31).toUInt32).toInt32) &&& (255 : Int32)).toUInt32.toUInt16.toUInt32.toInt32)), (.ref b1075), (.ref b1075)]))) (fun t k => XS.i2c X1075.here hx rfl (hb hby at_139) rfl k) ?_
  obtain ⟨x140_1077, hx140_1077⟩ : ∃ z : Int32, z = ((((p4.toUInt32 >>> ((16 : Int32) &&& 31).toUInt32).toInt32) &&& (255 : Int32)).toUInt32.toUInt16.toUInt32.toInt32) := ⟨_, rfl⟩
  refine Gl.cast (B := (T1075.setTop (mkF m 140 L1074 [(.int x140_1077), (.ref b1075), (.ref b1075)]))) (by rw [hx140_1077]) ?_
  have c1079 := (S_COMP1.ext E1075)
  have hp140_1080 : ¬ ((255 : Int32) < x140_1077) := own_0s125_7_hp140_1080 p4 x140_1077 hx140_1077 
  obtain ⟨_, _, ⟨T1078, L1078q, k1078, n1078⟩, -, X1078, ⟨Lc1078, hQ1078, l1078, y1078, z1078⟩, st1078⟩ := Jvm.LawKit.callS X1075 hx (y := (⟨"java/lang/String", "valueOf", "(C)Ljava/lang/String;"⟩ : MethodName)) hown (mvT hZ (tw hw 0 rfl)) (mvT hZ (tw hw 1 rfl)) (mvT hZ (tw hw 2 rfl)) (mvT hZ (tw hw 3 rfl)) (by decide) (backOf (W := 2) (rm1 l Z a0 hw [] x140_1077 z_COMP1 h1075 n0 Zc1076 c1079 hr140_hq3 hp140_1080) hZ (tw hw 3 rfl) (tw hw 2 rfl) (by decide) (by decide)) (g := (mkF m 140 L1074 [(.int x140_1077), (.ref b1075), (.ref b1075)])) rfl (szAt hml hL1074 rfl) (argsL := [(.int x140_1077)]) (rest := [(.ref b1075), (.ref b1075)]) (lenOf pd_0s125_7_0 rfl) rfl (by show 2 * 0 + _ ≤ _; exact Nat.le_of_eq rfl) (hb hby at_140) (fun _ _ => ⟨rfl, e1075, (by decide : 8 + 2 ≤ _), (by decide : 19 + 5 ≤ _)⟩)
  dsimp only [Pt.U, Pt.locs, Pt.cells, Pt.slots] at X1078 l1078 y1078 z1078 st1078 hQ1078
  subst l1078 y1078 z1078
  obtain ⟨b1078_t0, b1078_t1, k1078_kx_t1, rfl, N1078q, Kc1078, fq1078_0, fq1078_1, fq1078_2, fq1078_3, fq1078_4, fq1078_5, fq1078_6⟩ := hQ1078
  have g_b1078_t0 : n0 ≤ b1078_t0 := Nat.le_trans Zc1076 fq1078_0
  have lt_b1078_t0 := fq1078_2.lt
  have g_b1078_t1 : n0 ≤ b1078_t1 := Nat.le_trans Zc1076 fq1078_1
  have lt_b1078_t1 := fq1078_5.lt
  have Zc1081 : n0 ≤ T1078.heap.size := Nat.le_trans Zc1076 Kc1078.1
  obtain ⟨f140_1082, hf140_1082⟩ : ∃ z : Int32, z = ((nar .byte (0 : Int32))) := ⟨_, rfl⟩
  rw [← hf140_1082] at fq1078_3
  have N1078 := Fr.app N0 N1078q
  refine Gl.st (B := (T1078.setTop (mkF m 143 L1074 [(.ref b1078_t0), (.ref b1075), (.ref b1075)]))) (fun t k => st1078 t k) ?_
  refine Gl.st (B := (T1078.setTop (mkF m 144 L1074 [(.int (1 : Int32)), (.ref b1078_t0), (.ref b1075), (.ref b1075)]))) (fun t k => XS.iconst X1078.here hx rfl (hb hby at_143) k) ?_
  obtain ⟨T1083, h1083, k1083, X1083, e1083, E1083, A1083, Ex1083, st1083⟩ := newPE X1078 hx hZ (tw hw 14 rfl) rfl (g := (mkF m 144 L1074 [(.int (1 : Int32)), (.ref b1078_t0), (.ref b1075), (.ref b1075)])) rfl (hb hby at_144) rfl (by decide) (cap := 1) (by decide) (by decide) (by decide) (by decide) (ad := "[B") rfl
  obtain ⟨b1083, gq1083⟩ : ∃ z, z = T1078.heap.size := ⟨_, rfl⟩
  rw [← gq1083] at A1083 Ex1083 st1083
  have V1083 : Arv Z h1083 b1083 k1083 .byte (1 : Int32) [(.int (0 : Int32))] (.int (0 : Int32)) := (Arv.new A1083 (by decide)).pad (pad_rep [] (.int (0 : Int32)) 1)
  have g_b1083 : n0 ≤ b1083 := Nat.le_trans Zc1081 (Nat.le_of_eq gq1083.symm)
  have lt_b1083 := V1083.lt
  have Zc1084 : n0 ≤ h1083.size := Nat.le_trans Zc1081 E1083.1
  refine Gl.st (B := (T1083.setTop (mkF m 146 L1074 [(.ref b1083), (.ref b1078_t0), (.ref b1075), (.ref b1075)]))) st1083 ?_
  refine Gl.st (B := (T1083.setTop (mkF m 153 L1074 [(.int (((p4.toUInt32 >>> ((24 : Int32) &&& 31).toUInt32).toInt32).toInt8.toInt32)), (.int (0 : Int32)), (.ref b1083), (.ref b1083), (.ref b1078_t0), (.ref b1075), (.ref b1075)]))) (fun t k => XS.dup X1083.here hx rfl (hb hby at_146) rfl rfl (XS.iconst X1083.here hx rfl (hb hby at_147) (XS.iloadN X1083.here hx rfl (hb hby at_148) (ldAt hL1074 rfl) (XS.bipush X1083.here hx rfl (hb hby at_149) (XS.iushr X1083.here hx rfl (hb hby at_151) rfl (XS.i2b X1083.here hx rfl (hb hby at_152) rfl k)))))) ?_
  obtain ⟨x153_1085, hx153_1085⟩ : ∃ z : Int32, z = (((p4.toUInt32 >>> ((24 : Int32) &&& 31).toUInt32).toInt32).toInt8.toInt32) := ⟨_, rfl⟩
  refine Gl.cast (B := (T1083.setTop (mkF m 153 L1074 [(.int x153_1085), (.int (0 : Int32)), (.ref b1083), (.ref b1083), (.ref b1078_t0), (.ref b1075), (.ref b1075)]))) (by rw [hx153_1085]) ?_
  obtain ⟨cl1086, Ar1086, q1086, S1086, P1086, H1086, G1086⟩ := (id V1083)
  have hin153_1086 : ¬ ((0 : Int32) < 0 ∨ cl1086.slots.size ≤ ((0 : Int32)).toNatClampNeg) := inb_of S1086 ⟨by decide, by decide⟩
  obtain ⟨T1086, h1086, X1086, e1086, W1086, st1086⟩ := stB X1083 hx hZ e1083 Ar1086 (j := (0 : Int32)) hin153_1086 (g := (mkF m 153 L1074 [(.int x153_1085), (.int (0 : Int32)), (.ref b1083), (.ref b1083), (.ref b1078_t0), (.ref b1075), (.ref b1075)])) rfl rfl (hb hby at_153)
  have V1086 : Arv Z h1086 b1083 k1083 .byte (1 : Int32) [(.int (nar .byte x153_1085))] (.int (0 : Int32)) := Arv.set Ar1086 q1086 S1086 P1086 H1086 G1086 (fits_nar_byte _) W1086 0 rfl (Nat.le_of_ble_eq_true rfl)
  have Zc1087 : n0 ≤ h1086.size := Nat.le_trans Zc1084 (Nat.le_of_eq W1086.size.symm)
  have N1086 := Fr.snoc X1086 N1078 g_b1083
  refine Gl.st (B := (T1086.setTop (mkF m 154 L1074 [(.ref b1083), (.ref b1078_t0), (.ref b1075), (.ref b1075)]))) st1086 ?_
  have ne_b1075_b1083_1089 : b1075 ≠ b1083 := Nat.ne_of_lt (Nat.lt_of_lt_of_le lt_b1075 (Nat.le_trans Kc1078.1 (Nat.le_of_eq gq1083.symm)))
  have c1090 := (((F1075_name.keep Kc1078 nin0).ext E1083).other W1086 (Or.inl ne_b1075_b1083_1089))
  have c1091 := (((F1075_metadata.keep Kc1078 nin0).ext E1083).other W1086 (Or.inl ne_b1075_b1083_1089))
  have c1092 := (((A1075.keep Kc1078).ext E1083).wr W1086)
  obtain ⟨_, _, ⟨T1088, L1088q, k1088, n1088⟩, -, X1088, ⟨Lc1088, hQ1088, l1088, y1088, z1088⟩, st1088⟩ := X1086.specialBack hx (y := (⟨"com/example/limpet/limpet/protocol/JoinGroup$Protocol", "<init>", "(Ljava/lang/String;[B)V"⟩ : MethodName)) rfl hown (mvT hZ (tw hw 29 rfl)) (mvT hZ (tw hw 30 rfl)) (mvT hZ (tw hw 31 rfl)) (by decide) (backOf (W := 1) (rm6 l Z a0 hw [] b1075 b1078_t0 b1083 .null .null h1086 n0 Zc1087 c1090 c1091 c1092 g_b1075) hZ (tw hw 31 rfl) (tw hw 28 rfl) (by decide) (by decide)) (g := (mkF m 154 L1074 [(.ref b1083), (.ref b1078_t0), (.ref b1075), (.ref b1075)])) rfl (szAt hml hL1074 rfl) (Steps.refl _) (a := b1075) (argsL := [(.ref b1078_t0), (.ref b1083)]) (rest := [(.ref b1075)]) (lenOf pd_0s125_7_1 rfl) rfl (by show 2 * 0 + _ ≤ _; exact Nat.le_of_eq rfl) (hb hby at_154) (fun _ _ => ⟨rfl, e1086, (by decide : 11 + 0 ≤ _), (by decide : 25 + 0 ≤ _)⟩)
  dsimp only [Pt.U, Pt.locs, Pt.cells, Pt.slots] at X1088 l1088 y1088 z1088 st1088 hQ1088
  subst l1088 y1088 z1088
  obtain ⟨rfl, N1088q, Kc1088, fq1088_0, fq1088_1, fq1088_2⟩ := hQ1088
  have Zc1093 : n0 ≤ T1088.heap.size := Nat.le_trans Zc1087 Kc1088.1
  have N1088 := Fr.app N1086 N1088q
  refine Gl.st (B := (T1088.setTop (mkF m 157 L1074 [(.ref b1075)]))) (fun t k => st1088.trans k) ?_
  obtain ⟨L1094, hL1094⟩ : ∃ z : Array Slot, z = #[.val (.int p1), .val (.int p2), .val (.int p3), .val (.int p4), .val (.long q5), .second, .val (.int p6), .val (.int (1 : Int32)), .val (.int w8e), od9, .val (.ref b11_t0), .val (.ref b17_t0), .val (.ref b57_t0), .val (.int y13_92_63), .val (.int y14_99_65), .val (.ref b68), .val (.ref b1075), .unset, .unset, .unset, .unset, .unset, .unset] := ⟨_, rfl⟩
  obtain ⟨L1095, hL1095⟩ : ∃ z : Array Slot, z = #[.val (.int p1), .val (.int p2), .val (.int p3), .val (.int p4), .val (.long q5), .second, .val (.int p6), .val (.int (1 : Int32)), .val (.int w8e), od9, .val (.ref b11_t0), .val (.ref b17_t0), .val (.ref b57_t0), .val (.int y13_92_63), .val (.int y14_99_65), .val (.ref b68), .val (.ref b1075), .val .null, .unset, .unset, .unset, .unset, .unset] := ⟨_, rfl⟩
  refine Gl.st (B := (T1088.setTop (mkF m 186 L1095 []))) (fun t k => XS.astore X1088.here hx rfl (hb hby at_157) rfl rfl (l' := L1094) (stAt hL1074 hL1094 rfl rfl) (XS.aconstNull X1088.here hx rfl (hb hby at_159) (XS.astore X1088.here hx rfl (hb hby at_160) rfl rfl (l' := L1095) (stAt hL1094 hL1095 rfl rfl) (XS.iload X1088.here hx rfl (hb hby at_162) (ldAt hL1095 rfl) (XS.ifYes X1088.here hx rfl (pc0 := 164) (pc' := 186) rfl (hb hby at_164) rfl (by decide) (by decide) (by decide) k))))) ?_
  obtain ⟨T1096, h1096, X1096, e1096, E1096, A1096, D1096, -, st1096⟩ := newO X1088 hx hZ hown (tw hw 42 rfl) (tw hw 43 rfl) (tw hw 44 rfl) rfl (g := (mkF m 186 L1095 [])) rfl (hb hby at_186) (by decide) (by decide)
  obtain ⟨b1096, gq1096⟩ : ∃ z, z = T1088.heap.size := ⟨_, rfl⟩
  rw [← gq1096] at A1096 D1096 st1096
  have g_b1096 : n0 ≤ b1096 := Nat.le_trans Zc1093 (Nat.le_of_eq gq1096.symm)
  have lt_b1096 := A1096.lt
  have Zc1097 : n0 ≤ h1096.size := Nat.le_trans Zc1093 E1096.1
  have F1096_modCount : Fld Z h1096 b1096 "java/util/AbstractList" "modCount" "I" (.int (0 : Int32)) := D1096 (Or.inl (tw hw 62 rfl)) (ty := .int) (by decide)
  have F1096_elementData : Fld Z h1096 b1096 "java/util/ArrayList" "elementData" "[Ljava/lang/Object;" .null := D1096 (Or.inl (tw hw 65 rfl)) (ty := (.array (.object "java/lang/Object"))) (by decide)
  have F1096_size : Fld Z h1096 b1096 "java/util/ArrayList" "size" "I" (.int (0 : Int32)) := D1096 (Or.inl (tw hw 78 rfl)) (ty := .int) (by decide)
  refine Gl.st (B := (T1096.setTop (mkF m 189 L1095 [(.ref b1096)]))) st1096 ?_
  refine Gl.st (B := (T1096.setTop (mkF m 190 L1095 [(.ref b1096), (.ref b1096)]))) (fun t k => XS.dup X1096.here hx rfl (hb hby at_189) rfl rfl k) ?_
  have c1099 := ((own_sta_keep (((own_sta_keep (S_DEFA0.ext E1075) Kc1078 all0).ext E1083).wr W1086) Kc1088 (allS (own_exa_plain c1092) all0)).ext E1096)
  obtain ⟨_, _, ⟨T1098, L1098q, k1098, n1098⟩, -, X1098, ⟨Lc1098, hQ1098, l1098, y1098, z1098⟩, st1098⟩ := X1096.specialBack hx (y := (⟨"java/util/ArrayList", "<init>", "()V"⟩ : MethodName)) rfl hown (mvT hZ (tw hw 45 rfl)) (mvT hZ (tw hw 46 rfl)) (mvT hZ (tw hw 47 rfl)) (by decide) (backOf (W := 1) (rm8 l Z a0 hw [] b1096 ((.int (0 : Int32))) .null ((.int (0 : Int32))) z_DEFA0 h1096 n0 Zc1097 F1096_modCount F1096_elementData F1096_size A1096 g_b1096 c1099) hZ (tw hw 47 rfl) (tw hw 44 rfl) (by decide) (by decide)) (g := (mkF m 190 L1095 [(.ref b1096), (.ref b1096)])) rfl (szAt hml hL1095 rfl) (Steps.refl _) (a := b1096) (argsL := []) (rest := [(.ref b1096)]) (lenOf pd_0s125_7_2 rfl) rfl (by show 2 * 0 + _ ≤ _; exact Nat.le_of_eq rfl) (hb hby at_190) (fun _ _ => ⟨rfl, e1096, (by decide : 12 + 0 ≤ _), (by decide : 28 + 0 ≤ _)⟩)
  dsimp only [Pt.U, Pt.locs, Pt.cells, Pt.slots] at X1098 l1098 y1098 z1098 st1098 hQ1098
  subst l1098 y1098 z1098
  obtain ⟨rfl, N1098q, Kc1098, fq1098_0, fq1098_1, fq1098_2, fq1098_3⟩ := hQ1098
  have Zc1100 : n0 ≤ T1098.heap.size := Nat.le_trans Zc1097 Kc1098.1
  have N1098 := Fr.app N1088 N1098q
  refine Gl.st (B := (T1098.setTop (mkF m 193 L1095 [(.ref b1096)]))) (fun t k => st1098.trans k) ?_
  obtain ⟨L1101, hL1101⟩ : ∃ z : Array Slot, z = #[.val (.int p1), .val (.int p2), .val (.int p3), .val (.int p4), .val (.long q5), .second, .val (.int p6), .val (.int (1 : Int32)), .val (.int w8e), od9, .val (.ref b11_t0), .val (.ref b17_t0), .val (.ref b57_t0), .val (.int y13_92_63), .val (.int y14_99_65), .val (.ref b68), .val (.ref b1075), .val .null, .val (.ref b1096), .unset, .unset, .unset, .unset] := ⟨_, rfl⟩
  refine Gl.st (B := (T1098.setTop (mkF m 196 L1101 [(.int (1 : Int32))]))) (fun t k => XS.astore X1098.here hx rfl (hb hby at_193) rfl rfl (l' := L1101) (stAt hL1095 hL1101 rfl rfl) (XS.iconst X1098.here hx rfl (hb hby at_195) k)) ?_
  obtain ⟨T1102, h1102, k1102, X1102, e1102, E1102, A1102, Ex1102, st1102⟩ := newPE X1098 hx hZ (tw hw 14 rfl) rfl (g := (mkF m 196 L1101 [(.int (1 : Int32))])) rfl (hb hby at_196) rfl (by decide) (cap := 1) (by decide) (by decide) (by decide) (by decide) (ad := "[B") rfl
  obtain ⟨b1102, gq1102⟩ : ∃ z, z = T1098.heap.size := ⟨_, rfl⟩
  rw [← gq1102] at A1102 Ex1102 st1102
  have V1102 : Arv Z h1102 b1102 k1102 .byte (1 : Int32) [(.int (0 : Int32))] (.int (0 : Int32)) := (Arv.new A1102 (by decide)).pad (pad_rep [] (.int (0 : Int32)) 1)
  have g_b1102 : n0 ≤ b1102 := Nat.le_trans Zc1100 (Nat.le_of_eq gq1102.symm)
  have lt_b1102 := V1102.lt
  have Zc1103 : n0 ≤ h1102.size := Nat.le_trans Zc1100 E1102.1
  refine Gl.st (B := (T1102.setTop (mkF m 198 L1101 [(.ref b1102)]))) st1102 ?_
  refine Gl.st (B := (T1102.setTop (mkF m 203 L1101 [(.int (p6.toInt8.toInt32)), (.int (0 : Int32)), (.ref b1102), (.ref b1102)]))) (fun t k => XS.dup X1102.here hx rfl (hb hby at_198) rfl rfl (XS.iconst X1102.here hx rfl (hb hby at_199) (XS.iload X1102.here hx rfl (hb hby at_200) (ldAt hL1101 rfl) (XS.i2b X1102.here hx rfl (hb hby at_202) rfl k)))) ?_
  obtain ⟨x203_1104, hx203_1104⟩ : ∃ z : Int32, z = (p6.toInt8.toInt32) := ⟨_, rfl⟩
  refine Gl.cast (B := (T1102.setTop (mkF m 203 L1101 [(.int x203_1104), (.int (0 : Int32)), (.ref b1102), (.ref b1102)]))) (by rw [hx203_1104]) ?_
  obtain ⟨cl1105, Ar1105, q1105, S1105, P1105, H1105, G1105⟩ := (id V1102)
  have hin203_1105 : ¬ ((0 : Int32) < 0 ∨ cl1105.slots.size ≤ ((0 : Int32)).toNatClampNeg) := inb_of S1105 ⟨by decide, by decide⟩
  obtain ⟨T1105, h1105, X1105, e1105, W1105, st1105⟩ := stB X1102 hx hZ e1102 Ar1105 (j := (0 : Int32)) hin203_1105 (g := (mkF m 203 L1101 [(.int x203_1104), (.int (0 : Int32)), (.ref b1102), (.ref b1102)])) rfl rfl (hb hby at_203)
  have V1105 : Arv Z h1105 b1102 k1102 .byte (1 : Int32) [(.int (nar .byte x203_1104))] (.int (0 : Int32)) := Arv.set Ar1105 q1105 S1105 P1105 H1105 G1105 (fits_nar_byte _) W1105 0 rfl (Nat.le_of_ble_eq_true rfl)
  have Zc1106 : n0 ≤ h1105.size := Nat.le_trans Zc1103 (Nat.le_of_eq W1105.size.symm)
  have N1105 := Fr.snoc X1105 N1098 g_b1102
  refine Gl.st (B := (T1105.setTop (mkF m 204 L1101 [(.ref b1102)]))) st1105 ?_
  obtain ⟨L1107, hL1107⟩ : ∃ z : Array Slot, z = #[.val (.int p1), .val (.int p2), .val (.int p3), .val (.int p4), .val (.long q5), .second, .val (.int p6), .val (.int (1 : Int32)), .val (.int w8e), od9, .val (.ref b11_t0), .val (.ref b17_t0), .val (.ref b57_t0), .val (.int y13_92_63), .val (.int y14_99_65), .val (.ref b68), .val (.ref b1075), .val .null, .val (.ref b1096), .val (.ref b1102), .unset, .unset, .unset] := ⟨_, rfl⟩
  refine Gl.st (B := (T1105.setTop (mkF m 206 L1107 []))) (fun t k => XS.astore X1105.here hx rfl (hb hby at_204) rfl rfl (l' := L1107) (stAt hL1101 hL1107 rfl rfl) k) ?_
  have ne_b68_b1083_1108 : b68 ≠ b1083 := Nat.ne_of_lt (Nat.lt_of_lt_of_le V_b68.lt (Nat.le_trans E1075.1 (Nat.le_trans Kc1078.1 (Nat.le_of_eq gq1083.symm))))
  have ne_b68_b1075_1109 : b68 ≠ b1075 := Nat.ne_of_lt (Nat.lt_of_lt_of_le V_b68.lt (Nat.le_of_eq gq1075.symm))
  have ne_b68_b1096_1110 : b68 ≠ b1096 := Nat.ne_of_lt (Nat.lt_of_lt_of_le V_b68.lt (Nat.le_trans E1075.1 (Nat.le_trans Kc1078.1 (Nat.le_trans E1083.1 (Nat.le_trans (Nat.le_of_eq W1086.size.symm) (Nat.le_trans Kc1088.1 (Nat.le_of_eq gq1096.symm)))))))
  have ne_b68_b1102_1111 : b68 ≠ b1102 := Nat.ne_of_lt (Nat.lt_of_lt_of_le V_b68.lt (Nat.le_trans E1075.1 (Nat.le_trans Kc1078.1 (Nat.le_trans E1083.1 (Nat.le_trans (Nat.le_of_eq W1086.size.symm) (Nat.le_trans Kc1088.1 (Nat.le_trans E1096.1 (Nat.le_trans Kc1098.1 (Nat.le_of_eq gq1102.symm)))))))))
  have c1112 := (((((((((V_b68.ext E1075).keep Kc1078 nin0).ext E1083).other W1086 ne_b68_b1083_1108).keep Kc1088 (ninS ne_b68_b1075_1109 nin0)).ext E1096).keep Kc1098 (ninS ne_b68_b1096_1110 nin0)).ext E1102).other W1105 ne_b68_b1102_1111)
  refine Gl.cast (B := (T1105.setTop (mkF m 206 #[.val (.int p1), .val (.int p2), .val (.int p3), .val (.int p4), .val (.long q5), .second, .val (.int p6), .val (.int (1 : Int32)), .val (.int w8e), od9, .val (.ref b11_t0), .val (.ref b17_t0), .val (.ref b57_t0), .val (.int y13_92_63), .val (.int y14_99_65), .val (.ref b68), .val (.ref b1075), .val .null, .val (.ref b1096), .val (.ref b1102), .unset, .unset, .unset] []))) (by rw [hL1107]) ?_
  exact sg_206_8 l Z a0 hw hx hby hml hret hlk hZ hown n0 p1 p2 p3 p4 q5 p6 w8e b11_t0 b17_t0 b57_t0 y13_92_63 y14_99_65 b68 b1075 b1096 b1102 k68 nra vra h1105 (X1105.more (by decide) (by decide)) e1105 N1105 Zc1106 c1112 hr357_hE hr605_hE
theorem pd_0s448_15_0 : parseMethodDescriptor "()Z" = some ⟨[], some .boolean⟩ := by decide +kernel
set_option maxRecDepth 65536 in
set_option maxHeartbeats 40000000 in
theorem sg_448_15 (l : Launch) (Z : State) (a0 : Array Value) (hw : ∀ d ∈ tables_1, d.before a0 Z = true) {p : Program} {e : Env} {s : State} {m : MethodId} {A0 : Array Value} {below : List Frame} {meth : Method} {c : Code} (hx : p.tables.exec = Jvm.exec) (hby : c.code = code) (hml : c.maxLocals = 23) (hret : meth.sig.returnType = ret) (hlk : meth.locks = false) (hZ : Z.Warmed39 s.vm) (hown : s.vm.findClass "com/example/limpet/limpet/group/MemberTakeOverPinLaw" = some m.cls) (n0 : Nat) (p1 : Int32) (p2 : Int32) (p3 : Int32) (p4 : Int32) (q5 : Int64) (p6 : Int32) (w8e : Int32) (b11_t0 : Addr) (b17_t0 : Addr) (y13_92_86 : Int32) (y14_99_88 : Int32) (b91 : Addr) (b1098 : Addr) (b1119 : Addr) (b1134 : Addr) (b2146 : Addr) (b2151 : Addr) (b1125_t0 : Addr) (x257_2169 : Int32) (x265_2174 : Int32) (x276_2179 : Int64) (k91 : ClassId) (nra : Int32) (vra : List Value) (k1125_kx_t0 : ClassId) {T0 : State} {Lc : List Loc} (h0 : Heap) (X0 : Stand p l e room_1 s m A0 below meth c T0 Lc 17 57) (e0 : T0.heap = h0) (N0 : Fr n0 Lc) (Z0 : n0 ≤ h0.size) (F_id_b2151 : Fld Z h0 b2151 "com/example/limpet/limpet/group/Member" "id" "Ljava/lang/String;" (.ref b11_t0)) (F_instanceId_b2151 : Fld Z h0 b2151 "com/example/limpet/limpet/group/Member" "instanceId" "Ljava/lang/String;" .null) (F_sess2_b2151 : Fld Z h0 b2151 "com/example/limpet/limpet/group/Member" "sessionTimeoutMs" "I" (.int p3)) (F_reba3_b2151 : Fld Z h0 b2151 "com/example/limpet/limpet/group/Member" "rebalanceTimeoutMs" "I" (.int p4)) (F_sess4_b2151 : Fld Z h0 b2151 "com/example/limpet/limpet/group/Member" "sessionDeadline" "J" (.long q5)) (E_b2151 : Exa Z h0 b2151 "com/example/limpet/limpet/group/Member") (F_pendingJoin_b2151 : Fld Z h0 b2151 "com/example/limpet/limpet/group/Member" "pendingJoin" "Ljava/util/function/Consumer;" .null) (F_pendingSync_b2151 : Fld Z h0 b2151 "com/example/limpet/limpet/group/Member" "pendingSync" "Ljava/util/function/Consumer;" .null) (F_id_b2146 : Fld Z h0 b2146 "com/example/limpet/limpet/group/Member" "id" "Ljava/lang/String;" (.ref b17_t0)) (F_instanceId_b2146 : Fld Z h0 b2146 "com/example/limpet/limpet/group/Member" "instanceId" "Ljava/lang/String;" .null) (F_generation_b2146 : Fld Z h0 b2146 "com/example/limpet/limpet/group/Member" "generation" "I" (.int p1)) (F_assignment_b2146 : Fld Z h0 b2146 "com/example/limpet/limpet/group/Member" "assignment" "[B" (.ref b91)) (F_protocols_b2146 : Fld Z h0 b2146 "com/example/limpet/limpet/group/Member" "protocols" "Ljava/util/List;" (.ref b1119)) (F_size_b1119 : Fld Z h0 b1119 "java/util/ArrayList" "size" "I" (.int (1 : Int32))) (F_elementData_b1119 : Fld Z h0 b1119 "java/util/ArrayList" "elementData" "[Ljava/lang/Object;" (.ref b1125_t0)) (F_sess2_b2146 : Fld Z h0 b2146 "com/example/limpet/limpet/group/Member" "sessionTimeoutMs" "I" (.int x257_2169)) (F_reba3_b2146 : Fld Z h0 b2146 "com/example/limpet/limpet/group/Member" "rebalanceTimeoutMs" "I" (.int x265_2174)) (F_sess4_b2146 : Fld Z h0 b2146 "com/example/limpet/limpet/group/Member" "sessionDeadline" "J" (.long x276_2179)) (F_pendingJoin_b2146 : Fld Z h0 b2146 "com/example/limpet/limpet/group/Member" "pendingJoin" "Ljava/util/function/Consumer;" .null) (F_pendingSync_b2146 : Fld Z h0 b2146 "com/example/limpet/limpet/group/Member" "pendingSync" "Ljava/util/function/Consumer;" .null) (V_b91 : Arv Z h0 b91 k91 .byte nra vra (.int (0 : Int32))) (V_b1125_t0 : Arv Z h0 b1125_t0 k1125_kx_t0 (.object "java/lang/Object") (10 : Int32) [(.ref b1098), .null, .null, .null, .null, .null, .null, .null, .null, .null] .null) (O_b1125_t0 : Ovr Z k1125_kx_t0 "java/lang/Object") (hr605_hE : (w8e = (1 : Int32) ∧ nra = (0 : Int32) ∧ vra = []) ∨ (w8e = (0 : Int32) ∧ nra = (2 : Int32) ∧ vra = [(.int y13_92_86), (.int y14_99_88)])) (E_b1119 : Exa Z h0 b1119 "java/util/ArrayList") (hq694 : x257_2169 = (p3 ^^^ (-1 : Int32))) (hq705 : x265_2174 = (p4 ^^^ (-1 : Int32))) (hq720 : x276_2179 = (q5 ^^^ (-1 : Int64))) (E_b2146 : Exa Z h0 b2146 "com/example/limpet/limpet/group/Member") :
    Gl p e below (fun o U' => ∃ v L, o = .returned v ∧ (v = some (.int (1 : Int32)) ∧ Fr n0 L) ∧ FrameEnd s o U' L room_1.cells room_1.slots) (T0.setTop (mkF m 448 #[.val (.int p1), .val (.int p2), .val (.int p3), .val (.int p4), .val (.long q5), .second, .val (.int p6), .val (.int (0 : Int32)), .val (.int w8e), od9, .val (.ref b11_t0), .val (.ref b17_t0), .val .null, .val (.int y13_92_86), .val (.int y14_99_88), .val (.ref b91), .val (.ref b1098), .val (.ref b1119), .val (.ref b1134), od19, .val (.ref b2146), .val (.ref b2151), .val (.int (1 : Int32))] [])) := by
  obtain ⟨L0, hL0⟩ : ∃ z : Array Slot, z = #[.val (.int p1), .val (.int p2), .val (.int p3), .val (.int p4), .val (.long q5), .second, .val (.int p6), .val (.int (0 : Int32)), .val (.int w8e), od9, .val (.ref b11_t0), .val (.ref b17_t0), .val .null, .val (.int y13_92_86), .val (.int y14_99_88), .val (.ref b91), .val (.ref b1098), .val (.ref b1119), .val (.ref b1134), od19, .val (.ref b2146), .val (.ref b2151), .val (.int (1 : Int32))] := ⟨_, rfl⟩
  refine Gl.cast (B := (T0.setTop (mkF m 448 L0 []))) (by rw [hL0]) ?_
  refine Gl.st (B := (T0.setTop (mkF m 455 L0 [(.ref b2151)]))) (fun t k => XS.iload X0.here hx rfl (hb hby at_448) (ldAt hL0 rfl) (XS.ifNo X0.here hx rfl (hb hby at_450) rfl (by decide) (XS.aload X0.here hx rfl (hb hby at_453) (ldAt hL0 rfl) rfl k))) ?_
  obtain ⟨T4234, X4234, e4234, st4234⟩ := getF X0 hx hZ hown (host := "") (Or.inl (tw hw 166 rfl)) Via.refl e0 F_id_b2151 (g := (mkF m 455 L0 [(.ref b2151)])) rfl rfl (hb hby at_455)
  refine Gl.st (B := (T4234.setTop (mkF m 458 L0 [(.ref b11_t0)]))) st4234 ?_
  refine Gl.st (B := (T4234.setTop (mkF m 465 L0 [(.ref b2151)]))) (fun t k => XS.aload X4234.here hx rfl (hb hby at_458) (ldAt hL0 rfl) rfl (Jvm.RoadKit.acmp (g := (mkF m 460 L0 [(.ref b11_t0), (.ref b11_t0)])) X4234 hx rfl rfl rfl (pc0 := 460) (pc' := 463) (same := true) rfl (hb hby at_460) rfl (decide_eq_true rfl) (by decide) (by decide) (XS.aload X4234.here hx rfl (hb hby at_463) (ldAt hL0 rfl) rfl k))) ?_
  obtain ⟨T4235, X4235, e4235, st4235⟩ := getF X4234 hx hZ hown (host := "") (Or.inl (tw hw 167 rfl)) Via.refl e4234 F_instanceId_b2151 (g := (mkF m 465 L0 [(.ref b2151)])) rfl rfl (hb hby at_465)
  refine Gl.st (B := (T4235.setTop (mkF m 468 L0 [.null]))) st4235 ?_
  obtain ⟨L4236, hL4236⟩ : ∃ z : Array Slot, z = #[.val (.int p1), .val (.int p2), .val (.int p3), .val (.int p4), .val (.long q5), .second, .val (.int p6), .val (.int (0 : Int32)), .val (.int w8e), od9, .val (.ref b11_t0), .val (.ref b17_t0), .val .null, .val (.int y13_92_86), .val (.int y14_99_88), .val (.ref b91), .val (.ref b1098), .val (.ref b1119), .val (.ref b1134), od19, .val (.ref b2146), .val (.ref b2151), .val (.int (1 : Int32))] := ⟨_, rfl⟩
  refine Gl.st (B := (T4235.setTop (mkF m 482 L4236 [(.int (1 : Int32))]))) (fun t k => XS.aload X4235.here hx rfl (hb hby at_468) (ldAt hL0 rfl) rfl (Jvm.RoadKit.acmp (g := (mkF m 470 L0 [.null, .null])) X4235 hx rfl rfl rfl (pc0 := 470) (pc' := 473) (same := true) rfl (hb hby at_470) rfl (decide_eq_true rfl) (by decide) (by decide) (XS.iconst X4235.here hx rfl (hb hby at_473) (XS.goto X4235.here hx rfl (pc0 := 474) (pc' := 478) rfl (hb hby at_474) (by decide) (by decide) (XS.istore X4235.here hx rfl (hb hby at_478) rfl (l' := L4236) (stAt hL0 hL4236 rfl rfl) (XS.iload X4235.here hx rfl (hb hby at_480) (ldAt hL4236 rfl) k)))))) ?_
  refine Gl.st (B := (T4235.setTop (mkF m 487 L4236 [(.ref b2151)]))) (fun t k => XS.ifNo X4235.here hx rfl (hb hby at_482) rfl (by decide) (XS.aload X4235.here hx rfl (hb hby at_485) (ldAt hL4236 rfl) rfl k)) ?_
  obtain ⟨T4237, X4237, e4237, st4237⟩ := getF X4235 hx hZ hown (host := "") (Or.inl (tw hw 119 rfl)) Via.refl e4235 F_sess2_b2151 (g := (mkF m 487 L4236 [(.ref b2151)])) rfl rfl (hb hby at_487)
  refine Gl.st (B := (T4237.setTop (mkF m 490 L4236 [(.int p3)]))) st4237 ?_
  refine Gl.st (B := (T4237.setTop (mkF m 496 L4236 [(.ref b2151)]))) (fun t k => XS.iloadN X4237.here hx rfl (hb hby at_490) (ldAt hL4236 rfl) (XS.icmpNo X4237.here hx rfl (hb hby at_491) rfl (teq rfl).2 (XS.aload X4237.here hx rfl (hb hby at_494) (ldAt hL4236 rfl) rfl k))) ?_
  obtain ⟨T4238, X4238, e4238, st4238⟩ := getF X4237 hx hZ hown (host := "") (Or.inl (tw hw 121 rfl)) Via.refl e4237 F_reba3_b2151 (g := (mkF m 496 L4236 [(.ref b2151)])) rfl rfl (hb hby at_496)
  refine Gl.st (B := (T4238.setTop (mkF m 499 L4236 [(.int p4)]))) st4238 ?_
  refine Gl.st (B := (T4238.setTop (mkF m 505 L4236 [(.ref b2151)]))) (fun t k => XS.iloadN X4238.here hx rfl (hb hby at_499) (ldAt hL4236 rfl) (XS.icmpNo X4238.here hx rfl (hb hby at_500) rfl (teq rfl).2 (XS.aload X4238.here hx rfl (hb hby at_503) (ldAt hL4236 rfl) rfl k))) ?_
  obtain ⟨T4239, X4239, e4239, st4239⟩ := getF X4238 hx hZ hown (host := "") (Or.inl (tw hw 124 rfl)) Via.refl e4238 F_sess4_b2151 (g := (mkF m 505 L4236 [(.ref b2151)])) rfl rfl (hb hby at_505)
  refine Gl.st (B := (T4239.setTop (mkF m 508 L4236 [(.long q5)]))) st4239 ?_
  refine Gl.st (B := (T4239.setTop (mkF m 511 L4236 [(.int (lcmpW q5 q5))]))) (fun t k => XS.lload X4239.here hx rfl (hb hby at_508) (ldAt hL4236 rfl) (XS.lcmp X4239.here hx rfl (hb hby at_510) rfl k)) ?_
  have hc511_4240 : q5 = q5 := by
    rfl
  obtain ⟨L4241, hL4241⟩ : ∃ z : Array Slot, z = #[.val (.int p1), .val (.int p2), .val (.int p3), .val (.int p4), .val (.long q5), .second, .val (.int p6), .val (.int (0 : Int32)), .val (.int w8e), od9, .val (.ref b11_t0), .val (.ref b17_t0), .val .null, .val (.int y13_92_86), .val (.int y14_99_88), .val (.ref b91), .val (.ref b1098), .val (.ref b1119), .val (.ref b1134), od19, .val (.ref b2146), .val (.ref b2151), .val (.int (1 : Int32))] := ⟨_, rfl⟩
  refine Gl.st (B := (T4239.setTop (mkF m 526 L4241 []))) (fun t k => XS.ifNo X4239.here hx rfl (hb hby at_511) rfl ((if0 _ _).trans (teq ((lw_eq q5 q5).mpr hc511_4240)).2) (XS.iconst X4239.here hx rfl (hb hby at_514) (XS.goto X4239.here hx rfl (pc0 := 515) (pc' := 519) rfl (hb hby at_515) (by decide) (by decide) (XS.istore X4239.here hx rfl (hb hby at_519) rfl (l' := L4241) (stAt hL4236 hL4241 rfl rfl) (XS.iload X4239.here hx rfl (hb hby at_521) (ldAt hL4241 rfl) (XS.ifNo X4239.here hx rfl (hb hby at_523) rfl (by decide) k)))))) ?_
  refine Gl.st (B := (T4239.setTop (mkF m 528 L4241 [(.ref b2151)]))) (fun t k => XS.aload X4239.here hx rfl (hb hby at_526) (ldAt hL4241 rfl) rfl k) ?_
  obtain ⟨cq4242, kq4242, q4242a, q4242b, q4242c⟩ := isOf hZ e4239 E_b2151
  obtain ⟨_, _, ⟨T4242, L4242q, k4242, n4242⟩, -, X4242, ⟨Lc4242, hQ4242, l4242, y4242, z4242⟩, st4242⟩ := X4239.virtualBack hx (y := (⟨"com/example/limpet/limpet/group/Member", "isWaiting", "()Z"⟩ : MethodName)) (z := (⟨"com/example/limpet/limpet/group/Member", "isWaiting", "()Z"⟩ : MethodName)) hown (mvT hZ (tw hw 168 rfl)) (mvT hZ (tw hw 169 rfl)) (notFace_of_selects (args := #[]) (mvT hZ (tw hw 171 rfl))) (mvT hZ (tw hw 171 rfl)) (mvT hZ (tw hw 170 rfl)) (by decide) (backOf (W := 0) (rm24 l Z a0 hw [] b2151 h0 n0 Z0 F_pendingJoin_b2151 F_pendingSync_b2151) hZ (tw hw 172 rfl) (tw hw 103 rfl) (by decide) (by decide)) q4242a q4242c (g := (mkF m 528 L4241 [(.ref b2151)])) rfl (szAt hml hL4241 rfl) (Steps.refl _) (argsL := []) (rest := []) (lenOf pd_0s448_15_0 rfl) rfl (by show 2 * 0 + _ ≤ _; exact Nat.le_of_eq rfl) (hb hby at_528) (fun _ _ => ⟨rfl, e4239, (by decide : 17 + 0 ≤ _), (by decide : 57 + 0 ≤ _)⟩)
  dsimp only [Pt.U, Pt.locs, Pt.cells, Pt.slots] at X4242 l4242 y4242 z4242 st4242 hQ4242
  subst l4242 y4242 z4242
  obtain ⟨rfl, N4242q, eh4242⟩ := hQ4242
  have N4242 := Fr.app N0 N4242q
  refine Gl.st (B := (T4242.setTop (mkF m 531 L4241 [(.int (0 : Int32))]))) (fun t k => st4242.trans k) ?_
  obtain ⟨L4243, hL4243⟩ : ∃ z : Array Slot, z = #[.val (.int p1), .val (.int p2), .val (.int p3), .val (.int p4), .val (.long q5), .second, .val (.int p6), .val (.int (0 : Int32)), .val (.int w8e), od9, .val (.ref b11_t0), .val (.ref b17_t0), .val .null, .val (.int y13_92_86), .val (.int y14_99_88), .val (.ref b91), .val (.ref b1098), .val (.ref b1119), .val (.ref b1134), od19, .val (.ref b2146), .val (.ref b2151), .val (.int (1 : Int32))] := ⟨_, rfl⟩
  refine Gl.st (B := (T4242.setTop (mkF m 546 L4243 []))) (fun t k => XS.ifNo X4242.here hx rfl (hb hby at_531) rfl (by decide) (XS.iconst X4242.here hx rfl (hb hby at_534) (XS.goto X4242.here hx rfl (pc0 := 535) (pc' := 539) rfl (hb hby at_535) (by decide) (by decide) (XS.istore X4242.here hx rfl (hb hby at_539) rfl (l' := L4243) (stAt hL4241 hL4243 rfl rfl) (XS.iload X4242.here hx rfl (hb hby at_541) (ldAt hL4243 rfl) (XS.ifNo X4242.here hx rfl (hb hby at_543) rfl (by decide) k)))))) ?_
  refine Gl.st (B := (T4242.setTop (mkF m 548 L4243 [(.ref b2146)]))) (fun t k => XS.aload X4242.here hx rfl (hb hby at_546) (ldAt hL4243 rfl) rfl k) ?_
  obtain ⟨T4244, X4244, e4244, st4244⟩ := getF X4242 hx hZ hown (host := "") (Or.inl (tw hw 166 rfl)) Via.refl eh4242 F_id_b2146 (g := (mkF m 548 L4243 [(.ref b2146)])) rfl rfl (hb hby at_548)
  refine Gl.st (B := (T4244.setTop (mkF m 551 L4243 [(.ref b17_t0)]))) st4244 ?_
  refine Gl.st (B := (T4244.setTop (mkF m 558 L4243 [(.ref b2146)]))) (fun t k => XS.aload X4244.here hx rfl (hb hby at_551) (ldAt hL4243 rfl) rfl (Jvm.RoadKit.acmp (g := (mkF m 553 L4243 [(.ref b17_t0), (.ref b17_t0)])) X4244 hx rfl rfl rfl (pc0 := 553) (pc' := 556) (same := true) rfl (hb hby at_553) rfl (decide_eq_true rfl) (by decide) (by decide) (XS.aload X4244.here hx rfl (hb hby at_556) (ldAt hL4243 rfl) rfl k))) ?_
  obtain ⟨T4245, X4245, e4245, st4245⟩ := getF X4244 hx hZ hown (host := "") (Or.inl (tw hw 167 rfl)) Via.refl e4244 F_instanceId_b2146 (g := (mkF m 558 L4243 [(.ref b2146)])) rfl rfl (hb hby at_558)
  refine Gl.st (B := (T4245.setTop (mkF m 561 L4243 [.null]))) st4245 ?_
  refine Gl.st (B := (T4245.setTop (mkF m 568 L4243 [(.ref b2146)]))) (fun t k => XS.aload X4245.here hx rfl (hb hby at_561) (ldAt hL4243 rfl) rfl (Jvm.RoadKit.acmp (g := (mkF m 563 L4243 [.null, .null])) X4245 hx rfl rfl rfl (pc0 := 563) (pc' := 566) (same := true) rfl (hb hby at_563) rfl (decide_eq_true rfl) (by decide) (by decide) (XS.aload X4245.here hx rfl (hb hby at_566) (ldAt hL4243 rfl) rfl k))) ?_
  obtain ⟨T4246, X4246, e4246, st4246⟩ := getF X4245 hx hZ hown (host := "") (Or.inl (tw hw 114 rfl)) Via.refl e4245 F_generation_b2146 (g := (mkF m 568 L4243 [(.ref b2146)])) rfl rfl (hb hby at_568)
  refine Gl.st (B := (T4246.setTop (mkF m 571 L4243 [(.int p1)]))) st4246 ?_
  obtain ⟨L4247, hL4247⟩ : ∃ z : Array Slot, z = #[.val (.int p1), .val (.int p2), .val (.int p3), .val (.int p4), .val (.long q5), .second, .val (.int p6), .val (.int (0 : Int32)), .val (.int w8e), od9, .val (.ref b11_t0), .val (.ref b17_t0), .val .null, .val (.int y13_92_86), .val (.int y14_99_88), .val (.ref b91), .val (.ref b1098), .val (.ref b1119), .val (.ref b1134), od19, .val (.ref b2146), .val (.ref b2151), .val (.int (1 : Int32))] := ⟨_, rfl⟩
  refine Gl.st (B := (T4246.setTop (mkF m 582 L4247 []))) (fun t k => XS.iloadN X4246.here hx rfl (hb hby at_571) (ldAt hL4243 rfl) (XS.icmpNo X4246.here hx rfl (hb hby at_572) rfl (teq rfl).2 (XS.iconst X4246.here hx rfl (hb hby at_575) (XS.goto X4246.here hx rfl (pc0 := 576) (pc' := 580) rfl (hb hby at_576) (by decide) (by decide) (XS.istore X4246.here hx rfl (hb hby at_580) rfl (l' := L4247) (stAt hL4243 hL4247 rfl rfl) k))))) ?_
  refine Gl.cast (B := (T4246.setTop (mkF m 582 #[.val (.int p1), .val (.int p2), .val (.int p3), .val (.int p4), .val (.long q5), .second, .val (.int p6), .val (.int (0 : Int32)), .val (.int w8e), od9, .val (.ref b11_t0), .val (.ref b17_t0), .val .null, .val (.int y13_92_86), .val (.int y14_99_88), .val (.ref b91), .val (.ref b1098), .val (.ref b1119), .val (.ref b1134), od19, .val (.ref b2146), .val (.ref b2151), .val (.int (1 : Int32))] []))) (by rw [hL4247]) ?_
  exact sg_582_5 l Z a0 hw hx hby hml hret hlk hZ hown n0 p1 p2 p3 p4 q5 p6 w8e (od9) (.val (.ref b11_t0)) (.val (.ref b17_t0)) (.val .null) y13_92_86 y14_99_88 b91 b1098 b1119 (.val (.ref b1134)) (od19) b2146 b2151 k91 nra vra b1125_t0 k1125_kx_t0 x257_2169 x265_2174 x276_2179 h0 (X4246.more (by decide) (by decide)) e4246 N4242 Z0 F_assignment_b2146 V_b91 hr605_hE F_protocols_b2146 E_b1119 F_size_b1119 F_elementData_b1119 V_b1125_t0 O_b1125_t0 F_sess2_b2146 F_reba3_b2146 F_sess4_b2146 F_pendingJoin_b2146 F_pendingSync_b2146 hq694 hq705 hq720 E_b2146
theorem pd_0s325_14_0 : parseMethodDescriptor "([BZBB)Z" = some ⟨[(.array .byte), .boolean, .byte, .byte], some .boolean⟩ := by decide +kernel
theorem pd_0s325_14_1 : parseMethodDescriptor "()I" = some ⟨[], some .int⟩ := by decide +kernel
theorem pd_0s325_14_2 : parseMethodDescriptor "(I)Ljava/lang/Object;" = some ⟨[.int], some (.object "java/lang/Object")⟩ := by decide +kernel
set_option maxRecDepth 65536 in
set_option maxHeartbeats 40000000 in
theorem sg_325_14 (l : Launch) (Z : State) (a0 : Array Value) (hw : ∀ d ∈ tables_1, d.before a0 Z = true) {p : Program} {e : Env} {s : State} {m : MethodId} {A0 : Array Value} {below : List Frame} {meth : Method} {c : Code} (hx : p.tables.exec = Jvm.exec) (hby : c.code = code) (hml : c.maxLocals = 23) (hret : meth.sig.returnType = ret) (hlk : meth.locks = false) (hZ : Z.Warmed39 s.vm) (hown : s.vm.findClass "com/example/limpet/limpet/group/MemberTakeOverPinLaw" = some m.cls) (n0 : Nat) (p1 : Int32) (p2 : Int32) (p3 : Int32) (p4 : Int32) (q5 : Int64) (p6 : Int32) (w8e : Int32) (b11_t0 : Addr) (b17_t0 : Addr) (y13_92_86 : Int32) (y14_99_88 : Int32) (b91 : Addr) (b1098 : Addr) (b1119 : Addr) (b1134 : Addr) (od19 : Slot) (b2146 : Addr) (b2151 : Addr) (k91 : ClassId) (nra : Int32) (vra : List Value) (b1125_t0 : Addr) (k1125_kx_t0 : ClassId) (x257_2169 : Int32) (x265_2174 : Int32) (x276_2179 : Int64) {T0 : State} {Lc : List Loc} (h0 : Heap) (X0 : Stand p l e room_1 s m A0 below meth c T0 Lc 17 57) (e0 : T0.heap = h0) (N0 : Fr n0 Lc) (Z0 : n0 ≤ h0.size) (F_generation_b2151 : Fld Z h0 b2151 "com/example/limpet/limpet/group/Member" "generation" "I" (.int p1)) (F_assignment_b2151 : Fld Z h0 b2151 "com/example/limpet/limpet/group/Member" "assignment" "[B" (.ref b91)) (V_b91 : Arv Z h0 b91 k91 .byte nra vra (.int (0 : Int32))) (hr357_hE : (w8e = (1 : Int32) ∧ nra = (0 : Int32) ∧ vra = []) ∨ (w8e = (0 : Int32) ∧ nra = (2 : Int32) ∧ vra = [(.int y13_92_86), (.int y14_99_88)])) (F_protocols_b2151 : Fld Z h0 b2151 "com/example/limpet/limpet/group/Member" "protocols" "Ljava/util/List;" (.ref b1119)) (E_b1119 : Exa Z h0 b1119 "java/util/ArrayList") (F_size_b1119 : Fld Z h0 b1119 "java/util/ArrayList" "size" "I" (.int (1 : Int32))) (F_elementData_b1119 : Fld Z h0 b1119 "java/util/ArrayList" "elementData" "[Ljava/lang/Object;" (.ref b1125_t0)) (V_b1125_t0 : Arv Z h0 b1125_t0 k1125_kx_t0 (.object "java/lang/Object") (10 : Int32) [(.ref b1098), .null, .null, .null, .null, .null, .null, .null, .null, .null] .null) (O_b1125_t0 : Ovr Z k1125_kx_t0 "java/lang/Object") (F_id_b2151 : Fld Z h0 b2151 "com/example/limpet/limpet/group/Member" "id" "Ljava/lang/String;" (.ref b11_t0)) (F_instanceId_b2151 : Fld Z h0 b2151 "com/example/limpet/limpet/group/Member" "instanceId" "Ljava/lang/String;" .null) (F_sess2_b2151 : Fld Z h0 b2151 "com/example/limpet/limpet/group/Member" "sessionTimeoutMs" "I" (.int p3)) (F_reba3_b2151 : Fld Z h0 b2151 "com/example/limpet/limpet/group/Member" "rebalanceTimeoutMs" "I" (.int p4)) (F_sess4_b2151 : Fld Z h0 b2151 "com/example/limpet/limpet/group/Member" "sessionDeadline" "J" (.long q5)) (F_pendingJoin_b2151 : Fld Z h0 b2151 "com/example/limpet/limpet/group/Member" "pendingJoin" "Ljava/util/function/Consumer;" .null) (F_pendingSync_b2151 : Fld Z h0 b2151 "com/example/limpet/limpet/group/Member" "pendingSync" "Ljava/util/function/Consumer;" .null) (F_id_b2146 : Fld Z h0 b2146 "com/example/limpet/limpet/group/Member" "id" "Ljava/lang/String;" (.ref b17_t0)) (F_instanceId_b2146 : Fld Z h0 b2146 "com/example/limpet/limpet/group/Member" "instanceId" "Ljava/lang/String;" .null) (F_generation_b2146 : Fld Z h0 b2146 "com/example/limpet/limpet/group/Member" "generation" "I" (.int p1)) (F_assignment_b2146 : Fld Z h0 b2146 "com/example/limpet/limpet/group/Member" "assignment" "[B" (.ref b91)) (F_protocols_b2146 : Fld Z h0 b2146 "com/example/limpet/limpet/group/Member" "protocols" "Ljava/util/List;" (.ref b1119)) (F_sess2_b2146 : Fld Z h0 b2146 "com/example/limpet/limpet/group/Member" "sessionTimeoutMs" "I" (.int x257_2169)) (F_reba3_b2146 : Fld Z h0 b2146 "com/example/limpet/limpet/group/Member" "rebalanceTimeoutMs" "I" (.int x265_2174)) (F_sess4_b2146 : Fld Z h0 b2146 "com/example/limpet/limpet/group/Member" "sessionDeadline" "J" (.long x276_2179)) (F_pendingJoin_b2146 : Fld Z h0 b2146 "com/example/limpet/limpet/group/Member" "pendingJoin" "Ljava/util/function/Consumer;" .null) (F_pendingSync_b2146 : Fld Z h0 b2146 "com/example/limpet/limpet/group/Member" "pendingSync" "Ljava/util/function/Consumer;" .null) (E_b2151 : Exa Z h0 b2151 "com/example/limpet/limpet/group/Member") (hr605_hE : (w8e = (1 : Int32) ∧ nra = (0 : Int32) ∧ vra = []) ∨ (w8e = (0 : Int32) ∧ nra = (2 : Int32) ∧ vra = [(.int y13_92_86), (.int y14_99_88)])) (hq694 : x257_2169 = (p3 ^^^ (-1 : Int32))) (hq705 : x265_2174 = (p4 ^^^ (-1 : Int32))) (hq720 : x276_2179 = (q5 ^^^ (-1 : Int64))) (E_b2146 : Exa Z h0 b2146 "com/example/limpet/limpet/group/Member") :
    Gl p e below (fun o U' => ∃ v L, o = .returned v ∧ (v = some (.int (1 : Int32)) ∧ Fr n0 L) ∧ FrameEnd s o U' L room_1.cells room_1.slots) (T0.setTop (mkF m 325 #[.val (.int p1), .val (.int p2), .val (.int p3), .val (.int p4), .val (.long q5), .second, .val (.int p6), .val (.int (0 : Int32)), .val (.int w8e), od9, .val (.ref b11_t0), .val (.ref b17_t0), .val .null, .val (.int y13_92_86), .val (.int y14_99_88), .val (.ref b91), .val (.ref b1098), .val (.ref b1119), .val (.ref b1134), od19, .val (.ref b2146), .val (.ref b2151), .unset] [])) := by
  obtain ⟨L0, hL0⟩ : ∃ z : Array Slot, z = #[.val (.int p1), .val (.int p2), .val (.int p3), .val (.int p4), .val (.long q5), .second, .val (.int p6), .val (.int (0 : Int32)), .val (.int w8e), od9, .val (.ref b11_t0), .val (.ref b17_t0), .val .null, .val (.int y13_92_86), .val (.int y14_99_88), .val (.ref b91), .val (.ref b1098), .val (.ref b1119), .val (.ref b1134), od19, .val (.ref b2146), .val (.ref b2151), .unset] := ⟨_, rfl⟩
  refine Gl.cast (B := (T0.setTop (mkF m 325 L0 []))) (by rw [hL0]) ?_
  refine Gl.st (B := (T0.setTop (mkF m 327 L0 [(.ref b2151)]))) (fun t k => XS.aload X0.here hx rfl (hb hby at_325) (ldAt hL0 rfl) rfl k) ?_
  obtain ⟨T3223, X3223, e3223, st3223⟩ := getF X0 hx hZ hown (host := "") (Or.inl (tw hw 114 rfl)) Via.refl e0 F_generation_b2151 (g := (mkF m 327 L0 [(.ref b2151)])) rfl rfl (hb hby at_327)
  refine Gl.st (B := (T3223.setTop (mkF m 330 L0 [(.int p1)]))) st3223 ?_
  obtain ⟨L3224, hL3224⟩ : ∃ z : Array Slot, z = #[.val (.int p1), .val (.int p2), .val (.int p3), .val (.int p4), .val (.long q5), .second, .val (.int p6), .val (.int (0 : Int32)), .val (.int w8e), od9, .val (.ref b11_t0), .val (.ref b17_t0), .val .null, .val (.int y13_92_86), .val (.int y14_99_88), .val (.ref b91), .val (.ref b1098), .val (.ref b1119), .val (.ref b1134), od19, .val (.ref b2146), .val (.ref b2151), .val (.int (1 : Int32))] := ⟨_, rfl⟩
  refine Gl.st (B := (T3223.setTop (mkF m 343 L3224 [(.int (1 : Int32))]))) (fun t k => XS.iloadN X3223.here hx rfl (hb hby at_330) (ldAt hL0 rfl) (XS.icmpNo X3223.here hx rfl (hb hby at_331) rfl (teq rfl).2 (XS.iconst X3223.here hx rfl (hb hby at_334) (XS.goto X3223.here hx rfl (pc0 := 335) (pc' := 339) rfl (hb hby at_335) (by decide) (by decide) (XS.istore X3223.here hx rfl (hb hby at_339) rfl (l' := L3224) (stAt hL0 hL3224 rfl rfl) (XS.iload X3223.here hx rfl (hb hby at_341) (ldAt hL3224 rfl) k)))))) ?_
  refine Gl.st (B := (T3223.setTop (mkF m 348 L3224 [(.ref b2151)]))) (fun t k => XS.ifNo X3223.here hx rfl (hb hby at_343) rfl (by decide) (XS.aload X3223.here hx rfl (hb hby at_346) (ldAt hL3224 rfl) rfl k)) ?_
  obtain ⟨T3225, X3225, e3225, st3225⟩ := getF X3223 hx hZ hown (host := "") (Or.inl (tw hw 116 rfl)) Via.refl e3223 F_assignment_b2151 (g := (mkF m 348 L3224 [(.ref b2151)])) rfl rfl (hb hby at_348)
  refine Gl.st (B := (T3225.setTop (mkF m 351 L3224 [(.ref b91)]))) st3225 ?_
  refine Gl.st (B := (T3225.setTop (mkF m 357 L3224 [(.int y14_99_88), (.int y13_92_86), (.int w8e), (.ref b91)]))) (fun t k => XS.iload X3225.here hx rfl (hb hby at_351) (ldAt hL3224 rfl) (XS.iload X3225.here hx rfl (hb hby at_353) (ldAt hL3224 rfl) (XS.iload X3225.here hx rfl (hb hby at_355) (ldAt hL3224 rfl) k))) ?_
  obtain ⟨_, _, ⟨T3226, L3226q, k3226, n3226⟩, -, X3226, ⟨Lc3226, hQ3226, l3226, y3226, z3226⟩, st3226⟩ := Jvm.LawKit.callS X3225 hx (y := (⟨"com/example/limpet/limpet/group/MemberTakeOverPinLaw", "sameAssignment", "([BZBB)Z"⟩ : MethodName)) hown (mvT hZ (tw hw 133 rfl)) (mvT hZ (tw hw 134 rfl)) (mvT hZ (tw hw 135 rfl)) (mvT hZ (tw hw 136 rfl)) (by decide) (backOf (W := 0) (rm18g l Z a0 hw [] b91 w8e y13_92_86 y14_99_88 k91 nra vra h0 n0 Z0 V_b91 hr357_hE) hZ (tw hw 136 rfl) (tw hw 135 rfl) (by decide) (by decide)) (g := (mkF m 357 L3224 [(.int y14_99_88), (.int y13_92_86), (.int w8e), (.ref b91)])) rfl (szAt hml hL3224 rfl) (argsL := [(.ref b91), (.int w8e), (.int y13_92_86), (.int y14_99_88)]) (rest := []) (lenOf pd_0s325_14_0 rfl) rfl (by show 2 * 0 + _ ≤ _; exact Nat.le_of_eq rfl) (hb hby at_357) (fun _ _ => ⟨rfl, e3225, (by decide : 17 + 0 ≤ _), (by decide : 57 + 0 ≤ _)⟩)
  dsimp only [Pt.U, Pt.locs, Pt.cells, Pt.slots] at X3226 l3226 y3226 z3226 st3226 hQ3226
  subst l3226 y3226 z3226
  obtain ⟨rfl, N3226q, eh3226⟩ := hQ3226
  have N3226 := Fr.app N0 N3226q
  refine Gl.st (B := (T3226.setTop (mkF m 360 L3224 [(.int (1 : Int32))]))) (fun t k => st3226 t k) ?_
  obtain ⟨L3227, hL3227⟩ : ∃ z : Array Slot, z = #[.val (.int p1), .val (.int p2), .val (.int p3), .val (.int p4), .val (.long q5), .second, .val (.int p6), .val (.int (0 : Int32)), .val (.int w8e), od9, .val (.ref b11_t0), .val (.ref b17_t0), .val .null, .val (.int y13_92_86), .val (.int y14_99_88), .val (.ref b91), .val (.ref b1098), .val (.ref b1119), .val (.ref b1134), od19, .val (.ref b2146), .val (.ref b2151), .val (.int (1 : Int32))] := ⟨_, rfl⟩
  refine Gl.st (B := (T3226.setTop (mkF m 398 L3227 []))) (fun t k => XS.ifNo X3226.here hx rfl (hb hby at_360) rfl (by decide) (XS.iconst X3226.here hx rfl (hb hby at_363) (XS.goto X3226.here hx rfl (pc0 := 364) (pc' := 368) rfl (hb hby at_364) (by decide) (by decide) (XS.istore X3226.here hx rfl (hb hby at_368) rfl (l' := L3227) (stAt hL3224 hL3227 rfl rfl) (XS.iload X3226.here hx rfl (hb hby at_370) (ldAt hL3227 rfl) (XS.ifYes X3226.here hx rfl (pc0 := 372) (pc' := 398) rfl (hb hby at_372) rfl (by decide) (by decide) (by decide) k)))))) ?_
  refine Gl.st (B := (T3226.setTop (mkF m 405 L3227 [(.ref b2151)]))) (fun t k => XS.iload X3226.here hx rfl (hb hby at_398) (ldAt hL3227 rfl) (XS.ifNo X3226.here hx rfl (hb hby at_400) rfl (by decide) (XS.aload X3226.here hx rfl (hb hby at_403) (ldAt hL3227 rfl) rfl k))) ?_
  obtain ⟨T3228, X3228, e3228, st3228⟩ := getF X3226 hx hZ hown (host := "") (Or.inl (tw hw 117 rfl)) Via.refl eh3226 F_protocols_b2151 (g := (mkF m 405 L3227 [(.ref b2151)])) rfl rfl (hb hby at_405)
  refine Gl.st (B := (T3228.setTop (mkF m 408 L3227 [(.ref b1119)]))) st3228 ?_
  refine Gl.st (B := (T3228.setTop (mkF m 413 L3227 [(.ref b2151)]))) (fun t k => XS.ifnullNo X3228.here hx rfl (hb hby at_408) rfl (XS.aload X3228.here hx rfl (hb hby at_411) (ldAt hL3227 rfl) rfl k)) ?_
  obtain ⟨T3229, X3229, e3229, st3229⟩ := getF X3228 hx hZ hown (host := "") (Or.inl (tw hw 117 rfl)) Via.refl e3228 F_protocols_b2151 (g := (mkF m 413 L3227 [(.ref b2151)])) rfl rfl (hb hby at_413)
  refine Gl.st (B := (T3229.setTop (mkF m 416 L3227 [(.ref b1119)]))) st3229 ?_
  obtain ⟨cq3230, kq3230, q3230a, q3230b, q3230c⟩ := isOf hZ e3229 E_b1119
  obtain ⟨_, _, ⟨T3230, L3230q, k3230, n3230⟩, -, X3230, ⟨Lc3230, hQ3230, l3230, y3230, z3230⟩, st3230⟩ := X3229.interfaceBack hx (xi := (⟨"java/util/List", "size", "()I"⟩ : MethodName)) (y := (⟨"java/util/ArrayList", "size", "()I"⟩ : MethodName)) hown (mvT hZ (tw hw 137 rfl)) (mvT hZ (tw hw 138 rfl)) (mvT hZ (tw hw 139 rfl)) (mvT hZ (tw hw 140 rfl)) (mvT hZ (tw hw 141 rfl)) (mvT hZ (tw hw 142 rfl)) (mvT hZ (tw hw 143 rfl)) (mvT hZ (tw hw 73 rfl)) (by decide) (backOf (W := 0) (rm19 l Z a0 hw [] b1119 (1 : Int32) h0 n0 Z0 F_size_b1119) hZ (tw hw 144 rfl) (tw hw 44 rfl) (by decide) (by decide)) q3230a q3230b q3230c (g := (mkF m 416 L3227 [(.ref b1119)])) rfl (szAt hml hL3227 rfl) (Steps.refl _) (argsL := []) (rest := []) (lenOf pd_0s325_14_1 rfl) rfl (by show 2 * 0 + _ ≤ _; exact Nat.le_of_eq rfl) (hb hby at_416) (fun _ _ => ⟨rfl, e3229, (by decide : 17 + 0 ≤ _), (by decide : 57 + 0 ≤ _)⟩)
  dsimp only [Pt.U, Pt.locs, Pt.cells, Pt.slots] at X3230 l3230 y3230 z3230 st3230 hQ3230
  subst l3230 y3230 z3230
  obtain ⟨rfl, N3230q, eh3230⟩ := hQ3230
  have N3230 := Fr.app N3226 N3230q
  refine Gl.st (B := (T3230.setTop (mkF m 421 L3227 [(.int (1 : Int32))]))) (fun t k => st3230.trans k) ?_
  refine Gl.st (B := (T3230.setTop (mkF m 427 L3227 [(.ref b2151)]))) (fun t k => XS.iconst X3230.here hx rfl (hb hby at_421) (XS.icmpNo X3230.here hx rfl (hb hby at_422) rfl (by decide) (XS.aload X3230.here hx rfl (hb hby at_425) (ldAt hL3227 rfl) rfl k))) ?_
  obtain ⟨T3231, X3231, e3231, st3231⟩ := getF X3230 hx hZ hown (host := "") (Or.inl (tw hw 117 rfl)) Via.refl eh3230 F_protocols_b2151 (g := (mkF m 427 L3227 [(.ref b2151)])) rfl rfl (hb hby at_427)
  refine Gl.st (B := (T3231.setTop (mkF m 430 L3227 [(.ref b1119)]))) st3231 ?_
  refine Gl.st (B := (T3231.setTop (mkF m 431 L3227 [(.int (0 : Int32)), (.ref b1119)]))) (fun t k => XS.iconst X3231.here hx rfl (hb hby at_430) k) ?_
  obtain ⟨cq3232, kq3232, q3232a, q3232b, q3232c⟩ := isOf hZ e3231 E_b1119
  obtain ⟨_, _, ⟨T3232, L3232q, k3232, n3232⟩, -, X3232, ⟨Lc3232, hQ3232, l3232, y3232, z3232⟩, st3232⟩ := X3231.interfaceBack hx (xi := (⟨"java/util/List", "get", "(I)Ljava/lang/Object;"⟩ : MethodName)) (y := (⟨"java/util/ArrayList", "get", "(I)Ljava/lang/Object;"⟩ : MethodName)) hown (mvT hZ (tw hw 145 rfl)) (mvT hZ (tw hw 146 rfl)) (mvT hZ (tw hw 147 rfl)) (mvT hZ (tw hw 148 rfl)) (mvT hZ (tw hw 149 rfl)) (mvT hZ (tw hw 150 rfl)) (mvT hZ (tw hw 151 rfl)) (mvT hZ (tw hw 73 rfl)) (by decide) (backOf (W := 0) (rm20 l Z a0 hw [] b1119 k1125_kx_t0 b1098 b1125_t0 h0 n0 Z0 V_b1125_t0 F_size_b1119 F_elementData_b1119 E_b1119) hZ (tw hw 152 rfl) (tw hw 44 rfl) (by decide) (by decide)) q3232a q3232b q3232c (g := (mkF m 431 L3227 [(.int (0 : Int32)), (.ref b1119)])) rfl (szAt hml hL3227 rfl) (Steps.refl _) (argsL := [(.int (0 : Int32))]) (rest := []) (lenOf pd_0s325_14_2 rfl) rfl (by show 2 * 0 + _ ≤ _; exact Nat.le_of_eq rfl) (hb hby at_431) (fun _ _ => ⟨rfl, e3231, (by decide : 17 + 0 ≤ _), (by decide : 57 + 0 ≤ _)⟩)
  dsimp only [Pt.U, Pt.locs, Pt.cells, Pt.slots] at X3232 l3232 y3232 z3232 st3232 hQ3232
  subst l3232 y3232 z3232
  obtain ⟨rfl, N3232q, eh3232⟩ := hQ3232
  have N3232 := Fr.app N3230 N3232q
  refine Gl.st (B := (T3232.setTop (mkF m 436 L3227 [(.ref b1098)]))) (fun t k => st3232.trans k) ?_
  obtain ⟨L3233, hL3233⟩ : ∃ z : Array Slot, z = #[.val (.int p1), .val (.int p2), .val (.int p3), .val (.int p4), .val (.long q5), .second, .val (.int p6), .val (.int (0 : Int32)), .val (.int w8e), od9, .val (.ref b11_t0), .val (.ref b17_t0), .val .null, .val (.int y13_92_86), .val (.int y14_99_88), .val (.ref b91), .val (.ref b1098), .val (.ref b1119), .val (.ref b1134), od19, .val (.ref b2146), .val (.ref b2151), .val (.int (1 : Int32))] := ⟨_, rfl⟩
  refine Gl.st (B := (T3232.setTop (mkF m 448 L3233 []))) (fun t k => XS.aload X3232.here hx rfl (hb hby at_436) (ldAt hL3227 rfl) rfl (Jvm.RoadKit.acmp (g := (mkF m 438 L3227 [(.ref b1098), (.ref b1098)])) X3232 hx rfl rfl rfl (pc0 := 438) (pc' := 441) (same := true) rfl (hb hby at_438) rfl (decide_eq_true rfl) (by decide) (by decide) (XS.iconst X3232.here hx rfl (hb hby at_441) (XS.goto X3232.here hx rfl (pc0 := 442) (pc' := 446) rfl (hb hby at_442) (by decide) (by decide) (XS.istore X3232.here hx rfl (hb hby at_446) rfl (l' := L3233) (stAt hL3227 hL3233 rfl rfl) k))))) ?_
  refine Gl.cast (B := (T3232.setTop (mkF m 448 #[.val (.int p1), .val (.int p2), .val (.int p3), .val (.int p4), .val (.long q5), .second, .val (.int p6), .val (.int (0 : Int32)), .val (.int w8e), od9, .val (.ref b11_t0), .val (.ref b17_t0), .val .null, .val (.int y13_92_86), .val (.int y14_99_88), .val (.ref b91), .val (.ref b1098), .val (.ref b1119), .val (.ref b1134), od19, .val (.ref b2146), .val (.ref b2151), .val (.int (1 : Int32))] []))) (by rw [hL3233]) ?_
  exact sg_448_15 l Z a0 hw hx hby hml hret hlk hZ hown n0 p1 p2 p3 p4 q5 p6 w8e b11_t0 b17_t0 y13_92_86 y14_99_88 b91 b1098 b1119 b1134 b2146 b2151 b1125_t0 x257_2169 x265_2174 x276_2179 k91 nra vra k1125_kx_t0 h0 (X3232.more (by decide) (by decide)) eh3232 N3232 Z0 F_id_b2151 F_instanceId_b2151 F_sess2_b2151 F_reba3_b2151 F_sess4_b2151 E_b2151 F_pendingJoin_b2151 F_pendingSync_b2151 F_id_b2146 F_instanceId_b2146 F_generation_b2146 F_assignment_b2146 F_protocols_b2146 F_size_b1119 F_elementData_b1119 F_sess2_b2146 F_reba3_b2146 F_sess4_b2146 F_pendingJoin_b2146 F_pendingSync_b2146 V_b91 V_b1125_t0 O_b1125_t0 hr605_hE E_b1119 hq694 hq705 hq720 E_b2146
theorem pd_0s206_13_0 : parseMethodDescriptor "(Ljava/lang/String;Ljava/lang/String;)V" = some ⟨[(.object "java/lang/String"), (.object "java/lang/String")], none⟩ := by decide +kernel
theorem pd_0s206_13_1 : parseMethodDescriptor "(Lcom/example/limpet/limpet/group/Member;)V" = some ⟨[(.object "com/example/limpet/limpet/group/Member")], none⟩ := by decide +kernel
set_option maxRecDepth 65536 in
set_option maxHeartbeats 40000000 in
theorem sg_206_13 (l : Launch) (Z : State) (a0 : Array Value) (hw : ∀ d ∈ tables_1, d.before a0 Z = true) {p : Program} {e : Env} {s : State} {m : MethodId} {A0 : Array Value} {below : List Frame} {meth : Method} {c : Code} (hx : p.tables.exec = Jvm.exec) (hby : c.code = code) (hml : c.maxLocals = 23) (hret : meth.sig.returnType = ret) (hlk : meth.locks = false) (hZ : Z.Warmed39 s.vm) (hown : s.vm.findClass "com/example/limpet/limpet/group/MemberTakeOverPinLaw" = some m.cls) (n0 : Nat) (p1 : Int32) (p2 : Int32) (p3 : Int32) (p4 : Int32) (q5 : Int64) (p6 : Int32) (w8e : Int32) (b11_t0 : Addr) (b17_t0 : Addr) (y13_92_86 : Int32) (y14_99_88 : Int32) (b91 : Addr) (b1098 : Addr) (b1119 : Addr) (b1134 : Addr) (b1140 : Addr) (b1125_t0 : Addr) (k91 : ClassId) (nra : Int32) (vra : List Value) (k1125_kx_t0 : ClassId) {T0 : State} {Lc : List Loc} (h0 : Heap) (X0 : Stand p l e room_1 s m A0 below meth c T0 Lc 13 37) (e0 : T0.heap = h0) (N0 : Fr n0 Lc) (Z0 : n0 ≤ h0.size) (F_size_b1119 : Fld Z h0 b1119 "java/util/ArrayList" "size" "I" (.int (1 : Int32))) (F_elementData_b1119 : Fld Z h0 b1119 "java/util/ArrayList" "elementData" "[Ljava/lang/Object;" (.ref b1125_t0)) (V_b91 : Arv Z h0 b91 k91 .byte nra vra (.int (0 : Int32))) (V_b1125_t0 : Arv Z h0 b1125_t0 k1125_kx_t0 (.object "java/lang/Object") (10 : Int32) [(.ref b1098), .null, .null, .null, .null, .null, .null, .null, .null, .null] .null) (O_b1125_t0 : Ovr Z k1125_kx_t0 "java/lang/Object") (hr357_hE : (w8e = (1 : Int32) ∧ nra = (0 : Int32) ∧ vra = []) ∨ (w8e = (0 : Int32) ∧ nra = (2 : Int32) ∧ vra = [(.int y13_92_86), (.int y14_99_88)])) (E_b1119 : Exa Z h0 b1119 "java/util/ArrayList") (hr605_hE : (w8e = (1 : Int32) ∧ nra = (0 : Int32) ∧ vra = []) ∨ (w8e = (0 : Int32) ∧ nra = (2 : Int32) ∧ vra = [(.int y13_92_86), (.int y14_99_88)])) :
    Gl p e below (fun o U' => ∃ v L, o = .returned v ∧ (v = some (.int (1 : Int32)) ∧ Fr n0 L) ∧ FrameEnd s o U' L room_1.cells room_1.slots) (T0.setTop (mkF m 206 #[.val (.int p1), .val (.int p2), .val (.int p3), .val (.int p4), .val (.long q5), .second, .val (.int p6), .val (.int (0 : Int32)), .val (.int w8e), od9, .val (.ref b11_t0), .val (.ref b17_t0), .val .null, .val (.int y13_92_86), .val (.int y14_99_88), .val (.ref b91), .val (.ref b1098), .val (.ref b1119), .val (.ref b1134), .val (.ref b1140), .unset, .unset, .unset] [])) := by
  obtain ⟨L0, hL0⟩ : ∃ z : Array Slot, z = #[.val (.int p1), .val (.int p2), .val (.int p3), .val (.int p4), .val (.long q5), .second, .val (.int p6), .val (.int (0 : Int32)), .val (.int w8e), od9, .val (.ref b11_t0), .val (.ref b17_t0), .val .null, .val (.int y13_92_86), .val (.int y14_99_88), .val (.ref b91), .val (.ref b1098), .val (.ref b1119), .val (.ref b1134), .val (.ref b1140), .unset, .unset, .unset] := ⟨_, rfl⟩
  refine Gl.cast (B := (T0.setTop (mkF m 206 L0 []))) (by rw [hL0]) ?_
  obtain ⟨T2146, h2146, X2146, e2146, E2146, A2146, D2146, -, st2146⟩ := newO X0 hx hZ hown (tw hw 101 rfl) (tw hw 102 rfl) (tw hw 103 rfl) e0 (g := (mkF m 206 L0 [])) rfl (hb hby at_206) (by decide) (by decide)
  obtain ⟨b2146, gq2146⟩ : ∃ z, z = h0.size := ⟨_, rfl⟩
  rw [← gq2146] at A2146 D2146 st2146
  have g_b2146 : n0 ≤ b2146 := Nat.le_trans Z0 (Nat.le_of_eq gq2146.symm)
  have lt_b2146 := A2146.lt
  have Zc2147 : n0 ≤ h2146.size := Nat.le_trans Z0 E2146.1
  have F2146_assignment : Fld Z h2146 b2146 "com/example/limpet/limpet/group/Member" "assignment" "[B" .null := D2146 (Or.inl (tw hw 109 rfl)) (ty := (.array .byte)) (by decide)
  have F2146_id : Fld Z h2146 b2146 "com/example/limpet/limpet/group/Member" "id" "Ljava/lang/String;" .null := D2146 (Or.inr (tw hw 111 rfl)) (ty := (.object "java/lang/String")) (by decide)
  have F2146_instanceId : Fld Z h2146 b2146 "com/example/limpet/limpet/group/Member" "instanceId" "Ljava/lang/String;" .null := D2146 (Or.inr (tw hw 113 rfl)) (ty := (.object "java/lang/String")) (by decide)
  have F2146_generation : Fld Z h2146 b2146 "com/example/limpet/limpet/group/Member" "generation" "I" (.int (0 : Int32)) := D2146 (Or.inl (tw hw 115 rfl)) (ty := .int) (by decide)
  have F2146_protocols : Fld Z h2146 b2146 "com/example/limpet/limpet/group/Member" "protocols" "Ljava/util/List;" .null := D2146 (Or.inl (tw hw 118 rfl)) (ty := (.object "java/util/List")) (by decide)
  have F2146_sess2 : Fld Z h2146 b2146 "com/example/limpet/limpet/group/Member" "sessionTimeoutMs" "I" (.int (0 : Int32)) := D2146 (Or.inl (tw hw 120 rfl)) (ty := .int) (by decide)
  have F2146_reba3 : Fld Z h2146 b2146 "com/example/limpet/limpet/group/Member" "rebalanceTimeoutMs" "I" (.int (0 : Int32)) := D2146 (Or.inl (tw hw 122 rfl)) (ty := .int) (by decide)
  have F2146_sess4 : Fld Z h2146 b2146 "com/example/limpet/limpet/group/Member" "sessionDeadline" "J" (.long (0 : Int64)) := D2146 (Or.inl (tw hw 125 rfl)) (ty := .long) (by decide)
  have F2146_pendingJoin : Fld Z h2146 b2146 "com/example/limpet/limpet/group/Member" "pendingJoin" "Ljava/util/function/Consumer;" .null := D2146 (Or.inl (tw hw 174 rfl)) (ty := (.object "java/util/function/Consumer")) (by decide)
  have F2146_pendingSync : Fld Z h2146 b2146 "com/example/limpet/limpet/group/Member" "pendingSync" "Ljava/util/function/Consumer;" .null := D2146 (Or.inl (tw hw 176 rfl)) (ty := (.object "java/util/function/Consumer")) (by decide)
  refine Gl.st (B := (T2146.setTop (mkF m 209 L0 [(.ref b2146)]))) st2146 ?_
  refine Gl.st (B := (T2146.setTop (mkF m 214 L0 [.null, (.ref b17_t0), (.ref b2146), (.ref b2146)]))) (fun t k => XS.dup X2146.here hx rfl (hb hby at_209) rfl rfl (XS.aload X2146.here hx rfl (hb hby at_210) (ldAt hL0 rfl) rfl (XS.aload X2146.here hx rfl (hb hby at_212) (ldAt hL0 rfl) rfl k))) ?_
  obtain ⟨_, _, ⟨T2148, L2148q, k2148, n2148⟩, -, X2148, ⟨Lc2148, hQ2148, l2148, y2148, z2148⟩, st2148⟩ := X2146.specialBack hx (y := (⟨"com/example/limpet/limpet/group/Member", "<init>", "(Ljava/lang/String;Ljava/lang/String;)V"⟩ : MethodName)) rfl hown (mvT hZ (tw hw 104 rfl)) (mvT hZ (tw hw 105 rfl)) (mvT hZ (tw hw 106 rfl)) (by decide) (backOf (W := 1) (rm16n l Z a0 hw [] b2146 b17_t0 .null .null .null ((.int (0 : Int32))) .null ((.int (0 : Int32))) ((.int (0 : Int32))) ((.long (0 : Int64))) .null .null h2146 n0 Zc2147 F2146_assignment F2146_id F2146_instanceId F2146_generation F2146_protocols F2146_sess2 F2146_reba3 F2146_sess4 F2146_pendingJoin F2146_pendingSync A2146 g_b2146) hZ (tw hw 106 rfl) (tw hw 103 rfl) (by decide) (by decide)) (g := (mkF m 214 L0 [.null, (.ref b17_t0), (.ref b2146), (.ref b2146)])) rfl (szAt hml hL0 rfl) (Steps.refl _) (a := b2146) (argsL := [(.ref b17_t0), .null]) (rest := [(.ref b2146)]) (lenOf pd_0s206_13_0 rfl) rfl (by show 2 * 0 + _ ≤ _; exact Nat.le_of_eq rfl) (hb hby at_214) (fun _ _ => ⟨rfl, e2146, (by decide : 14 + 1 ≤ _), (by decide : 47 + 0 ≤ _)⟩)
  dsimp only [Pt.U, Pt.locs, Pt.cells, Pt.slots] at X2148 l2148 y2148 z2148 st2148 hQ2148
  subst l2148 y2148 z2148
  obtain ⟨b2148_t0, k2148_kx_t0, rfl, N2148q, Kc2148, fq2148_0, fq2148_1, fq2148_2, fq2148_3, fq2148_4, fq2148_5, fq2148_6, fq2148_7, fq2148_8, fq2148_9, fq2148_10, fq2148_11, fq2148_12, fq2148_13⟩ := hQ2148
  have g_b2148_t0 : n0 ≤ b2148_t0 := Nat.le_trans Zc2147 fq2148_0
  have lt_b2148_t0 := fq2148_12.lt
  have Zc2149 : n0 ≤ T2148.heap.size := Nat.le_trans Zc2147 Kc2148.1
  have N2148 := Fr.app N0 N2148q
  refine Gl.st (B := (T2148.setTop (mkF m 217 L0 [(.ref b2146)]))) (fun t k => st2148.trans k) ?_
  obtain ⟨L2150, hL2150⟩ : ∃ z : Array Slot, z = #[.val (.int p1), .val (.int p2), .val (.int p3), .val (.int p4), .val (.long q5), .second, .val (.int p6), .val (.int (0 : Int32)), .val (.int w8e), od9, .val (.ref b11_t0), .val (.ref b17_t0), .val .null, .val (.int y13_92_86), .val (.int y14_99_88), .val (.ref b91), .val (.ref b1098), .val (.ref b1119), .val (.ref b1134), .val (.ref b1140), .val (.ref b2146), .unset, .unset] := ⟨_, rfl⟩
  refine Gl.st (B := (T2148.setTop (mkF m 219 L2150 []))) (fun t k => XS.astore X2148.here hx rfl (hb hby at_217) rfl rfl (l' := L2150) (stAt hL0 hL2150 rfl rfl) k) ?_
  obtain ⟨T2151, h2151, X2151, e2151, E2151, A2151, D2151, -, st2151⟩ := newO X2148 hx hZ hown (tw hw 101 rfl) (tw hw 102 rfl) (tw hw 103 rfl) rfl (g := (mkF m 219 L2150 [])) rfl (hb hby at_219) (by decide) (by decide)
  obtain ⟨b2151, gq2151⟩ : ∃ z, z = T2148.heap.size := ⟨_, rfl⟩
  rw [← gq2151] at A2151 D2151 st2151
  have g_b2151 : n0 ≤ b2151 := Nat.le_trans Zc2149 (Nat.le_of_eq gq2151.symm)
  have lt_b2151 := A2151.lt
  have Zc2152 : n0 ≤ h2151.size := Nat.le_trans Zc2149 E2151.1
  have F2151_assignment : Fld Z h2151 b2151 "com/example/limpet/limpet/group/Member" "assignment" "[B" .null := D2151 (Or.inl (tw hw 109 rfl)) (ty := (.array .byte)) (by decide)
  have F2151_id : Fld Z h2151 b2151 "com/example/limpet/limpet/group/Member" "id" "Ljava/lang/String;" .null := D2151 (Or.inr (tw hw 111 rfl)) (ty := (.object "java/lang/String")) (by decide)
  have F2151_instanceId : Fld Z h2151 b2151 "com/example/limpet/limpet/group/Member" "instanceId" "Ljava/lang/String;" .null := D2151 (Or.inr (tw hw 113 rfl)) (ty := (.object "java/lang/String")) (by decide)
  have F2151_generation : Fld Z h2151 b2151 "com/example/limpet/limpet/group/Member" "generation" "I" (.int (0 : Int32)) := D2151 (Or.inl (tw hw 115 rfl)) (ty := .int) (by decide)
  have F2151_protocols : Fld Z h2151 b2151 "com/example/limpet/limpet/group/Member" "protocols" "Ljava/util/List;" .null := D2151 (Or.inl (tw hw 118 rfl)) (ty := (.object "java/util/List")) (by decide)
  have F2151_sess2 : Fld Z h2151 b2151 "com/example/limpet/limpet/group/Member" "sessionTimeoutMs" "I" (.int (0 : Int32)) := D2151 (Or.inl (tw hw 120 rfl)) (ty := .int) (by decide)
  have F2151_reba3 : Fld Z h2151 b2151 "com/example/limpet/limpet/group/Member" "rebalanceTimeoutMs" "I" (.int (0 : Int32)) := D2151 (Or.inl (tw hw 122 rfl)) (ty := .int) (by decide)
  have F2151_sess4 : Fld Z h2151 b2151 "com/example/limpet/limpet/group/Member" "sessionDeadline" "J" (.long (0 : Int64)) := D2151 (Or.inl (tw hw 125 rfl)) (ty := .long) (by decide)
  have F2151_pendingJoin : Fld Z h2151 b2151 "com/example/limpet/limpet/group/Member" "pendingJoin" "Ljava/util/function/Consumer;" .null := D2151 (Or.inl (tw hw 174 rfl)) (ty := (.object "java/util/function/Consumer")) (by decide)
  have F2151_pendingSync : Fld Z h2151 b2151 "com/example/limpet/limpet/group/Member" "pendingSync" "Ljava/util/function/Consumer;" .null := D2151 (Or.inl (tw hw 176 rfl)) (ty := (.object "java/util/function/Consumer")) (by decide)
  refine Gl.st (B := (T2151.setTop (mkF m 222 L2150 [(.ref b2151)]))) st2151 ?_
  refine Gl.st (B := (T2151.setTop (mkF m 227 L2150 [.null, (.ref b11_t0), (.ref b2151), (.ref b2151)]))) (fun t k => XS.dup X2151.here hx rfl (hb hby at_222) rfl rfl (XS.aload X2151.here hx rfl (hb hby at_223) (ldAt hL2150 rfl) rfl (XS.aload X2151.here hx rfl (hb hby at_225) (ldAt hL2150 rfl) rfl k))) ?_
  obtain ⟨_, _, ⟨T2153, L2153q, k2153, n2153⟩, -, X2153, ⟨Lc2153, hQ2153, l2153, y2153, z2153⟩, st2153⟩ := X2151.specialBack hx (y := (⟨"com/example/limpet/limpet/group/Member", "<init>", "(Ljava/lang/String;Ljava/lang/String;)V"⟩ : MethodName)) rfl hown (mvT hZ (tw hw 104 rfl)) (mvT hZ (tw hw 105 rfl)) (mvT hZ (tw hw 106 rfl)) (by decide) (backOf (W := 1) (rm16n l Z a0 hw [] b2151 b11_t0 .null .null .null ((.int (0 : Int32))) .null ((.int (0 : Int32))) ((.int (0 : Int32))) ((.long (0 : Int64))) .null .null h2151 n0 Zc2152 F2151_assignment F2151_id F2151_instanceId F2151_generation F2151_protocols F2151_sess2 F2151_reba3 F2151_sess4 F2151_pendingJoin F2151_pendingSync A2151 g_b2151) hZ (tw hw 106 rfl) (tw hw 103 rfl) (by decide) (by decide)) (g := (mkF m 227 L2150 [.null, (.ref b11_t0), (.ref b2151), (.ref b2151)])) rfl (szAt hml hL2150 rfl) (Steps.refl _) (a := b2151) (argsL := [(.ref b11_t0), .null]) (rest := [(.ref b2151)]) (lenOf pd_0s206_13_0 rfl) rfl (by show 2 * 0 + _ ≤ _; exact Nat.le_of_eq rfl) (hb hby at_227) (fun _ _ => ⟨rfl, e2151, (by decide : 16 + 1 ≤ _), (by decide : 57 + 0 ≤ _)⟩)
  dsimp only [Pt.U, Pt.locs, Pt.cells, Pt.slots] at X2153 l2153 y2153 z2153 st2153 hQ2153
  subst l2153 y2153 z2153
  obtain ⟨b2153_t0, k2153_kx_t0, rfl, N2153q, Kc2153, fq2153_0, fq2153_1, fq2153_2, fq2153_3, fq2153_4, fq2153_5, fq2153_6, fq2153_7, fq2153_8, fq2153_9, fq2153_10, fq2153_11, fq2153_12, fq2153_13⟩ := hQ2153
  have g_b2153_t0 : n0 ≤ b2153_t0 := Nat.le_trans Zc2152 fq2153_0
  have lt_b2153_t0 := fq2153_12.lt
  have Zc2154 : n0 ≤ T2153.heap.size := Nat.le_trans Zc2152 Kc2153.1
  have N2153 := Fr.app N2148 N2153q
  refine Gl.st (B := (T2153.setTop (mkF m 230 L2150 [(.ref b2151)]))) (fun t k => st2153.trans k) ?_
  obtain ⟨L2155, hL2155⟩ : ∃ z : Array Slot, z = #[.val (.int p1), .val (.int p2), .val (.int p3), .val (.int p4), .val (.long q5), .second, .val (.int p6), .val (.int (0 : Int32)), .val (.int w8e), od9, .val (.ref b11_t0), .val (.ref b17_t0), .val .null, .val (.int y13_92_86), .val (.int y14_99_88), .val (.ref b91), .val (.ref b1098), .val (.ref b1119), .val (.ref b1134), .val (.ref b1140), .val (.ref b2146), .val (.ref b2151), .unset] := ⟨_, rfl⟩
  refine Gl.st (B := (T2153.setTop (mkF m 235 L2155 [(.int p1), (.ref b2146)]))) (fun t k => XS.astore X2153.here hx rfl (hb hby at_230) rfl rfl (l' := L2155) (stAt hL2150 hL2155 rfl rfl) (XS.aload X2153.here hx rfl (hb hby at_232) (ldAt hL2155 rfl) rfl (XS.iloadN X2153.here hx rfl (hb hby at_234) (ldAt hL2155 rfl) k))) ?_
  have c2156 := ((fq2148_1.ext E2151).keep Kc2153)
  have ne_b2146_b2151_2157 : b2146 ≠ b2151 := Nat.ne_of_lt (Nat.lt_of_lt_of_le lt_b2146 (Nat.le_trans Kc2148.1 (Nat.le_of_eq gq2151.symm)))
  have c2158 := ((fq2148_3.ext E2151).keep Kc2153 (ninS ne_b2146_b2151_2157 nin0))
  obtain ⟨T2159, h2159, X2159, e2159, W2159, st2159⟩ := putF X2153 hx hZ hown (host := "") (Or.inl (tw hw 114 rfl)) Via.refl rfl c2158 c2156 (Or.inl (tw hw 115 rfl)) (tw hw 102 rfl) (ty := .int) (by decide) rfl rfl (g := (mkF m 235 L2155 [(.int p1), (.ref b2146)])) rfl rfl (hb hby at_235)
  have Fw2159 := c2158.same W2159
  have Zc2160 : n0 ≤ h2159.size := Nat.le_trans Zc2154 (Nat.le_of_eq W2159.size.symm)
  have N2159 := Fr.snoc X2159 N2153 g_b2146
  refine Gl.st (B := (T2159.setTop (mkF m 238 L2155 []))) st2159 ?_
  refine Gl.st (B := (T2159.setTop (mkF m 242 L2155 [(.ref b91), (.ref b2146)]))) (fun t k => XS.aload X2159.here hx rfl (hb hby at_238) (ldAt hL2155 rfl) rfl (XS.aload X2159.here hx rfl (hb hby at_240) (ldAt hL2155 rfl) rfl k)) ?_
  have c2161 := (c2156.wr W2159)
  have c2162 := (((fq2148_2.ext E2151).keep Kc2153 (ninS ne_b2146_b2151_2157 nin0)).other W2159 (Or.inr (sn39 hw)))
  obtain ⟨T2163, h2163, X2163, e2163, W2163, st2163⟩ := putF X2159 hx hZ hown (host := "") (Or.inl (tw hw 116 rfl)) Via.refl e2159 c2162 c2161 (Or.inl (tw hw 109 rfl)) (tw hw 102 rfl) (ty := (.array .byte)) (by decide) rfl rfl (g := (mkF m 242 L2155 [(.ref b91), (.ref b2146)])) rfl rfl (hb hby at_242)
  have Fw2163 := c2162.same W2163
  have Zc2164 : n0 ≤ h2163.size := Nat.le_trans Zc2160 (Nat.le_of_eq W2163.size.symm)
  have N2163 := Fr.snoc X2163 N2159 g_b2146
  refine Gl.st (B := (T2163.setTop (mkF m 245 L2155 []))) st2163 ?_
  refine Gl.st (B := (T2163.setTop (mkF m 249 L2155 [(.ref b1119), (.ref b2146)]))) (fun t k => XS.aload X2163.here hx rfl (hb hby at_245) (ldAt hL2155 rfl) rfl (XS.aload X2163.here hx rfl (hb hby at_247) (ldAt hL2155 rfl) rfl k)) ?_
  have c2165 := (c2161.wr W2163)
  have c2166 := ((((fq2148_8.ext E2151).keep Kc2153 (ninS ne_b2146_b2151_2157 nin0)).other W2159 (Or.inr (sn48 hw))).other W2163 (Or.inr (sn25 hw)))
  obtain ⟨T2167, h2167, X2167, e2167, W2167, st2167⟩ := putF X2163 hx hZ hown (host := "") (Or.inl (tw hw 117 rfl)) Via.refl e2163 c2166 c2165 (Or.inl (tw hw 118 rfl)) (tw hw 102 rfl) (ty := (.object "java/util/List")) (by decide) rfl rfl (g := (mkF m 249 L2155 [(.ref b1119), (.ref b2146)])) rfl rfl (hb hby at_249)
  have Fw2167 := c2166.same W2167
  have Zc2168 : n0 ≤ h2167.size := Nat.le_trans Zc2164 (Nat.le_of_eq W2167.size.symm)
  have N2167 := Fr.snoc X2167 N2163 g_b2146
  refine Gl.st (B := (T2167.setTop (mkF m 252 L2155 []))) st2167 ?_
  refine Gl.st (B := (T2167.setTop (mkF m 257 L2155 [(.int (p3 ^^^ (-1 : Int32))), (.ref b2146)]))) (fun t k => XS.aload X2167.here hx rfl (hb hby at_252) (ldAt hL2155 rfl) rfl (XS.iloadN X2167.here hx rfl (hb hby at_254) (ldAt hL2155 rfl) (XS.iconst X2167.here hx rfl (hb hby at_255) (XS.ixor X2167.here hx rfl (hb hby at_256) rfl k)))) ?_
  obtain ⟨x257_2169, hx257_2169⟩ : ∃ z : Int32, z = (p3 ^^^ (-1 : Int32)) := ⟨_, rfl⟩
  refine Gl.cast (B := (T2167.setTop (mkF m 257 L2155 [(.int x257_2169), (.ref b2146)]))) (by rw [hx257_2169]) ?_
  have c2170 := (c2165.wr W2167)
  have c2171 := (((((fq2148_11.ext E2151).keep Kc2153 (ninS ne_b2146_b2151_2157 nin0)).other W2159 (Or.inr (sn54 hw))).other W2163 (Or.inr (sn34 hw))).other W2167 (Or.inr (sn53 hw)))
  obtain ⟨T2172, h2172, X2172, e2172, W2172, st2172⟩ := putF X2167 hx hZ hown (host := "") (Or.inl (tw hw 119 rfl)) Via.refl e2167 c2171 c2170 (Or.inl (tw hw 120 rfl)) (tw hw 102 rfl) (ty := .int) (by decide) rfl rfl (g := (mkF m 257 L2155 [(.int x257_2169), (.ref b2146)])) rfl rfl (hb hby at_257)
  have Fw2172 := c2171.same W2172
  have Zc2173 : n0 ≤ h2172.size := Nat.le_trans Zc2168 (Nat.le_of_eq W2172.size.symm)
  have N2172 := Fr.snoc X2172 N2167 g_b2146
  refine Gl.st (B := (T2172.setTop (mkF m 260 L2155 []))) st2172 ?_
  refine Gl.st (B := (T2172.setTop (mkF m 265 L2155 [(.int (p4 ^^^ (-1 : Int32))), (.ref b2146)]))) (fun t k => XS.aload X2172.here hx rfl (hb hby at_260) (ldAt hL2155 rfl) rfl (XS.iloadN X2172.here hx rfl (hb hby at_262) (ldAt hL2155 rfl) (XS.iconst X2172.here hx rfl (hb hby at_263) (XS.ixor X2172.here hx rfl (hb hby at_264) rfl k)))) ?_
  obtain ⟨x265_2174, hx265_2174⟩ : ∃ z : Int32, z = (p4 ^^^ (-1 : Int32)) := ⟨_, rfl⟩
  refine Gl.cast (B := (T2172.setTop (mkF m 265 L2155 [(.int x265_2174), (.ref b2146)]))) (by rw [hx265_2174]) ?_
  have c2175 := (c2170.wr W2172)
  have c2176 := ((((((fq2148_9.ext E2151).keep Kc2153 (ninS ne_b2146_b2151_2157 nin0)).other W2159 (Or.inr (sn50 hw))).other W2163 (Or.inr (sn28 hw))).other W2167 (Or.inr (sn49 hw))).other W2172 (Or.inr (sn55 hw)))
  obtain ⟨T2177, h2177, X2177, e2177, W2177, st2177⟩ := putF X2172 hx hZ hown (host := "") (Or.inl (tw hw 121 rfl)) Via.refl e2172 c2176 c2175 (Or.inl (tw hw 122 rfl)) (tw hw 102 rfl) (ty := .int) (by decide) rfl rfl (g := (mkF m 265 L2155 [(.int x265_2174), (.ref b2146)])) rfl rfl (hb hby at_265)
  have Fw2177 := c2176.same W2177
  have Zc2178 : n0 ≤ h2177.size := Nat.le_trans Zc2173 (Nat.le_of_eq W2177.size.symm)
  have N2177 := Fr.snoc X2177 N2172 g_b2146
  refine Gl.st (B := (T2177.setTop (mkF m 268 L2155 []))) st2177 ?_
  refine Gl.st (B := (T2177.setTop (mkF m 276 L2155 [(.long (q5 ^^^ (-1 : Int64))), (.ref b2146)]))) (fun t k => XS.aload X2177.here hx rfl (hb hby at_268) (ldAt hL2155 rfl) rfl (XS.lload X2177.here hx rfl (hb hby at_270) (ldAt hL2155 rfl) (X2177.ldc2Long hx hown (mvT hZ (tw hw 123 rfl)) (g := (mkF m 272 L2155 [(.long q5), (.ref b2146)])) rfl (hb hby at_272) _ (XS.lxor X2177.here hx rfl (hb hby at_275) rfl k)))) ?_
  obtain ⟨x276_2179, hx276_2179⟩ : ∃ z : Int64, z = (q5 ^^^ (-1 : Int64)) := ⟨_, rfl⟩
  refine Gl.cast (B := (T2177.setTop (mkF m 276 L2155 [(.long x276_2179), (.ref b2146)]))) (by rw [hx276_2179]) ?_
  have c2180 := (c2175.wr W2177)
  have c2181 := (((((((fq2148_10.ext E2151).keep Kc2153 (ninS ne_b2146_b2151_2157 nin0)).other W2159 (Or.inr (sn52 hw))).other W2163 (Or.inr (sn31 hw))).other W2167 (Or.inr (sn51 hw))).other W2172 (Or.inr (sn56 hw))).other W2177 (Or.inr (sn57 hw)))
  obtain ⟨T2182, h2182, X2182, e2182, W2182, st2182⟩ := putF X2177 hx hZ hown (host := "") (Or.inl (tw hw 124 rfl)) Via.refl e2177 c2181 c2180 (Or.inl (tw hw 125 rfl)) (tw hw 102 rfl) (ty := .long) (by decide) rfl rfl (g := (mkF m 276 L2155 [(.long x276_2179), (.ref b2146)])) rfl rfl (hb hby at_276)
  have Fw2182 := c2181.same W2182
  have Zc2183 : n0 ≤ h2182.size := Nat.le_trans Zc2178 (Nat.le_of_eq W2182.size.symm)
  have N2182 := Fr.snoc X2182 N2177 g_b2146
  refine Gl.st (B := (T2182.setTop (mkF m 279 L2155 []))) st2182 ?_
  refine Gl.st (B := (T2182.setTop (mkF m 282 L2155 [(.int p2), (.ref b2151)]))) (fun t k => XS.aload X2182.here hx rfl (hb hby at_279) (ldAt hL2155 rfl) rfl (XS.iloadN X2182.here hx rfl (hb hby at_281) (ldAt hL2155 rfl) k)) ?_
  have c2184 := ((((((fq2153_1.wr W2159).wr W2163).wr W2167).wr W2172).wr W2177).wr W2182)
  have c2185 := ((((((fq2153_3.other W2159 (Or.inl (Ne.symm ne_b2146_b2151_2157))).other W2163 (Or.inl (Ne.symm ne_b2146_b2151_2157))).other W2167 (Or.inl (Ne.symm ne_b2146_b2151_2157))).other W2172 (Or.inl (Ne.symm ne_b2146_b2151_2157))).other W2177 (Or.inl (Ne.symm ne_b2146_b2151_2157))).other W2182 (Or.inl (Ne.symm ne_b2146_b2151_2157)))
  obtain ⟨T2186, h2186, X2186, e2186, W2186, st2186⟩ := putF X2182 hx hZ hown (host := "") (Or.inl (tw hw 114 rfl)) Via.refl e2182 c2185 c2184 (Or.inl (tw hw 115 rfl)) (tw hw 102 rfl) (ty := .int) (by decide) rfl rfl (g := (mkF m 282 L2155 [(.int p2), (.ref b2151)])) rfl rfl (hb hby at_282)
  have Fw2186 := c2185.same W2186
  have Zc2187 : n0 ≤ h2186.size := Nat.le_trans Zc2183 (Nat.le_of_eq W2186.size.symm)
  have N2186 := Fr.snoc X2186 N2182 g_b2151
  refine Gl.st (B := (T2186.setTop (mkF m 285 L2155 []))) st2186 ?_
  refine Gl.st (B := (T2186.setTop (mkF m 289 L2155 [(.ref b1140), (.ref b2151)]))) (fun t k => XS.aload X2186.here hx rfl (hb hby at_285) (ldAt hL2155 rfl) rfl (XS.aload X2186.here hx rfl (hb hby at_287) (ldAt hL2155 rfl) rfl k)) ?_
  have c2188 := (c2184.wr W2186)
  have c2189 := (((((((fq2153_2.other W2159 (Or.inl (Ne.symm ne_b2146_b2151_2157))).other W2163 (Or.inl (Ne.symm ne_b2146_b2151_2157))).other W2167 (Or.inl (Ne.symm ne_b2146_b2151_2157))).other W2172 (Or.inl (Ne.symm ne_b2146_b2151_2157))).other W2177 (Or.inl (Ne.symm ne_b2146_b2151_2157))).other W2182 (Or.inl (Ne.symm ne_b2146_b2151_2157))).other W2186 (Or.inr (sn39 hw)))
  obtain ⟨T2190, h2190, X2190, e2190, W2190, st2190⟩ := putF X2186 hx hZ hown (host := "") (Or.inl (tw hw 116 rfl)) Via.refl e2186 c2189 c2188 (Or.inl (tw hw 109 rfl)) (tw hw 102 rfl) (ty := (.array .byte)) (by decide) rfl rfl (g := (mkF m 289 L2155 [(.ref b1140), (.ref b2151)])) rfl rfl (hb hby at_289)
  have Fw2190 := c2189.same W2190
  have Zc2191 : n0 ≤ h2190.size := Nat.le_trans Zc2187 (Nat.le_of_eq W2190.size.symm)
  have N2190 := Fr.snoc X2190 N2186 g_b2151
  refine Gl.st (B := (T2190.setTop (mkF m 292 L2155 []))) st2190 ?_
  refine Gl.st (B := (T2190.setTop (mkF m 296 L2155 [(.ref b1134), (.ref b2151)]))) (fun t k => XS.aload X2190.here hx rfl (hb hby at_292) (ldAt hL2155 rfl) rfl (XS.aload X2190.here hx rfl (hb hby at_294) (ldAt hL2155 rfl) rfl k)) ?_
  have c2192 := (c2188.wr W2190)
  have c2193 := ((((((((fq2153_8.other W2159 (Or.inl (Ne.symm ne_b2146_b2151_2157))).other W2163 (Or.inl (Ne.symm ne_b2146_b2151_2157))).other W2167 (Or.inl (Ne.symm ne_b2146_b2151_2157))).other W2172 (Or.inl (Ne.symm ne_b2146_b2151_2157))).other W2177 (Or.inl (Ne.symm ne_b2146_b2151_2157))).other W2182 (Or.inl (Ne.symm ne_b2146_b2151_2157))).other W2186 (Or.inr (sn48 hw))).other W2190 (Or.inr (sn25 hw)))
  obtain ⟨T2194, h2194, X2194, e2194, W2194, st2194⟩ := putF X2190 hx hZ hown (host := "") (Or.inl (tw hw 117 rfl)) Via.refl e2190 c2193 c2192 (Or.inl (tw hw 118 rfl)) (tw hw 102 rfl) (ty := (.object "java/util/List")) (by decide) rfl rfl (g := (mkF m 296 L2155 [(.ref b1134), (.ref b2151)])) rfl rfl (hb hby at_296)
  have Fw2194 := c2193.same W2194
  have Zc2195 : n0 ≤ h2194.size := Nat.le_trans Zc2191 (Nat.le_of_eq W2194.size.symm)
  have N2194 := Fr.snoc X2194 N2190 g_b2151
  refine Gl.st (B := (T2194.setTop (mkF m 299 L2155 []))) st2194 ?_
  refine Gl.st (B := (T2194.setTop (mkF m 302 L2155 [(.int p3), (.ref b2151)]))) (fun t k => XS.aload X2194.here hx rfl (hb hby at_299) (ldAt hL2155 rfl) rfl (XS.iloadN X2194.here hx rfl (hb hby at_301) (ldAt hL2155 rfl) k)) ?_
  have c2196 := (c2192.wr W2194)
  have c2197 := (((((((((fq2153_11.other W2159 (Or.inl (Ne.symm ne_b2146_b2151_2157))).other W2163 (Or.inl (Ne.symm ne_b2146_b2151_2157))).other W2167 (Or.inl (Ne.symm ne_b2146_b2151_2157))).other W2172 (Or.inl (Ne.symm ne_b2146_b2151_2157))).other W2177 (Or.inl (Ne.symm ne_b2146_b2151_2157))).other W2182 (Or.inl (Ne.symm ne_b2146_b2151_2157))).other W2186 (Or.inr (sn54 hw))).other W2190 (Or.inr (sn34 hw))).other W2194 (Or.inr (sn53 hw)))
  obtain ⟨T2198, h2198, X2198, e2198, W2198, st2198⟩ := putF X2194 hx hZ hown (host := "") (Or.inl (tw hw 119 rfl)) Via.refl e2194 c2197 c2196 (Or.inl (tw hw 120 rfl)) (tw hw 102 rfl) (ty := .int) (by decide) rfl rfl (g := (mkF m 302 L2155 [(.int p3), (.ref b2151)])) rfl rfl (hb hby at_302)
  have Fw2198 := c2197.same W2198
  have Zc2199 : n0 ≤ h2198.size := Nat.le_trans Zc2195 (Nat.le_of_eq W2198.size.symm)
  have N2198 := Fr.snoc X2198 N2194 g_b2151
  refine Gl.st (B := (T2198.setTop (mkF m 305 L2155 []))) st2198 ?_
  refine Gl.st (B := (T2198.setTop (mkF m 308 L2155 [(.int p4), (.ref b2151)]))) (fun t k => XS.aload X2198.here hx rfl (hb hby at_305) (ldAt hL2155 rfl) rfl (XS.iloadN X2198.here hx rfl (hb hby at_307) (ldAt hL2155 rfl) k)) ?_
  have c2200 := (c2196.wr W2198)
  have c2201 := ((((((((((fq2153_9.other W2159 (Or.inl (Ne.symm ne_b2146_b2151_2157))).other W2163 (Or.inl (Ne.symm ne_b2146_b2151_2157))).other W2167 (Or.inl (Ne.symm ne_b2146_b2151_2157))).other W2172 (Or.inl (Ne.symm ne_b2146_b2151_2157))).other W2177 (Or.inl (Ne.symm ne_b2146_b2151_2157))).other W2182 (Or.inl (Ne.symm ne_b2146_b2151_2157))).other W2186 (Or.inr (sn50 hw))).other W2190 (Or.inr (sn28 hw))).other W2194 (Or.inr (sn49 hw))).other W2198 (Or.inr (sn55 hw)))
  obtain ⟨T2202, h2202, X2202, e2202, W2202, st2202⟩ := putF X2198 hx hZ hown (host := "") (Or.inl (tw hw 121 rfl)) Via.refl e2198 c2201 c2200 (Or.inl (tw hw 122 rfl)) (tw hw 102 rfl) (ty := .int) (by decide) rfl rfl (g := (mkF m 308 L2155 [(.int p4), (.ref b2151)])) rfl rfl (hb hby at_308)
  have Fw2202 := c2201.same W2202
  have Zc2203 : n0 ≤ h2202.size := Nat.le_trans Zc2199 (Nat.le_of_eq W2202.size.symm)
  have N2202 := Fr.snoc X2202 N2198 g_b2151
  refine Gl.st (B := (T2202.setTop (mkF m 311 L2155 []))) st2202 ?_
  refine Gl.st (B := (T2202.setTop (mkF m 315 L2155 [(.long q5), (.ref b2151)]))) (fun t k => XS.aload X2202.here hx rfl (hb hby at_311) (ldAt hL2155 rfl) rfl (XS.lload X2202.here hx rfl (hb hby at_313) (ldAt hL2155 rfl) k)) ?_
  have c2204 := (c2200.wr W2202)
  have c2205 := (((((((((((fq2153_10.other W2159 (Or.inl (Ne.symm ne_b2146_b2151_2157))).other W2163 (Or.inl (Ne.symm ne_b2146_b2151_2157))).other W2167 (Or.inl (Ne.symm ne_b2146_b2151_2157))).other W2172 (Or.inl (Ne.symm ne_b2146_b2151_2157))).other W2177 (Or.inl (Ne.symm ne_b2146_b2151_2157))).other W2182 (Or.inl (Ne.symm ne_b2146_b2151_2157))).other W2186 (Or.inr (sn52 hw))).other W2190 (Or.inr (sn31 hw))).other W2194 (Or.inr (sn51 hw))).other W2198 (Or.inr (sn56 hw))).other W2202 (Or.inr (sn57 hw)))
  obtain ⟨T2206, h2206, X2206, e2206, W2206, st2206⟩ := putF X2202 hx hZ hown (host := "") (Or.inl (tw hw 124 rfl)) Via.refl e2202 c2205 c2204 (Or.inl (tw hw 125 rfl)) (tw hw 102 rfl) (ty := .long) (by decide) rfl rfl (g := (mkF m 315 L2155 [(.long q5), (.ref b2151)])) rfl rfl (hb hby at_315)
  have Fw2206 := c2205.same W2206
  have Zc2207 : n0 ≤ h2206.size := Nat.le_trans Zc2203 (Nat.le_of_eq W2206.size.symm)
  have N2206 := Fr.snoc X2206 N2202 g_b2151
  refine Gl.st (B := (T2206.setTop (mkF m 318 L2155 []))) st2206 ?_
  refine Gl.st (B := (T2206.setTop (mkF m 322 L2155 [(.ref b2146), (.ref b2151)]))) (fun t k => XS.aload X2206.here hx rfl (hb hby at_318) (ldAt hL2155 rfl) rfl (XS.aload X2206.here hx rfl (hb hby at_320) (ldAt hL2155 rfl) rfl k)) ?_
  have c2209 := ((((Fw2190.other W2194 (Or.inr (sn37 hw))).other W2198 (Or.inr (sn58 hw))).other W2202 (Or.inr (sn59 hw))).other W2206 (Or.inr (sn60 hw)))
  have c2210 := ((((((((((((fq2153_4.other W2159 (Or.inl (Ne.symm ne_b2146_b2151_2157))).other W2163 (Or.inl (Ne.symm ne_b2146_b2151_2157))).other W2167 (Or.inl (Ne.symm ne_b2146_b2151_2157))).other W2172 (Or.inl (Ne.symm ne_b2146_b2151_2157))).other W2177 (Or.inl (Ne.symm ne_b2146_b2151_2157))).other W2182 (Or.inl (Ne.symm ne_b2146_b2151_2157))).other W2186 (Or.inr (sn41 hw))).other W2190 (Or.inr (sn10 hw))).other W2194 (Or.inr (sn40 hw))).other W2198 (Or.inr (sn61 hw))).other W2202 (Or.inr (sn62 hw))).other W2206 (Or.inr (sn63 hw)))
  have c2211 := ((((((((((((fq2153_5.other W2159 (Or.inl (Ne.symm ne_b2146_b2151_2157))).other W2163 (Or.inl (Ne.symm ne_b2146_b2151_2157))).other W2167 (Or.inl (Ne.symm ne_b2146_b2151_2157))).other W2172 (Or.inl (Ne.symm ne_b2146_b2151_2157))).other W2177 (Or.inl (Ne.symm ne_b2146_b2151_2157))).other W2182 (Or.inl (Ne.symm ne_b2146_b2151_2157))).other W2186 (Or.inr (sn43 hw))).other W2190 (Or.inr (sn11 hw))).other W2194 (Or.inr (sn42 hw))).other W2198 (Or.inr (sn64 hw))).other W2202 (Or.inr (sn65 hw))).other W2206 (Or.inr (sn66 hw)))
  have c2212 := (((((Fw2186.other W2190 (Or.inr (sn15 hw))).other W2194 (Or.inr (sn38 hw))).other W2198 (Or.inr (sn67 hw))).other W2202 (Or.inr (sn68 hw))).other W2206 (Or.inr (sn69 hw)))
  have c2213 := (((Fw2194.other W2198 (Or.inr (sn70 hw))).other W2202 (Or.inr (sn71 hw))).other W2206 (Or.inr (sn72 hw)))
  have c2214 := ((Fw2198.other W2202 (Or.inr (sn73 hw))).other W2206 (Or.inr (sn74 hw)))
  have c2215 := (Fw2202.other W2206 (Or.inr (sn75 hw)))
  have c2216 := ((((((((((((fq2153_6.other W2159 (Or.inl (Ne.symm ne_b2146_b2151_2157))).other W2163 (Or.inl (Ne.symm ne_b2146_b2151_2157))).other W2167 (Or.inl (Ne.symm ne_b2146_b2151_2157))).other W2172 (Or.inl (Ne.symm ne_b2146_b2151_2157))).other W2177 (Or.inl (Ne.symm ne_b2146_b2151_2157))).other W2182 (Or.inl (Ne.symm ne_b2146_b2151_2157))).other W2186 (Or.inr (sn45 hw))).other W2190 (Or.inr (sn19 hw))).other W2194 (Or.inr (sn44 hw))).other W2198 (Or.inr (sn76 hw))).other W2202 (Or.inr (sn77 hw))).other W2206 (Or.inr (sn78 hw)))
  have c2217 := ((((((((((((fq2153_7.other W2159 (Or.inl (Ne.symm ne_b2146_b2151_2157))).other W2163 (Or.inl (Ne.symm ne_b2146_b2151_2157))).other W2167 (Or.inl (Ne.symm ne_b2146_b2151_2157))).other W2172 (Or.inl (Ne.symm ne_b2146_b2151_2157))).other W2177 (Or.inl (Ne.symm ne_b2146_b2151_2157))).other W2182 (Or.inl (Ne.symm ne_b2146_b2151_2157))).other W2186 (Or.inr (sn47 hw))).other W2190 (Or.inr (sn22 hw))).other W2194 (Or.inr (sn46 hw))).other W2198 (Or.inr (sn79 hw))).other W2202 (Or.inr (sn80 hw))).other W2206 (Or.inr (sn81 hw)))
  have c2218 := (((((((((Fw2167.other W2172 (Or.inr (sn70 hw))).other W2177 (Or.inr (sn71 hw))).other W2182 (Or.inr (sn72 hw))).other W2186 (Or.inl ne_b2146_b2151_2157)).other W2190 (Or.inl ne_b2146_b2151_2157)).other W2194 (Or.inl ne_b2146_b2151_2157)).other W2198 (Or.inl ne_b2146_b2151_2157)).other W2202 (Or.inl ne_b2146_b2151_2157)).other W2206 (Or.inl ne_b2146_b2151_2157))
  have c2219 := ((((((((((Fw2163.other W2167 (Or.inr (sn37 hw))).other W2172 (Or.inr (sn58 hw))).other W2177 (Or.inr (sn59 hw))).other W2182 (Or.inr (sn60 hw))).other W2186 (Or.inl ne_b2146_b2151_2157)).other W2190 (Or.inl ne_b2146_b2151_2157)).other W2194 (Or.inl ne_b2146_b2151_2157)).other W2198 (Or.inl ne_b2146_b2151_2157)).other W2202 (Or.inl ne_b2146_b2151_2157)).other W2206 (Or.inl ne_b2146_b2151_2157))
  have c2220 := (((((((((((Fw2159.other W2163 (Or.inr (sn15 hw))).other W2167 (Or.inr (sn38 hw))).other W2172 (Or.inr (sn67 hw))).other W2177 (Or.inr (sn68 hw))).other W2182 (Or.inr (sn69 hw))).other W2186 (Or.inl ne_b2146_b2151_2157)).other W2190 (Or.inl ne_b2146_b2151_2157)).other W2194 (Or.inl ne_b2146_b2151_2157)).other W2198 (Or.inl ne_b2146_b2151_2157)).other W2202 (Or.inl ne_b2146_b2151_2157)).other W2206 (Or.inl ne_b2146_b2151_2157))
  have c2221 := (c2204.wr W2206)
  obtain ⟨cq2208, kq2208, q2208a, q2208b, q2208c⟩ := isOf hZ e2206 c2221
  obtain ⟨_, _, ⟨T2208, L2208q, k2208, n2208⟩, -, X2208, ⟨Lc2208, hQ2208, l2208, y2208, z2208⟩, st2208⟩ := X2206.virtualBack hx (y := (⟨"com/example/limpet/limpet/group/Member", "takeOver", "(Lcom/example/limpet/limpet/group/Member;)V"⟩ : MethodName)) (z := (⟨"com/example/limpet/limpet/group/Member", "takeOver", "(Lcom/example/limpet/limpet/group/Member;)V"⟩ : MethodName)) hown (mvT hZ (tw hw 126 rfl)) (mvT hZ (tw hw 127 rfl)) (notFace_of_selects (args := #[]) (mvT hZ (tw hw 129 rfl))) (mvT hZ (tw hw 129 rfl)) (mvT hZ (tw hw 128 rfl)) (by decide) (backOf (W := 0) (rm17 l Z a0 hw [] b2151 b2146 ((.ref b1140)) ((.ref b11_t0)) .null ((.int p2)) ((.ref b1134)) ((.int p3)) ((.int p4)) ((.long q5)) .null .null b1119 b91 p1 h2206 n0 Zc2207 c2209 c2210 c2211 c2212 c2213 c2214 c2215 Fw2206 c2216 c2217 c2218 c2221 g_b2151 c2219 (Ne.symm ne_b2146_b2151_2157) c2220) hZ (tw hw 130 rfl) (tw hw 103 rfl) (by decide) (by decide)) q2208a q2208c (g := (mkF m 322 L2155 [(.ref b2146), (.ref b2151)])) rfl (szAt hml hL2155 rfl) (Steps.refl _) (argsL := [(.ref b2146)]) (rest := []) (lenOf pd_0s206_13_1 rfl) rfl (by show 2 * 0 + _ ≤ _; exact Nat.le_of_eq rfl) (hb hby at_322) (fun _ _ => ⟨rfl, e2206, (by decide : 17 + 0 ≤ _), (by decide : 57 + 0 ≤ _)⟩)
  dsimp only [Pt.U, Pt.locs, Pt.cells, Pt.slots] at X2208 l2208 y2208 z2208 st2208 hQ2208
  subst l2208 y2208 z2208
  obtain ⟨rfl, N2208q, Kc2208, fq2208_0, fq2208_1, fq2208_2, fq2208_3, fq2208_4, fq2208_5, fq2208_6, fq2208_7, fq2208_8, fq2208_9, fq2208_10⟩ := hQ2208
  have Zc2222 : n0 ≤ T2208.heap.size := Nat.le_trans Zc2207 Kc2208.1
  have N2208 := Fr.app N2206 N2208q
  refine Gl.st (B := (T2208.setTop (mkF m 325 L2155 []))) (fun t k => st2208.trans k) ?_
  have ne_b1119_b2146_2223 : b1119 ≠ b2146 := Nat.ne_of_lt (Nat.lt_of_lt_of_le F_size_b1119.lt (Nat.le_of_eq gq2146.symm))
  have ne_b1119_b2151_2224 : b1119 ≠ b2151 := Nat.ne_of_lt (Nat.lt_of_lt_of_le F_size_b1119.lt (Nat.le_trans E2146.1 (Nat.le_trans Kc2148.1 (Nat.le_of_eq gq2151.symm))))
  have c2225 := (((((((((((((((((F_size_b1119.ext E2146).keep Kc2148 (ninS ne_b1119_b2146_2223 nin0)).ext E2151).keep Kc2153 (ninS ne_b1119_b2151_2224 nin0)).other W2159 (Or.inl ne_b1119_b2146_2223)).other W2163 (Or.inl ne_b1119_b2146_2223)).other W2167 (Or.inl ne_b1119_b2146_2223)).other W2172 (Or.inl ne_b1119_b2146_2223)).other W2177 (Or.inl ne_b1119_b2146_2223)).other W2182 (Or.inl ne_b1119_b2146_2223)).other W2186 (Or.inl ne_b1119_b2151_2224)).other W2190 (Or.inl ne_b1119_b2151_2224)).other W2194 (Or.inl ne_b1119_b2151_2224)).other W2198 (Or.inl ne_b1119_b2151_2224)).other W2202 (Or.inl ne_b1119_b2151_2224)).other W2206 (Or.inl ne_b1119_b2151_2224)).keep Kc2208 (ninS ne_b1119_b2151_2224 nin0))
  have c2226 := (((((((((((((((((F_elementData_b1119.ext E2146).keep Kc2148 (ninS ne_b1119_b2146_2223 nin0)).ext E2151).keep Kc2153 (ninS ne_b1119_b2151_2224 nin0)).other W2159 (Or.inl ne_b1119_b2146_2223)).other W2163 (Or.inl ne_b1119_b2146_2223)).other W2167 (Or.inl ne_b1119_b2146_2223)).other W2172 (Or.inl ne_b1119_b2146_2223)).other W2177 (Or.inl ne_b1119_b2146_2223)).other W2182 (Or.inl ne_b1119_b2146_2223)).other W2186 (Or.inl ne_b1119_b2151_2224)).other W2190 (Or.inl ne_b1119_b2151_2224)).other W2194 (Or.inl ne_b1119_b2151_2224)).other W2198 (Or.inl ne_b1119_b2151_2224)).other W2202 (Or.inl ne_b1119_b2151_2224)).other W2206 (Or.inl ne_b1119_b2151_2224)).keep Kc2208 (ninS ne_b1119_b2151_2224 nin0))
  have c2227 := (((((((((((((((fq2148_4.ext E2151).keep Kc2153 (ninS ne_b2146_b2151_2157 nin0)).other W2159 (Or.inr (sn41 hw))).other W2163 (Or.inr (sn10 hw))).other W2167 (Or.inr (sn40 hw))).other W2172 (Or.inr (sn61 hw))).other W2177 (Or.inr (sn62 hw))).other W2182 (Or.inr (sn63 hw))).other W2186 (Or.inl ne_b2146_b2151_2157)).other W2190 (Or.inl ne_b2146_b2151_2157)).other W2194 (Or.inl ne_b2146_b2151_2157)).other W2198 (Or.inl ne_b2146_b2151_2157)).other W2202 (Or.inl ne_b2146_b2151_2157)).other W2206 (Or.inl ne_b2146_b2151_2157)).keep Kc2208 (ninS ne_b2146_b2151_2157 nin0))
  have c2228 := (((((((((((((((fq2148_5.ext E2151).keep Kc2153 (ninS ne_b2146_b2151_2157 nin0)).other W2159 (Or.inr (sn43 hw))).other W2163 (Or.inr (sn11 hw))).other W2167 (Or.inr (sn42 hw))).other W2172 (Or.inr (sn64 hw))).other W2177 (Or.inr (sn65 hw))).other W2182 (Or.inr (sn66 hw))).other W2186 (Or.inl ne_b2146_b2151_2157)).other W2190 (Or.inl ne_b2146_b2151_2157)).other W2194 (Or.inl ne_b2146_b2151_2157)).other W2198 (Or.inl ne_b2146_b2151_2157)).other W2202 (Or.inl ne_b2146_b2151_2157)).other W2206 (Or.inl ne_b2146_b2151_2157)).keep Kc2208 (ninS ne_b2146_b2151_2157 nin0))
  have c2229 := (c2220.keep Kc2208 (ninS ne_b2146_b2151_2157 nin0))
  have c2230 := (c2219.keep Kc2208 (ninS ne_b2146_b2151_2157 nin0))
  have c2231 := (c2218.keep Kc2208 (ninS ne_b2146_b2151_2157 nin0))
  have c2232 := (((((((((Fw2172.other W2177 (Or.inr (sn73 hw))).other W2182 (Or.inr (sn74 hw))).other W2186 (Or.inl ne_b2146_b2151_2157)).other W2190 (Or.inl ne_b2146_b2151_2157)).other W2194 (Or.inl ne_b2146_b2151_2157)).other W2198 (Or.inl ne_b2146_b2151_2157)).other W2202 (Or.inl ne_b2146_b2151_2157)).other W2206 (Or.inl ne_b2146_b2151_2157)).keep Kc2208 (ninS ne_b2146_b2151_2157 nin0))
  have c2233 := ((((((((Fw2177.other W2182 (Or.inr (sn75 hw))).other W2186 (Or.inl ne_b2146_b2151_2157)).other W2190 (Or.inl ne_b2146_b2151_2157)).other W2194 (Or.inl ne_b2146_b2151_2157)).other W2198 (Or.inl ne_b2146_b2151_2157)).other W2202 (Or.inl ne_b2146_b2151_2157)).other W2206 (Or.inl ne_b2146_b2151_2157)).keep Kc2208 (ninS ne_b2146_b2151_2157 nin0))
  have c2234 := (((((((Fw2182.other W2186 (Or.inl ne_b2146_b2151_2157)).other W2190 (Or.inl ne_b2146_b2151_2157)).other W2194 (Or.inl ne_b2146_b2151_2157)).other W2198 (Or.inl ne_b2146_b2151_2157)).other W2202 (Or.inl ne_b2146_b2151_2157)).other W2206 (Or.inl ne_b2146_b2151_2157)).keep Kc2208 (ninS ne_b2146_b2151_2157 nin0))
  have c2235 := (((((((((((((((fq2148_6.ext E2151).keep Kc2153 (ninS ne_b2146_b2151_2157 nin0)).other W2159 (Or.inr (sn45 hw))).other W2163 (Or.inr (sn19 hw))).other W2167 (Or.inr (sn44 hw))).other W2172 (Or.inr (sn76 hw))).other W2177 (Or.inr (sn77 hw))).other W2182 (Or.inr (sn78 hw))).other W2186 (Or.inl ne_b2146_b2151_2157)).other W2190 (Or.inl ne_b2146_b2151_2157)).other W2194 (Or.inl ne_b2146_b2151_2157)).other W2198 (Or.inl ne_b2146_b2151_2157)).other W2202 (Or.inl ne_b2146_b2151_2157)).other W2206 (Or.inl ne_b2146_b2151_2157)).keep Kc2208 (ninS ne_b2146_b2151_2157 nin0))
  have c2236 := (((((((((((((((fq2148_7.ext E2151).keep Kc2153 (ninS ne_b2146_b2151_2157 nin0)).other W2159 (Or.inr (sn47 hw))).other W2163 (Or.inr (sn22 hw))).other W2167 (Or.inr (sn46 hw))).other W2172 (Or.inr (sn79 hw))).other W2177 (Or.inr (sn80 hw))).other W2182 (Or.inr (sn81 hw))).other W2186 (Or.inl ne_b2146_b2151_2157)).other W2190 (Or.inl ne_b2146_b2151_2157)).other W2194 (Or.inl ne_b2146_b2151_2157)).other W2198 (Or.inl ne_b2146_b2151_2157)).other W2202 (Or.inl ne_b2146_b2151_2157)).other W2206 (Or.inl ne_b2146_b2151_2157)).keep Kc2208 (ninS ne_b2146_b2151_2157 nin0))
  have ne_b91_b2146_2237 : b91 ≠ b2146 := Nat.ne_of_lt (Nat.lt_of_lt_of_le V_b91.lt (Nat.le_of_eq gq2146.symm))
  have ne_b91_b2151_2238 : b91 ≠ b2151 := Nat.ne_of_lt (Nat.lt_of_lt_of_le V_b91.lt (Nat.le_trans E2146.1 (Nat.le_trans Kc2148.1 (Nat.le_of_eq gq2151.symm))))
  have c2239 := (((((((((((((((((V_b91.ext E2146).keep Kc2148 (ninS ne_b91_b2146_2237 nin0)).ext E2151).keep Kc2153 (ninS ne_b91_b2151_2238 nin0)).other W2159 ne_b91_b2146_2237).other W2163 ne_b91_b2146_2237).other W2167 ne_b91_b2146_2237).other W2172 ne_b91_b2146_2237).other W2177 ne_b91_b2146_2237).other W2182 ne_b91_b2146_2237).other W2186 ne_b91_b2151_2238).other W2190 ne_b91_b2151_2238).other W2194 ne_b91_b2151_2238).other W2198 ne_b91_b2151_2238).other W2202 ne_b91_b2151_2238).other W2206 ne_b91_b2151_2238).keep Kc2208 (ninS ne_b91_b2151_2238 nin0))
  have ne_b1125_t0_b2146_2240 : b1125_t0 ≠ b2146 := Nat.ne_of_lt (Nat.lt_of_lt_of_le V_b1125_t0.lt (Nat.le_of_eq gq2146.symm))
  have ne_b1125_t0_b2151_2241 : b1125_t0 ≠ b2151 := Nat.ne_of_lt (Nat.lt_of_lt_of_le V_b1125_t0.lt (Nat.le_trans E2146.1 (Nat.le_trans Kc2148.1 (Nat.le_of_eq gq2151.symm))))
  have c2242 := (((((((((((((((((V_b1125_t0.ext E2146).keep Kc2148 (ninS ne_b1125_t0_b2146_2240 nin0)).ext E2151).keep Kc2153 (ninS ne_b1125_t0_b2151_2241 nin0)).other W2159 ne_b1125_t0_b2146_2240).other W2163 ne_b1125_t0_b2146_2240).other W2167 ne_b1125_t0_b2146_2240).other W2172 ne_b1125_t0_b2146_2240).other W2177 ne_b1125_t0_b2146_2240).other W2182 ne_b1125_t0_b2146_2240).other W2186 ne_b1125_t0_b2151_2241).other W2190 ne_b1125_t0_b2151_2241).other W2194 ne_b1125_t0_b2151_2241).other W2198 ne_b1125_t0_b2151_2241).other W2202 ne_b1125_t0_b2151_2241).other W2206 ne_b1125_t0_b2151_2241).keep Kc2208 (ninS ne_b1125_t0_b2151_2241 nin0))
  have c2243 := (((((((((((((((((E_b1119.ext E2146).keep Kc2148).ext E2151).keep Kc2153).wr W2159).wr W2163).wr W2167).wr W2172).wr W2177).wr W2182).wr W2186).wr W2190).wr W2194).wr W2198).wr W2202).wr W2206).keep Kc2208)
  have c2244 := ((((((((c2180.wr W2182).wr W2186).wr W2190).wr W2194).wr W2198).wr W2202).wr W2206).keep Kc2208)
  refine Gl.cast (B := (T2208.setTop (mkF m 325 #[.val (.int p1), .val (.int p2), .val (.int p3), .val (.int p4), .val (.long q5), .second, .val (.int p6), .val (.int (0 : Int32)), .val (.int w8e), od9, .val (.ref b11_t0), .val (.ref b17_t0), .val .null, .val (.int y13_92_86), .val (.int y14_99_88), .val (.ref b91), .val (.ref b1098), .val (.ref b1119), .val (.ref b1134), .val (.ref b1140), .val (.ref b2146), .val (.ref b2151), .unset] []))) (by rw [hL2155]) ?_
  exact sg_325_14 l Z a0 hw hx hby hml hret hlk hZ hown n0 p1 p2 p3 p4 q5 p6 w8e b11_t0 b17_t0 y13_92_86 y14_99_88 b91 b1098 b1119 b1134 (.val (.ref b1140)) b2146 b2151 k91 nra vra b1125_t0 k1125_kx_t0 x257_2169 x265_2174 x276_2179 T2208.heap (X2208.more (by decide) (by decide)) rfl N2208 Zc2222 fq2208_2 fq2208_1 c2239 hr357_hE fq2208_7 c2243 c2225 c2226 c2242 O_b1125_t0 fq2208_3 fq2208_4 fq2208_10 fq2208_8 fq2208_9 fq2208_5 fq2208_6 c2227 c2228 c2229 c2230 c2231 c2232 c2233 c2234 c2235 c2236 fq2208_0 hr605_hE hx257_2169 hx265_2174 hx276_2179 c2244
theorem pd_0s125_12_0 : parseMethodDescriptor "(C)Ljava/lang/String;" = some ⟨[.char], some (.object "java/lang/String")⟩ := by decide +kernel
theorem pd_0s125_12_1 : parseMethodDescriptor "(Ljava/lang/String;[B)V" = some ⟨[(.object "java/lang/String"), (.array .byte)], none⟩ := by decide +kernel
theorem pd_0s125_12_2 : parseMethodDescriptor "()V" = some ⟨[], none⟩ := by decide +kernel
theorem pd_0s125_12_3 : parseMethodDescriptor "(Ljava/lang/Object;)Z" = some ⟨[(.object "java/lang/Object")], some .boolean⟩ := by decide +kernel
theorem own_0s125_12_hp140_1103 (p4 : Int32) (x140_1100 : Int32) (hx140_1100 : x140_1100 = ((((p4.toUInt32 >>> ((16 : Int32) &&& 31).toUInt32).toInt32) &&& (255 : Int32)).toUInt32.toUInt16.toUInt32.toInt32))  : ¬ ((255 : Int32) < x140_1100) := by
  exact own_ch _ _ hx140_1100
set_option maxRecDepth 65536 in
set_option maxHeartbeats 40000000 in
theorem sg_125_12 (l : Launch) (Z : State) (a0 : Array Value) (hw : ∀ d ∈ tables_1, d.before a0 Z = true) {p : Program} {e : Env} {s : State} {m : MethodId} {A0 : Array Value} {below : List Frame} {meth : Method} {c : Code} (hx : p.tables.exec = Jvm.exec) (hby : c.code = code) (hml : c.maxLocals = 23) (hret : meth.sig.returnType = ret) (hlk : meth.locks = false) (hZ : Z.Warmed39 s.vm) (hown : s.vm.findClass "com/example/limpet/limpet/group/MemberTakeOverPinLaw" = some m.cls) (n0 : Nat) (p1 : Int32) (p2 : Int32) (p3 : Int32) (p4 : Int32) (q5 : Int64) (p6 : Int32) (w8e : Int32) (od9 : Slot) (b11_t0 : Addr) (b17_t0 : Addr) (y13_92_86 : Int32) (y14_99_88 : Int32) (b91 : Addr) (nra : Int32) (vra : List Value) (z_COMP1 : Int32) (z_DEFA0 : Addr) (kx_z_DEFA0 : ClassId) (k91 : ClassId) {T0 : State} {Lc : List Loc} (h0 : Heap) (X0 : Stand p l e room_1 s m A0 below meth c T0 Lc 5 12) (e0 : T0.heap = h0) (N0 : Fr n0 Lc) (Z0 : n0 ≤ h0.size) (S_COMP1 : Sta Z h0 "java/lang/String" "COMPACT_STRINGS" "Z" (.int z_COMP1)) (hr140_hq3 : ¬ (z_COMP1 = (0 : Int32))) (S_DEFA0 : Sta Z h0 "java/util/ArrayList" "DEFAULTCAPACITY_EMPTY_ELEMENTDATA" "[Ljava/lang/Object;" (.ref z_DEFA0)) (V_z_DEFA0 : Arv Z h0 z_DEFA0 kx_z_DEFA0 (.object "java/lang/Object") (0 : Int32) [] .null) (V_b91 : Arv Z h0 b91 k91 .byte nra vra (.int (0 : Int32))) (hr357_hE : (w8e = (1 : Int32) ∧ nra = (0 : Int32) ∧ vra = []) ∨ (w8e = (0 : Int32) ∧ nra = (2 : Int32) ∧ vra = [(.int y13_92_86), (.int y14_99_88)])) (hr605_hE : (w8e = (1 : Int32) ∧ nra = (0 : Int32) ∧ vra = []) ∨ (w8e = (0 : Int32) ∧ nra = (2 : Int32) ∧ vra = [(.int y13_92_86), (.int y14_99_88)])) :
    Gl p e below (fun o U' => ∃ v L, o = .returned v ∧ (v = some (.int (1 : Int32)) ∧ Fr n0 L) ∧ FrameEnd s o U' L room_1.cells room_1.slots) (T0.setTop (mkF m 125 #[.val (.int p1), .val (.int p2), .val (.int p3), .val (.int p4), .val (.long q5), .second, .val (.int p6), .val (.int (0 : Int32)), .val (.int w8e), od9, .val (.ref b11_t0), .val (.ref b17_t0), .val .null, .val (.int y13_92_86), .val (.int y14_99_88), .unset, .unset, .unset, .unset, .unset, .unset, .unset, .unset] [(.ref b91)])) := by
  obtain ⟨L0, hL0⟩ : ∃ z : Array Slot, z = #[.val (.int p1), .val (.int p2), .val (.int p3), .val (.int p4), .val (.long q5), .second, .val (.int p6), .val (.int (0 : Int32)), .val (.int w8e), od9, .val (.ref b11_t0), .val (.ref b17_t0), .val .null, .val (.int y13_92_86), .val (.int y14_99_88), .unset, .unset, .unset, .unset, .unset, .unset, .unset, .unset] := ⟨_, rfl⟩
  refine Gl.cast (B := (T0.setTop (mkF m 125 L0 [(.ref b91)]))) (by rw [hL0]) ?_
  obtain ⟨L1097, hL1097⟩ : ∃ z : Array Slot, z = #[.val (.int p1), .val (.int p2), .val (.int p3), .val (.int p4), .val (.long q5), .second, .val (.int p6), .val (.int (0 : Int32)), .val (.int w8e), od9, .val (.ref b11_t0), .val (.ref b17_t0), .val .null, .val (.int y13_92_86), .val (.int y14_99_88), .val (.ref b91), .unset, .unset, .unset, .unset, .unset, .unset, .unset] := ⟨_, rfl⟩
  refine Gl.st (B := (T0.setTop (mkF m 127 L1097 []))) (fun t k => XS.astore X0.here hx rfl (hb hby at_125) rfl rfl (l' := L1097) (stAt hL0 hL1097 rfl rfl) k) ?_
  obtain ⟨T1098, h1098, X1098, e1098, E1098, A1098, D1098, -, st1098⟩ := newO X0 hx hZ hown (tw hw 26 rfl) (tw hw 27 rfl) (tw hw 28 rfl) e0 (g := (mkF m 127 L1097 [])) rfl (hb hby at_127) (by decide) (by decide)
  obtain ⟨b1098, gq1098⟩ : ∃ z, z = h0.size := ⟨_, rfl⟩
  rw [← gq1098] at A1098 D1098 st1098
  have g_b1098 : n0 ≤ b1098 := Nat.le_trans Z0 (Nat.le_of_eq gq1098.symm)
  have lt_b1098 := A1098.lt
  have Zc1099 : n0 ≤ h1098.size := Nat.le_trans Z0 E1098.1
  have F1098_name : Fld Z h1098 b1098 "com/example/limpet/limpet/protocol/JoinGroup$Protocol" "name" "Ljava/lang/String;" .null := D1098 (Or.inr (tw hw 39 rfl)) (ty := (.object "java/lang/String")) (by decide)
  have F1098_metadata : Fld Z h1098 b1098 "com/example/limpet/limpet/protocol/JoinGroup$Protocol" "metadata" "[B" .null := D1098 (Or.inr (tw hw 41 rfl)) (ty := (.array .byte)) (by decide)
  refine Gl.st (B := (T1098.setTop (mkF m 130 L1097 [(.ref b1098)]))) st1098 ?_
  refine Gl.st (B := (T1098.setTop (mkF m 139 L1097 [(.int (((p4.toUInt32 >>> ((16 : Int32) &&& 31).toUInt32).toInt32) &&& (255 : Int32))), (.ref b1098), (.ref b1098)]))) (fun t k => XS.dup X1098.here hx rfl (hb hby at_130) rfl rfl (XS.iloadN X1098.here hx rfl (hb hby at_131) (ldAt hL1097 rfl) (XS.bipush X1098.here hx rfl (hb hby at_132) (XS.iushr X1098.here hx rfl (hb hby at_134) rfl (XS.sipush X1098.here hx rfl (hb hby at_135) (XS.iand X1098.here hx rfl (hb hby at_138) rfl k)))))) ?_
  refine Gl.st (B := (T1098.setTop (mkF m 140 L1097 [(.int ((((p4.toUInt32 >>> ((16 : Int32) &&& 31).toUInt32).toInt32) &&& (255 : Int32)).toUInt32.toUInt16.toUInt32.toInt32)), (.ref b1098), (.ref b1098)]))) (fun t k => XS.i2c X1098.here hx rfl (hb hby at_139) rfl k) ?_
  obtain ⟨x140_1100, hx140_1100⟩ : ∃ z : Int32, z = ((((p4.toUInt32 >>> ((16 : Int32) &&& 31).toUInt32).toInt32) &&& (255 : Int32)).toUInt32.toUInt16.toUInt32.toInt32) := ⟨_, rfl⟩
  refine Gl.cast (B := (T1098.setTop (mkF m 140 L1097 [(.int x140_1100), (.ref b1098), (.ref b1098)]))) (by rw [hx140_1100]) ?_
  have c1102 := (S_COMP1.ext E1098)
  have hp140_1103 : ¬ ((255 : Int32) < x140_1100) := own_0s125_12_hp140_1103 p4 x140_1100 hx140_1100 
  obtain ⟨_, _, ⟨T1101, L1101q, k1101, n1101⟩, -, X1101, ⟨Lc1101, hQ1101, l1101, y1101, z1101⟩, st1101⟩ := Jvm.LawKit.callS X1098 hx (y := (⟨"java/lang/String", "valueOf", "(C)Ljava/lang/String;"⟩ : MethodName)) hown (mvT hZ (tw hw 0 rfl)) (mvT hZ (tw hw 1 rfl)) (mvT hZ (tw hw 2 rfl)) (mvT hZ (tw hw 3 rfl)) (by decide) (backOf (W := 2) (rm1 l Z a0 hw [] x140_1100 z_COMP1 h1098 n0 Zc1099 c1102 hr140_hq3 hp140_1103) hZ (tw hw 3 rfl) (tw hw 2 rfl) (by decide) (by decide)) (g := (mkF m 140 L1097 [(.int x140_1100), (.ref b1098), (.ref b1098)])) rfl (szAt hml hL1097 rfl) (argsL := [(.int x140_1100)]) (rest := [(.ref b1098), (.ref b1098)]) (lenOf pd_0s125_12_0 rfl) rfl (by show 2 * 0 + _ ≤ _; exact Nat.le_of_eq rfl) (hb hby at_140) (fun _ _ => ⟨rfl, e1098, (by decide : 6 + 2 ≤ _), (by decide : 14 + 5 ≤ _)⟩)
  dsimp only [Pt.U, Pt.locs, Pt.cells, Pt.slots] at X1101 l1101 y1101 z1101 st1101 hQ1101
  subst l1101 y1101 z1101
  obtain ⟨b1101_t0, b1101_t1, k1101_kx_t1, rfl, N1101q, Kc1101, fq1101_0, fq1101_1, fq1101_2, fq1101_3, fq1101_4, fq1101_5, fq1101_6⟩ := hQ1101
  have g_b1101_t0 : n0 ≤ b1101_t0 := Nat.le_trans Zc1099 fq1101_0
  have lt_b1101_t0 := fq1101_2.lt
  have g_b1101_t1 : n0 ≤ b1101_t1 := Nat.le_trans Zc1099 fq1101_1
  have lt_b1101_t1 := fq1101_5.lt
  have Zc1104 : n0 ≤ T1101.heap.size := Nat.le_trans Zc1099 Kc1101.1
  obtain ⟨f140_1105, hf140_1105⟩ : ∃ z : Int32, z = ((nar .byte (0 : Int32))) := ⟨_, rfl⟩
  rw [← hf140_1105] at fq1101_3
  have N1101 := Fr.app N0 N1101q
  refine Gl.st (B := (T1101.setTop (mkF m 143 L1097 [(.ref b1101_t0), (.ref b1098), (.ref b1098)]))) (fun t k => st1101 t k) ?_
  refine Gl.st (B := (T1101.setTop (mkF m 144 L1097 [(.int (1 : Int32)), (.ref b1101_t0), (.ref b1098), (.ref b1098)]))) (fun t k => XS.iconst X1101.here hx rfl (hb hby at_143) k) ?_
  obtain ⟨T1106, h1106, k1106, X1106, e1106, E1106, A1106, Ex1106, st1106⟩ := newPE X1101 hx hZ (tw hw 14 rfl) rfl (g := (mkF m 144 L1097 [(.int (1 : Int32)), (.ref b1101_t0), (.ref b1098), (.ref b1098)])) rfl (hb hby at_144) rfl (by decide) (cap := 1) (by decide) (by decide) (by decide) (by decide) (ad := "[B") rfl
  obtain ⟨b1106, gq1106⟩ : ∃ z, z = T1101.heap.size := ⟨_, rfl⟩
  rw [← gq1106] at A1106 Ex1106 st1106
  have V1106 : Arv Z h1106 b1106 k1106 .byte (1 : Int32) [(.int (0 : Int32))] (.int (0 : Int32)) := (Arv.new A1106 (by decide)).pad (pad_rep [] (.int (0 : Int32)) 1)
  have g_b1106 : n0 ≤ b1106 := Nat.le_trans Zc1104 (Nat.le_of_eq gq1106.symm)
  have lt_b1106 := V1106.lt
  have Zc1107 : n0 ≤ h1106.size := Nat.le_trans Zc1104 E1106.1
  refine Gl.st (B := (T1106.setTop (mkF m 146 L1097 [(.ref b1106), (.ref b1101_t0), (.ref b1098), (.ref b1098)]))) st1106 ?_
  refine Gl.st (B := (T1106.setTop (mkF m 153 L1097 [(.int (((p4.toUInt32 >>> ((24 : Int32) &&& 31).toUInt32).toInt32).toInt8.toInt32)), (.int (0 : Int32)), (.ref b1106), (.ref b1106), (.ref b1101_t0), (.ref b1098), (.ref b1098)]))) (fun t k => XS.dup X1106.here hx rfl (hb hby at_146) rfl rfl (XS.iconst X1106.here hx rfl (hb hby at_147) (XS.iloadN X1106.here hx rfl (hb hby at_148) (ldAt hL1097 rfl) (XS.bipush X1106.here hx rfl (hb hby at_149) (XS.iushr X1106.here hx rfl (hb hby at_151) rfl (XS.i2b X1106.here hx rfl (hb hby at_152) rfl k)))))) ?_
  obtain ⟨x153_1108, hx153_1108⟩ : ∃ z : Int32, z = (((p4.toUInt32 >>> ((24 : Int32) &&& 31).toUInt32).toInt32).toInt8.toInt32) := ⟨_, rfl⟩
  refine Gl.cast (B := (T1106.setTop (mkF m 153 L1097 [(.int x153_1108), (.int (0 : Int32)), (.ref b1106), (.ref b1106), (.ref b1101_t0), (.ref b1098), (.ref b1098)]))) (by rw [hx153_1108]) ?_
  obtain ⟨cl1109, Ar1109, q1109, S1109, P1109, H1109, G1109⟩ := (id V1106)
  have hin153_1109 : ¬ ((0 : Int32) < 0 ∨ cl1109.slots.size ≤ ((0 : Int32)).toNatClampNeg) := inb_of S1109 ⟨by decide, by decide⟩
  obtain ⟨T1109, h1109, X1109, e1109, W1109, st1109⟩ := stB X1106 hx hZ e1106 Ar1109 (j := (0 : Int32)) hin153_1109 (g := (mkF m 153 L1097 [(.int x153_1108), (.int (0 : Int32)), (.ref b1106), (.ref b1106), (.ref b1101_t0), (.ref b1098), (.ref b1098)])) rfl rfl (hb hby at_153)
  have V1109 : Arv Z h1109 b1106 k1106 .byte (1 : Int32) [(.int (nar .byte x153_1108))] (.int (0 : Int32)) := Arv.set Ar1109 q1109 S1109 P1109 H1109 G1109 (fits_nar_byte _) W1109 0 rfl (Nat.le_of_ble_eq_true rfl)
  have Zc1110 : n0 ≤ h1109.size := Nat.le_trans Zc1107 (Nat.le_of_eq W1109.size.symm)
  have N1109 := Fr.snoc X1109 N1101 g_b1106
  refine Gl.st (B := (T1109.setTop (mkF m 154 L1097 [(.ref b1106), (.ref b1101_t0), (.ref b1098), (.ref b1098)]))) st1109 ?_
  have ne_b1098_b1106_1112 : b1098 ≠ b1106 := Nat.ne_of_lt (Nat.lt_of_lt_of_le lt_b1098 (Nat.le_trans Kc1101.1 (Nat.le_of_eq gq1106.symm)))
  have c1113 := (((F1098_name.keep Kc1101 nin0).ext E1106).other W1109 (Or.inl ne_b1098_b1106_1112))
  have c1114 := (((F1098_metadata.keep Kc1101 nin0).ext E1106).other W1109 (Or.inl ne_b1098_b1106_1112))
  have c1115 := (((A1098.keep Kc1101).ext E1106).wr W1109)
  obtain ⟨_, _, ⟨T1111, L1111q, k1111, n1111⟩, -, X1111, ⟨Lc1111, hQ1111, l1111, y1111, z1111⟩, st1111⟩ := X1109.specialBack hx (y := (⟨"com/example/limpet/limpet/protocol/JoinGroup$Protocol", "<init>", "(Ljava/lang/String;[B)V"⟩ : MethodName)) rfl hown (mvT hZ (tw hw 29 rfl)) (mvT hZ (tw hw 30 rfl)) (mvT hZ (tw hw 31 rfl)) (by decide) (backOf (W := 1) (rm6 l Z a0 hw [] b1098 b1101_t0 b1106 .null .null h1109 n0 Zc1110 c1113 c1114 c1115 g_b1098) hZ (tw hw 31 rfl) (tw hw 28 rfl) (by decide) (by decide)) (g := (mkF m 154 L1097 [(.ref b1106), (.ref b1101_t0), (.ref b1098), (.ref b1098)])) rfl (szAt hml hL1097 rfl) (Steps.refl _) (a := b1098) (argsL := [(.ref b1101_t0), (.ref b1106)]) (rest := [(.ref b1098)]) (lenOf pd_0s125_12_1 rfl) rfl (by show 2 * 0 + _ ≤ _; exact Nat.le_of_eq rfl) (hb hby at_154) (fun _ _ => ⟨rfl, e1109, (by decide : 9 + 0 ≤ _), (by decide : 20 + 0 ≤ _)⟩)
  dsimp only [Pt.U, Pt.locs, Pt.cells, Pt.slots] at X1111 l1111 y1111 z1111 st1111 hQ1111
  subst l1111 y1111 z1111
  obtain ⟨rfl, N1111q, Kc1111, fq1111_0, fq1111_1, fq1111_2⟩ := hQ1111
  have Zc1116 : n0 ≤ T1111.heap.size := Nat.le_trans Zc1110 Kc1111.1
  have N1111 := Fr.app N1109 N1111q
  refine Gl.st (B := (T1111.setTop (mkF m 157 L1097 [(.ref b1098)]))) (fun t k => st1111.trans k) ?_
  obtain ⟨L1117, hL1117⟩ : ∃ z : Array Slot, z = #[.val (.int p1), .val (.int p2), .val (.int p3), .val (.int p4), .val (.long q5), .second, .val (.int p6), .val (.int (0 : Int32)), .val (.int w8e), od9, .val (.ref b11_t0), .val (.ref b17_t0), .val .null, .val (.int y13_92_86), .val (.int y14_99_88), .val (.ref b91), .val (.ref b1098), .unset, .unset, .unset, .unset, .unset, .unset] := ⟨_, rfl⟩
  obtain ⟨L1118, hL1118⟩ : ∃ z : Array Slot, z = #[.val (.int p1), .val (.int p2), .val (.int p3), .val (.int p4), .val (.long q5), .second, .val (.int p6), .val (.int (0 : Int32)), .val (.int w8e), od9, .val (.ref b11_t0), .val (.ref b17_t0), .val .null, .val (.int y13_92_86), .val (.int y14_99_88), .val (.ref b91), .val (.ref b1098), .val .null, .unset, .unset, .unset, .unset, .unset] := ⟨_, rfl⟩
  refine Gl.st (B := (T1111.setTop (mkF m 167 L1118 []))) (fun t k => XS.astore X1111.here hx rfl (hb hby at_157) rfl rfl (l' := L1117) (stAt hL1097 hL1117 rfl rfl) (XS.aconstNull X1111.here hx rfl (hb hby at_159) (XS.astore X1111.here hx rfl (hb hby at_160) rfl rfl (l' := L1118) (stAt hL1117 hL1118 rfl rfl) (XS.iload X1111.here hx rfl (hb hby at_162) (ldAt hL1118 rfl) (XS.ifNo X1111.here hx rfl (hb hby at_164) rfl (by decide) k))))) ?_
  obtain ⟨T1119, h1119, X1119, e1119, E1119, A1119, D1119, -, st1119⟩ := newO X1111 hx hZ hown (tw hw 42 rfl) (tw hw 43 rfl) (tw hw 44 rfl) rfl (g := (mkF m 167 L1118 [])) rfl (hb hby at_167) (by decide) (by decide)
  obtain ⟨b1119, gq1119⟩ : ∃ z, z = T1111.heap.size := ⟨_, rfl⟩
  rw [← gq1119] at A1119 D1119 st1119
  have g_b1119 : n0 ≤ b1119 := Nat.le_trans Zc1116 (Nat.le_of_eq gq1119.symm)
  have lt_b1119 := A1119.lt
  have Zc1120 : n0 ≤ h1119.size := Nat.le_trans Zc1116 E1119.1
  have F1119_modCount : Fld Z h1119 b1119 "java/util/AbstractList" "modCount" "I" (.int (0 : Int32)) := D1119 (Or.inl (tw hw 62 rfl)) (ty := .int) (by decide)
  have F1119_elementData : Fld Z h1119 b1119 "java/util/ArrayList" "elementData" "[Ljava/lang/Object;" .null := D1119 (Or.inl (tw hw 65 rfl)) (ty := (.array (.object "java/lang/Object"))) (by decide)
  have F1119_size : Fld Z h1119 b1119 "java/util/ArrayList" "size" "I" (.int (0 : Int32)) := D1119 (Or.inl (tw hw 78 rfl)) (ty := .int) (by decide)
  refine Gl.st (B := (T1119.setTop (mkF m 170 L1118 [(.ref b1119)]))) st1119 ?_
  refine Gl.st (B := (T1119.setTop (mkF m 171 L1118 [(.ref b1119), (.ref b1119)]))) (fun t k => XS.dup X1119.here hx rfl (hb hby at_170) rfl rfl k) ?_
  have c1122 := ((own_sta_keep (((own_sta_keep (S_DEFA0.ext E1098) Kc1101 all0).ext E1106).wr W1109) Kc1111 (allS (own_exa_plain c1115) all0)).ext E1119)
  obtain ⟨_, _, ⟨T1121, L1121q, k1121, n1121⟩, -, X1121, ⟨Lc1121, hQ1121, l1121, y1121, z1121⟩, st1121⟩ := X1119.specialBack hx (y := (⟨"java/util/ArrayList", "<init>", "()V"⟩ : MethodName)) rfl hown (mvT hZ (tw hw 45 rfl)) (mvT hZ (tw hw 46 rfl)) (mvT hZ (tw hw 47 rfl)) (by decide) (backOf (W := 1) (rm8 l Z a0 hw [] b1119 ((.int (0 : Int32))) .null ((.int (0 : Int32))) z_DEFA0 h1119 n0 Zc1120 F1119_modCount F1119_elementData F1119_size A1119 g_b1119 c1122) hZ (tw hw 47 rfl) (tw hw 44 rfl) (by decide) (by decide)) (g := (mkF m 171 L1118 [(.ref b1119), (.ref b1119)])) rfl (szAt hml hL1118 rfl) (Steps.refl _) (a := b1119) (argsL := []) (rest := [(.ref b1119)]) (lenOf pd_0s125_12_2 rfl) rfl (by show 2 * 0 + _ ≤ _; exact Nat.le_of_eq rfl) (hb hby at_171) (fun _ _ => ⟨rfl, e1119, (by decide : 10 + 0 ≤ _), (by decide : 23 + 0 ≤ _)⟩)
  dsimp only [Pt.U, Pt.locs, Pt.cells, Pt.slots] at X1121 l1121 y1121 z1121 st1121 hQ1121
  subst l1121 y1121 z1121
  obtain ⟨rfl, N1121q, Kc1121, fq1121_0, fq1121_1, fq1121_2, fq1121_3⟩ := hQ1121
  have Zc1123 : n0 ≤ T1121.heap.size := Nat.le_trans Zc1120 Kc1121.1
  have N1121 := Fr.app N1111 N1121q
  refine Gl.st (B := (T1121.setTop (mkF m 174 L1118 [(.ref b1119)]))) (fun t k => st1121.trans k) ?_
  obtain ⟨L1124, hL1124⟩ : ∃ z : Array Slot, z = #[.val (.int p1), .val (.int p2), .val (.int p3), .val (.int p4), .val (.long q5), .second, .val (.int p6), .val (.int (0 : Int32)), .val (.int w8e), od9, .val (.ref b11_t0), .val (.ref b17_t0), .val .null, .val (.int y13_92_86), .val (.int y14_99_88), .val (.ref b91), .val (.ref b1098), .val (.ref b1119), .unset, .unset, .unset, .unset, .unset] := ⟨_, rfl⟩
  refine Gl.st (B := (T1121.setTop (mkF m 180 L1124 [(.ref b1098), (.ref b1119)]))) (fun t k => XS.astore X1121.here hx rfl (hb hby at_174) rfl rfl (l' := L1124) (stAt hL1118 hL1124 rfl rfl) (XS.aload X1121.here hx rfl (hb hby at_176) (ldAt hL1124 rfl) rfl (XS.aload X1121.here hx rfl (hb hby at_178) (ldAt hL1124 rfl) rfl k))) ?_
  have c1126 := (own_sta_keep c1122 Kc1121 (allS (own_exa_plain A1119) all0))
  have ne_z_DEFA0_b1106_1127 : z_DEFA0 ≠ b1106 := Nat.ne_of_lt (Nat.lt_of_lt_of_le V_z_DEFA0.lt (Nat.le_trans E1098.1 (Nat.le_trans Kc1101.1 (Nat.le_of_eq gq1106.symm))))
  have ne_z_DEFA0_b1098_1128 : z_DEFA0 ≠ b1098 := Nat.ne_of_lt (Nat.lt_of_lt_of_le V_z_DEFA0.lt (Nat.le_of_eq gq1098.symm))
  have ne_z_DEFA0_b1119_1129 : z_DEFA0 ≠ b1119 := Nat.ne_of_lt (Nat.lt_of_lt_of_le V_z_DEFA0.lt (Nat.le_trans E1098.1 (Nat.le_trans Kc1101.1 (Nat.le_trans E1106.1 (Nat.le_trans (Nat.le_of_eq W1109.size.symm) (Nat.le_trans Kc1111.1 (Nat.le_of_eq gq1119.symm)))))))
  have c1130 := (((((((V_z_DEFA0.ext E1098).keep Kc1101 nin0).ext E1106).other W1109 ne_z_DEFA0_b1106_1127).keep Kc1111 (ninS ne_z_DEFA0_b1098_1128 nin0)).ext E1119).keep Kc1121 (ninS ne_z_DEFA0_b1119_1129 nin0))
  have c1131 := ((fq1111_0.ext E1119).keep Kc1121)
  obtain ⟨cq1125, kq1125, q1125a, q1125b, q1125c⟩ := isOf hZ rfl fq1121_0
  obtain ⟨_, _, ⟨T1125, L1125q, k1125, n1125⟩, -, X1125, ⟨Lc1125, hQ1125, l1125, y1125, z1125⟩, st1125⟩ := X1121.interfaceBack hx (xi := (⟨"java/util/List", "add", "(Ljava/lang/Object;)Z"⟩ : MethodName)) (y := (⟨"java/util/ArrayList", "add", "(Ljava/lang/Object;)Z"⟩ : MethodName)) hown (mvT hZ (tw hw 66 rfl)) (mvT hZ (tw hw 67 rfl)) (mvT hZ (tw hw 68 rfl)) (mvT hZ (tw hw 69 rfl)) (mvT hZ (tw hw 70 rfl)) (mvT hZ (tw hw 71 rfl)) (mvT hZ (tw hw 72 rfl)) (mvT hZ (tw hw 73 rfl)) (by decide) (backOf (W := 0) (rm11 l Z a0 hw [] b1119 b1098 kx_z_DEFA0 (0 : Int32) z_DEFA0 T1121.heap n0 Zc1123 c1130 fq1121_2 fq1121_0 g_b1119 fq1121_1 fq1121_3 c1126 (Ne.symm ne_z_DEFA0_b1119_1129) c1131) hZ (tw hw 74 rfl) (tw hw 44 rfl) (by decide) (by decide)) q1125a q1125b q1125c (g := (mkF m 180 L1124 [(.ref b1098), (.ref b1119)])) rfl (szAt hml hL1124 rfl) (Steps.refl _) (argsL := [(.ref b1098)]) (rest := []) (lenOf pd_0s125_12_3 rfl) rfl (by show 2 * 0 + _ ≤ _; exact Nat.le_of_eq rfl) (hb hby at_180) (fun _ _ => ⟨rfl, rfl, (by decide : 10 + 1 ≤ _), (by decide : 23 + 10 ≤ _)⟩)
  dsimp only [Pt.U, Pt.locs, Pt.cells, Pt.slots] at X1125 l1125 y1125 z1125 st1125 hQ1125
  subst l1125 y1125 z1125
  obtain ⟨b1125_t0, k1125_kx_t0, rfl, N1125q, Kc1125, fq1125_0, fq1125_1, fq1125_2, fq1125_3, fq1125_4, fq1125_5, fq1125_6⟩ := hQ1125
  have g_b1125_t0 : n0 ≤ b1125_t0 := Nat.le_trans Zc1123 fq1125_0
  have lt_b1125_t0 := fq1125_5.lt
  have Zc1132 : n0 ≤ T1125.heap.size := Nat.le_trans Zc1123 Kc1125.1
  obtain ⟨f180_1133, hf180_1133⟩ : ∃ z : Int32, z = (((0 : Int32) + (1 : Int32))) := ⟨_, rfl⟩
  rw [← hf180_1133] at fq1125_3
  have N1125 := Fr.app N1121 N1125q
  refine Gl.st (B := (T1125.setTop (mkF m 185 L1124 [(.int (1 : Int32))]))) (fun t k => st1125.trans k) ?_
  refine Gl.st (B := (T1125.setTop (mkF m 186 L1124 []))) (fun t k => XS.pop X1125.here hx rfl (hb hby at_185) rfl rfl k) ?_
  obtain ⟨T1134, h1134, X1134, e1134, E1134, A1134, D1134, -, st1134⟩ := newO X1125 hx hZ hown (tw hw 42 rfl) (tw hw 43 rfl) (tw hw 44 rfl) rfl (g := (mkF m 186 L1124 [])) rfl (hb hby at_186) (by decide) (by decide)
  obtain ⟨b1134, gq1134⟩ : ∃ z, z = T1125.heap.size := ⟨_, rfl⟩
  rw [← gq1134] at A1134 D1134 st1134
  have g_b1134 : n0 ≤ b1134 := Nat.le_trans Zc1132 (Nat.le_of_eq gq1134.symm)
  have lt_b1134 := A1134.lt
  have Zc1135 : n0 ≤ h1134.size := Nat.le_trans Zc1132 E1134.1
  have F1134_modCount : Fld Z h1134 b1134 "java/util/AbstractList" "modCount" "I" (.int (0 : Int32)) := D1134 (Or.inl (tw hw 62 rfl)) (ty := .int) (by decide)
  have F1134_elementData : Fld Z h1134 b1134 "java/util/ArrayList" "elementData" "[Ljava/lang/Object;" .null := D1134 (Or.inl (tw hw 65 rfl)) (ty := (.array (.object "java/lang/Object"))) (by decide)
  have F1134_size : Fld Z h1134 b1134 "java/util/ArrayList" "size" "I" (.int (0 : Int32)) := D1134 (Or.inl (tw hw 78 rfl)) (ty := .int) (by decide)
  refine Gl.st (B := (T1134.setTop (mkF m 189 L1124 [(.ref b1134)]))) st1134 ?_
  refine Gl.st (B := (T1134.setTop (mkF m 190 L1124 [(.ref b1134), (.ref b1134)]))) (fun t k => XS.dup X1134.here hx rfl (hb hby at_189) rfl rfl k) ?_
  have c1137 := ((own_sta_keep c1126 Kc1125 (allS (own_exa_plain fq1121_0) all0)).ext E1134)
  obtain ⟨_, _, ⟨T1136, L1136q, k1136, n1136⟩, -, X1136, ⟨Lc1136, hQ1136, l1136, y1136, z1136⟩, st1136⟩ := X1134.specialBack hx (y := (⟨"java/util/ArrayList", "<init>", "()V"⟩ : MethodName)) rfl hown (mvT hZ (tw hw 45 rfl)) (mvT hZ (tw hw 46 rfl)) (mvT hZ (tw hw 47 rfl)) (by decide) (backOf (W := 1) (rm8 l Z a0 hw [] b1134 ((.int (0 : Int32))) .null ((.int (0 : Int32))) z_DEFA0 h1134 n0 Zc1135 F1134_modCount F1134_elementData F1134_size A1134 g_b1134 c1137) hZ (tw hw 47 rfl) (tw hw 44 rfl) (by decide) (by decide)) (g := (mkF m 190 L1124 [(.ref b1134), (.ref b1134)])) rfl (szAt hml hL1124 rfl) (Steps.refl _) (a := b1134) (argsL := []) (rest := [(.ref b1134)]) (lenOf pd_0s125_12_2 rfl) rfl (by show 2 * 0 + _ ≤ _; exact Nat.le_of_eq rfl) (hb hby at_190) (fun _ _ => ⟨rfl, e1134, (by decide : 12 + 0 ≤ _), (by decide : 36 + 0 ≤ _)⟩)
  dsimp only [Pt.U, Pt.locs, Pt.cells, Pt.slots] at X1136 l1136 y1136 z1136 st1136 hQ1136
  subst l1136 y1136 z1136
  obtain ⟨rfl, N1136q, Kc1136, fq1136_0, fq1136_1, fq1136_2, fq1136_3⟩ := hQ1136
  have Zc1138 : n0 ≤ T1136.heap.size := Nat.le_trans Zc1135 Kc1136.1
  have N1136 := Fr.app N1125 N1136q
  refine Gl.st (B := (T1136.setTop (mkF m 193 L1124 [(.ref b1134)]))) (fun t k => st1136.trans k) ?_
  obtain ⟨L1139, hL1139⟩ : ∃ z : Array Slot, z = #[.val (.int p1), .val (.int p2), .val (.int p3), .val (.int p4), .val (.long q5), .second, .val (.int p6), .val (.int (0 : Int32)), .val (.int w8e), od9, .val (.ref b11_t0), .val (.ref b17_t0), .val .null, .val (.int y13_92_86), .val (.int y14_99_88), .val (.ref b91), .val (.ref b1098), .val (.ref b1119), .val (.ref b1134), .unset, .unset, .unset, .unset] := ⟨_, rfl⟩
  refine Gl.st (B := (T1136.setTop (mkF m 196 L1139 [(.int (1 : Int32))]))) (fun t k => XS.astore X1136.here hx rfl (hb hby at_193) rfl rfl (l' := L1139) (stAt hL1124 hL1139 rfl rfl) (XS.iconst X1136.here hx rfl (hb hby at_195) k)) ?_
  obtain ⟨T1140, h1140, k1140, X1140, e1140, E1140, A1140, Ex1140, st1140⟩ := newPE X1136 hx hZ (tw hw 14 rfl) rfl (g := (mkF m 196 L1139 [(.int (1 : Int32))])) rfl (hb hby at_196) rfl (by decide) (cap := 1) (by decide) (by decide) (by decide) (by decide) (ad := "[B") rfl
  obtain ⟨b1140, gq1140⟩ : ∃ z, z = T1136.heap.size := ⟨_, rfl⟩
  rw [← gq1140] at A1140 Ex1140 st1140
  have V1140 : Arv Z h1140 b1140 k1140 .byte (1 : Int32) [(.int (0 : Int32))] (.int (0 : Int32)) := (Arv.new A1140 (by decide)).pad (pad_rep [] (.int (0 : Int32)) 1)
  have g_b1140 : n0 ≤ b1140 := Nat.le_trans Zc1138 (Nat.le_of_eq gq1140.symm)
  have lt_b1140 := V1140.lt
  have Zc1141 : n0 ≤ h1140.size := Nat.le_trans Zc1138 E1140.1
  refine Gl.st (B := (T1140.setTop (mkF m 198 L1139 [(.ref b1140)]))) st1140 ?_
  refine Gl.st (B := (T1140.setTop (mkF m 203 L1139 [(.int (p6.toInt8.toInt32)), (.int (0 : Int32)), (.ref b1140), (.ref b1140)]))) (fun t k => XS.dup X1140.here hx rfl (hb hby at_198) rfl rfl (XS.iconst X1140.here hx rfl (hb hby at_199) (XS.iload X1140.here hx rfl (hb hby at_200) (ldAt hL1139 rfl) (XS.i2b X1140.here hx rfl (hb hby at_202) rfl k)))) ?_
  obtain ⟨x203_1142, hx203_1142⟩ : ∃ z : Int32, z = (p6.toInt8.toInt32) := ⟨_, rfl⟩
  refine Gl.cast (B := (T1140.setTop (mkF m 203 L1139 [(.int x203_1142), (.int (0 : Int32)), (.ref b1140), (.ref b1140)]))) (by rw [hx203_1142]) ?_
  obtain ⟨cl1143, Ar1143, q1143, S1143, P1143, H1143, G1143⟩ := (id V1140)
  have hin203_1143 : ¬ ((0 : Int32) < 0 ∨ cl1143.slots.size ≤ ((0 : Int32)).toNatClampNeg) := inb_of S1143 ⟨by decide, by decide⟩
  obtain ⟨T1143, h1143, X1143, e1143, W1143, st1143⟩ := stB X1140 hx hZ e1140 Ar1143 (j := (0 : Int32)) hin203_1143 (g := (mkF m 203 L1139 [(.int x203_1142), (.int (0 : Int32)), (.ref b1140), (.ref b1140)])) rfl rfl (hb hby at_203)
  have V1143 : Arv Z h1143 b1140 k1140 .byte (1 : Int32) [(.int (nar .byte x203_1142))] (.int (0 : Int32)) := Arv.set Ar1143 q1143 S1143 P1143 H1143 G1143 (fits_nar_byte _) W1143 0 rfl (Nat.le_of_ble_eq_true rfl)
  have Zc1144 : n0 ≤ h1143.size := Nat.le_trans Zc1141 (Nat.le_of_eq W1143.size.symm)
  have N1143 := Fr.snoc X1143 N1136 g_b1140
  refine Gl.st (B := (T1143.setTop (mkF m 204 L1139 [(.ref b1140)]))) st1143 ?_
  obtain ⟨L1145, hL1145⟩ : ∃ z : Array Slot, z = #[.val (.int p1), .val (.int p2), .val (.int p3), .val (.int p4), .val (.long q5), .second, .val (.int p6), .val (.int (0 : Int32)), .val (.int w8e), od9, .val (.ref b11_t0), .val (.ref b17_t0), .val .null, .val (.int y13_92_86), .val (.int y14_99_88), .val (.ref b91), .val (.ref b1098), .val (.ref b1119), .val (.ref b1134), .val (.ref b1140), .unset, .unset, .unset] := ⟨_, rfl⟩
  refine Gl.st (B := (T1143.setTop (mkF m 206 L1145 []))) (fun t k => XS.astore X1143.here hx rfl (hb hby at_204) rfl rfl (l' := L1145) (stAt hL1139 hL1145 rfl rfl) k) ?_
  have ne_b1119_b1134_1146 : b1119 ≠ b1134 := Nat.ne_of_lt (Nat.lt_of_lt_of_le lt_b1119 (Nat.le_trans Kc1121.1 (Nat.le_trans Kc1125.1 (Nat.le_of_eq gq1134.symm))))
  have ne_b1119_b1140_1147 : b1119 ≠ b1140 := Nat.ne_of_lt (Nat.lt_of_lt_of_le lt_b1119 (Nat.le_trans Kc1121.1 (Nat.le_trans Kc1125.1 (Nat.le_trans E1134.1 (Nat.le_trans Kc1136.1 (Nat.le_of_eq gq1140.symm))))))
  have c1148 := ((((fq1125_4.ext E1134).keep Kc1136 (ninS ne_b1119_b1134_1146 nin0)).ext E1140).other W1143 (Or.inl ne_b1119_b1140_1147))
  have c1149 := ((((fq1125_2.ext E1134).keep Kc1136 (ninS ne_b1119_b1134_1146 nin0)).ext E1140).other W1143 (Or.inl ne_b1119_b1140_1147))
  have ne_b91_b1106_1150 : b91 ≠ b1106 := Nat.ne_of_lt (Nat.lt_of_lt_of_le V_b91.lt (Nat.le_trans E1098.1 (Nat.le_trans Kc1101.1 (Nat.le_of_eq gq1106.symm))))
  have ne_b91_b1098_1151 : b91 ≠ b1098 := Nat.ne_of_lt (Nat.lt_of_lt_of_le V_b91.lt (Nat.le_of_eq gq1098.symm))
  have ne_b91_b1119_1152 : b91 ≠ b1119 := Nat.ne_of_lt (Nat.lt_of_lt_of_le V_b91.lt (Nat.le_trans E1098.1 (Nat.le_trans Kc1101.1 (Nat.le_trans E1106.1 (Nat.le_trans (Nat.le_of_eq W1109.size.symm) (Nat.le_trans Kc1111.1 (Nat.le_of_eq gq1119.symm)))))))
  have ne_b91_b1134_1153 : b91 ≠ b1134 := Nat.ne_of_lt (Nat.lt_of_lt_of_le V_b91.lt (Nat.le_trans E1098.1 (Nat.le_trans Kc1101.1 (Nat.le_trans E1106.1 (Nat.le_trans (Nat.le_of_eq W1109.size.symm) (Nat.le_trans Kc1111.1 (Nat.le_trans E1119.1 (Nat.le_trans Kc1121.1 (Nat.le_trans Kc1125.1 (Nat.le_of_eq gq1134.symm))))))))))
  have ne_b91_b1140_1154 : b91 ≠ b1140 := Nat.ne_of_lt (Nat.lt_of_lt_of_le V_b91.lt (Nat.le_trans E1098.1 (Nat.le_trans Kc1101.1 (Nat.le_trans E1106.1 (Nat.le_trans (Nat.le_of_eq W1109.size.symm) (Nat.le_trans Kc1111.1 (Nat.le_trans E1119.1 (Nat.le_trans Kc1121.1 (Nat.le_trans Kc1125.1 (Nat.le_trans E1134.1 (Nat.le_trans Kc1136.1 (Nat.le_of_eq gq1140.symm))))))))))))
  have c1155 := ((((((((((((V_b91.ext E1098).keep Kc1101 nin0).ext E1106).other W1109 ne_b91_b1106_1150).keep Kc1111 (ninS ne_b91_b1098_1151 nin0)).ext E1119).keep Kc1121 (ninS ne_b91_b1119_1152 nin0)).keep Kc1125 (ninS ne_b91_b1119_1152 nin0)).ext E1134).keep Kc1136 (ninS ne_b91_b1134_1153 nin0)).ext E1140).other W1143 ne_b91_b1140_1154)
  have ne_b1125_t0_b1134_1156 : b1125_t0 ≠ b1134 := Nat.ne_of_lt (Nat.lt_of_lt_of_le lt_b1125_t0 (Nat.le_of_eq gq1134.symm))
  have ne_b1125_t0_b1140_1157 : b1125_t0 ≠ b1140 := Nat.ne_of_lt (Nat.lt_of_lt_of_le lt_b1125_t0 (Nat.le_trans E1134.1 (Nat.le_trans Kc1136.1 (Nat.le_of_eq gq1140.symm))))
  have c1158 := ((((fq1125_5.ext E1134).keep Kc1136 (ninS ne_b1125_t0_b1134_1156 nin0)).ext E1140).other W1143 ne_b1125_t0_b1140_1157)
  have c1159 := ((((fq1125_1.ext E1134).keep Kc1136).ext E1140).wr W1143)
  refine Gl.cast (B := (T1143.setTop (mkF m 206 #[.val (.int p1), .val (.int p2), .val (.int p3), .val (.int p4), .val (.long q5), .second, .val (.int p6), .val (.int (0 : Int32)), .val (.int w8e), od9, .val (.ref b11_t0), .val (.ref b17_t0), .val .null, .val (.int y13_92_86), .val (.int y14_99_88), .val (.ref b91), .val (.ref b1098), .val (.ref b1119), .val (.ref b1134), .val (.ref b1140), .unset, .unset, .unset] []))) (by rw [hL1145]) ?_
  exact sg_206_13 l Z a0 hw hx hby hml hret hlk hZ hown n0 p1 p2 p3 p4 q5 p6 w8e b11_t0 b17_t0 y13_92_86 y14_99_88 b91 b1098 b1119 b1134 b1140 b1125_t0 k91 nra vra k1125_kx_t0 h1143 (X1143.more (by decide) (by decide)) e1143 N1143 Zc1144 c1148 c1149 c1155 c1158 fq1125_6 hr357_hE c1159 hr605_hE
theorem pd_0s448_19_0 : parseMethodDescriptor "()Z" = some ⟨[], some .boolean⟩ := by decide +kernel
set_option maxRecDepth 65536 in
set_option maxHeartbeats 40000000 in
theorem sg_448_19 (l : Launch) (Z : State) (a0 : Array Value) (hw : ∀ d ∈ tables_1, d.before a0 Z = true) {p : Program} {e : Env} {s : State} {m : MethodId} {A0 : Array Value} {below : List Frame} {meth : Method} {c : Code} (hx : p.tables.exec = Jvm.exec) (hby : c.code = code) (hml : c.maxLocals = 23) (hret : meth.sig.returnType = ret) (hlk : meth.locks = false) (hZ : Z.Warmed39 s.vm) (hown : s.vm.findClass "com/example/limpet/limpet/group/MemberTakeOverPinLaw" = some m.cls) (n0 : Nat) (p1 : Int32) (p2 : Int32) (p3 : Int32) (p4 : Int32) (q5 : Int64) (p6 : Int32) (w8e : Int32) (b11_t0 : Addr) (b17_t0 : Addr) (y13_92_111 : Int32) (y14_99_113 : Int32) (b116 : Addr) (b1123 : Addr) (b1144 : Addr) (b2156 : Addr) (b2161 : Addr) (x257_2179 : Int32) (x265_2184 : Int32) (x276_2189 : Int64) (k116 : ClassId) (nra : Int32) (vra : List Value) {T0 : State} {Lc : List Loc} (h0 : Heap) (X0 : Stand p l e room_1 s m A0 below meth c T0 Lc 15 44) (e0 : T0.heap = h0) (N0 : Fr n0 Lc) (Z0 : n0 ≤ h0.size) (F_id_b2161 : Fld Z h0 b2161 "com/example/limpet/limpet/group/Member" "id" "Ljava/lang/String;" (.ref b11_t0)) (F_instanceId_b2161 : Fld Z h0 b2161 "com/example/limpet/limpet/group/Member" "instanceId" "Ljava/lang/String;" .null) (F_sess2_b2161 : Fld Z h0 b2161 "com/example/limpet/limpet/group/Member" "sessionTimeoutMs" "I" (.int p3)) (F_reba3_b2161 : Fld Z h0 b2161 "com/example/limpet/limpet/group/Member" "rebalanceTimeoutMs" "I" (.int p4)) (F_sess4_b2161 : Fld Z h0 b2161 "com/example/limpet/limpet/group/Member" "sessionDeadline" "J" (.long q5)) (E_b2161 : Exa Z h0 b2161 "com/example/limpet/limpet/group/Member") (F_pendingJoin_b2161 : Fld Z h0 b2161 "com/example/limpet/limpet/group/Member" "pendingJoin" "Ljava/util/function/Consumer;" .null) (F_pendingSync_b2161 : Fld Z h0 b2161 "com/example/limpet/limpet/group/Member" "pendingSync" "Ljava/util/function/Consumer;" .null) (F_id_b2156 : Fld Z h0 b2156 "com/example/limpet/limpet/group/Member" "id" "Ljava/lang/String;" (.ref b17_t0)) (F_instanceId_b2156 : Fld Z h0 b2156 "com/example/limpet/limpet/group/Member" "instanceId" "Ljava/lang/String;" .null) (F_generation_b2156 : Fld Z h0 b2156 "com/example/limpet/limpet/group/Member" "generation" "I" (.int p1)) (F_assignment_b2156 : Fld Z h0 b2156 "com/example/limpet/limpet/group/Member" "assignment" "[B" (.ref b116)) (F_protocols_b2156 : Fld Z h0 b2156 "com/example/limpet/limpet/group/Member" "protocols" "Ljava/util/List;" .null) (F_sess2_b2156 : Fld Z h0 b2156 "com/example/limpet/limpet/group/Member" "sessionTimeoutMs" "I" (.int x257_2179)) (F_reba3_b2156 : Fld Z h0 b2156 "com/example/limpet/limpet/group/Member" "rebalanceTimeoutMs" "I" (.int x265_2184)) (F_sess4_b2156 : Fld Z h0 b2156 "com/example/limpet/limpet/group/Member" "sessionDeadline" "J" (.long x276_2189)) (F_pendingJoin_b2156 : Fld Z h0 b2156 "com/example/limpet/limpet/group/Member" "pendingJoin" "Ljava/util/function/Consumer;" .null) (F_pendingSync_b2156 : Fld Z h0 b2156 "com/example/limpet/limpet/group/Member" "pendingSync" "Ljava/util/function/Consumer;" .null) (V_b116 : Arv Z h0 b116 k116 .byte nra vra (.int (0 : Int32))) (hr605_hE : (w8e = (1 : Int32) ∧ nra = (0 : Int32) ∧ vra = []) ∨ (w8e = (0 : Int32) ∧ nra = (2 : Int32) ∧ vra = [(.int y13_92_111), (.int y14_99_113)])) (hq694 : x257_2179 = (p3 ^^^ (-1 : Int32))) (hq705 : x265_2184 = (p4 ^^^ (-1 : Int32))) (hq720 : x276_2189 = (q5 ^^^ (-1 : Int64))) (E_b2156 : Exa Z h0 b2156 "com/example/limpet/limpet/group/Member") :
    Gl p e below (fun o U' => ∃ v L, o = .returned v ∧ (v = some (.int (1 : Int32)) ∧ Fr n0 L) ∧ FrameEnd s o U' L room_1.cells room_1.slots) (T0.setTop (mkF m 448 #[.val (.int p1), .val (.int p2), .val (.int p3), .val (.int p4), .val (.long q5), .second, .val (.int p6), .val (.int (1 : Int32)), .val (.int w8e), od9, .val (.ref b11_t0), .val (.ref b17_t0), .val .null, .val (.int y13_92_111), .val (.int y14_99_113), .val (.ref b116), .val (.ref b1123), .val .null, .val (.ref b1144), od19, .val (.ref b2156), .val (.ref b2161), .val (.int (1 : Int32))] [])) := by
  obtain ⟨L0, hL0⟩ : ∃ z : Array Slot, z = #[.val (.int p1), .val (.int p2), .val (.int p3), .val (.int p4), .val (.long q5), .second, .val (.int p6), .val (.int (1 : Int32)), .val (.int w8e), od9, .val (.ref b11_t0), .val (.ref b17_t0), .val .null, .val (.int y13_92_111), .val (.int y14_99_113), .val (.ref b116), .val (.ref b1123), .val .null, .val (.ref b1144), od19, .val (.ref b2156), .val (.ref b2161), .val (.int (1 : Int32))] := ⟨_, rfl⟩
  refine Gl.cast (B := (T0.setTop (mkF m 448 L0 []))) (by rw [hL0]) ?_
  refine Gl.st (B := (T0.setTop (mkF m 455 L0 [(.ref b2161)]))) (fun t k => XS.iload X0.here hx rfl (hb hby at_448) (ldAt hL0 rfl) (XS.ifNo X0.here hx rfl (hb hby at_450) rfl (by decide) (XS.aload X0.here hx rfl (hb hby at_453) (ldAt hL0 rfl) rfl k))) ?_
  obtain ⟨T4240, X4240, e4240, st4240⟩ := getF X0 hx hZ hown (host := "") (Or.inl (tw hw 166 rfl)) Via.refl e0 F_id_b2161 (g := (mkF m 455 L0 [(.ref b2161)])) rfl rfl (hb hby at_455)
  refine Gl.st (B := (T4240.setTop (mkF m 458 L0 [(.ref b11_t0)]))) st4240 ?_
  refine Gl.st (B := (T4240.setTop (mkF m 465 L0 [(.ref b2161)]))) (fun t k => XS.aload X4240.here hx rfl (hb hby at_458) (ldAt hL0 rfl) rfl (Jvm.RoadKit.acmp (g := (mkF m 460 L0 [(.ref b11_t0), (.ref b11_t0)])) X4240 hx rfl rfl rfl (pc0 := 460) (pc' := 463) (same := true) rfl (hb hby at_460) rfl (decide_eq_true rfl) (by decide) (by decide) (XS.aload X4240.here hx rfl (hb hby at_463) (ldAt hL0 rfl) rfl k))) ?_
  obtain ⟨T4241, X4241, e4241, st4241⟩ := getF X4240 hx hZ hown (host := "") (Or.inl (tw hw 167 rfl)) Via.refl e4240 F_instanceId_b2161 (g := (mkF m 465 L0 [(.ref b2161)])) rfl rfl (hb hby at_465)
  refine Gl.st (B := (T4241.setTop (mkF m 468 L0 [.null]))) st4241 ?_
  obtain ⟨L4242, hL4242⟩ : ∃ z : Array Slot, z = #[.val (.int p1), .val (.int p2), .val (.int p3), .val (.int p4), .val (.long q5), .second, .val (.int p6), .val (.int (1 : Int32)), .val (.int w8e), od9, .val (.ref b11_t0), .val (.ref b17_t0), .val .null, .val (.int y13_92_111), .val (.int y14_99_113), .val (.ref b116), .val (.ref b1123), .val .null, .val (.ref b1144), od19, .val (.ref b2156), .val (.ref b2161), .val (.int (1 : Int32))] := ⟨_, rfl⟩
  refine Gl.st (B := (T4241.setTop (mkF m 482 L4242 [(.int (1 : Int32))]))) (fun t k => XS.aload X4241.here hx rfl (hb hby at_468) (ldAt hL0 rfl) rfl (Jvm.RoadKit.acmp (g := (mkF m 470 L0 [.null, .null])) X4241 hx rfl rfl rfl (pc0 := 470) (pc' := 473) (same := true) rfl (hb hby at_470) rfl (decide_eq_true rfl) (by decide) (by decide) (XS.iconst X4241.here hx rfl (hb hby at_473) (XS.goto X4241.here hx rfl (pc0 := 474) (pc' := 478) rfl (hb hby at_474) (by decide) (by decide) (XS.istore X4241.here hx rfl (hb hby at_478) rfl (l' := L4242) (stAt hL0 hL4242 rfl rfl) (XS.iload X4241.here hx rfl (hb hby at_480) (ldAt hL4242 rfl) k)))))) ?_
  refine Gl.st (B := (T4241.setTop (mkF m 487 L4242 [(.ref b2161)]))) (fun t k => XS.ifNo X4241.here hx rfl (hb hby at_482) rfl (by decide) (XS.aload X4241.here hx rfl (hb hby at_485) (ldAt hL4242 rfl) rfl k)) ?_
  obtain ⟨T4243, X4243, e4243, st4243⟩ := getF X4241 hx hZ hown (host := "") (Or.inl (tw hw 119 rfl)) Via.refl e4241 F_sess2_b2161 (g := (mkF m 487 L4242 [(.ref b2161)])) rfl rfl (hb hby at_487)
  refine Gl.st (B := (T4243.setTop (mkF m 490 L4242 [(.int p3)]))) st4243 ?_
  refine Gl.st (B := (T4243.setTop (mkF m 496 L4242 [(.ref b2161)]))) (fun t k => XS.iloadN X4243.here hx rfl (hb hby at_490) (ldAt hL4242 rfl) (XS.icmpNo X4243.here hx rfl (hb hby at_491) rfl (teq rfl).2 (XS.aload X4243.here hx rfl (hb hby at_494) (ldAt hL4242 rfl) rfl k))) ?_
  obtain ⟨T4244, X4244, e4244, st4244⟩ := getF X4243 hx hZ hown (host := "") (Or.inl (tw hw 121 rfl)) Via.refl e4243 F_reba3_b2161 (g := (mkF m 496 L4242 [(.ref b2161)])) rfl rfl (hb hby at_496)
  refine Gl.st (B := (T4244.setTop (mkF m 499 L4242 [(.int p4)]))) st4244 ?_
  refine Gl.st (B := (T4244.setTop (mkF m 505 L4242 [(.ref b2161)]))) (fun t k => XS.iloadN X4244.here hx rfl (hb hby at_499) (ldAt hL4242 rfl) (XS.icmpNo X4244.here hx rfl (hb hby at_500) rfl (teq rfl).2 (XS.aload X4244.here hx rfl (hb hby at_503) (ldAt hL4242 rfl) rfl k))) ?_
  obtain ⟨T4245, X4245, e4245, st4245⟩ := getF X4244 hx hZ hown (host := "") (Or.inl (tw hw 124 rfl)) Via.refl e4244 F_sess4_b2161 (g := (mkF m 505 L4242 [(.ref b2161)])) rfl rfl (hb hby at_505)
  refine Gl.st (B := (T4245.setTop (mkF m 508 L4242 [(.long q5)]))) st4245 ?_
  refine Gl.st (B := (T4245.setTop (mkF m 511 L4242 [(.int (lcmpW q5 q5))]))) (fun t k => XS.lload X4245.here hx rfl (hb hby at_508) (ldAt hL4242 rfl) (XS.lcmp X4245.here hx rfl (hb hby at_510) rfl k)) ?_
  have hc511_4246 : q5 = q5 := by
    rfl
  obtain ⟨L4247, hL4247⟩ : ∃ z : Array Slot, z = #[.val (.int p1), .val (.int p2), .val (.int p3), .val (.int p4), .val (.long q5), .second, .val (.int p6), .val (.int (1 : Int32)), .val (.int w8e), od9, .val (.ref b11_t0), .val (.ref b17_t0), .val .null, .val (.int y13_92_111), .val (.int y14_99_113), .val (.ref b116), .val (.ref b1123), .val .null, .val (.ref b1144), od19, .val (.ref b2156), .val (.ref b2161), .val (.int (1 : Int32))] := ⟨_, rfl⟩
  refine Gl.st (B := (T4245.setTop (mkF m 526 L4247 []))) (fun t k => XS.ifNo X4245.here hx rfl (hb hby at_511) rfl ((if0 _ _).trans (teq ((lw_eq q5 q5).mpr hc511_4246)).2) (XS.iconst X4245.here hx rfl (hb hby at_514) (XS.goto X4245.here hx rfl (pc0 := 515) (pc' := 519) rfl (hb hby at_515) (by decide) (by decide) (XS.istore X4245.here hx rfl (hb hby at_519) rfl (l' := L4247) (stAt hL4242 hL4247 rfl rfl) (XS.iload X4245.here hx rfl (hb hby at_521) (ldAt hL4247 rfl) (XS.ifNo X4245.here hx rfl (hb hby at_523) rfl (by decide) k)))))) ?_
  refine Gl.st (B := (T4245.setTop (mkF m 528 L4247 [(.ref b2161)]))) (fun t k => XS.aload X4245.here hx rfl (hb hby at_526) (ldAt hL4247 rfl) rfl k) ?_
  obtain ⟨cq4248, kq4248, q4248a, q4248b, q4248c⟩ := isOf hZ e4245 E_b2161
  obtain ⟨_, _, ⟨T4248, L4248q, k4248, n4248⟩, -, X4248, ⟨Lc4248, hQ4248, l4248, y4248, z4248⟩, st4248⟩ := X4245.virtualBack hx (y := (⟨"com/example/limpet/limpet/group/Member", "isWaiting", "()Z"⟩ : MethodName)) (z := (⟨"com/example/limpet/limpet/group/Member", "isWaiting", "()Z"⟩ : MethodName)) hown (mvT hZ (tw hw 168 rfl)) (mvT hZ (tw hw 169 rfl)) (notFace_of_selects (args := #[]) (mvT hZ (tw hw 171 rfl))) (mvT hZ (tw hw 171 rfl)) (mvT hZ (tw hw 170 rfl)) (by decide) (backOf (W := 0) (rm24 l Z a0 hw [] b2161 h0 n0 Z0 F_pendingJoin_b2161 F_pendingSync_b2161) hZ (tw hw 172 rfl) (tw hw 103 rfl) (by decide) (by decide)) q4248a q4248c (g := (mkF m 528 L4247 [(.ref b2161)])) rfl (szAt hml hL4247 rfl) (Steps.refl _) (argsL := []) (rest := []) (lenOf pd_0s448_19_0 rfl) rfl (by show 2 * 0 + _ ≤ _; exact Nat.le_of_eq rfl) (hb hby at_528) (fun _ _ => ⟨rfl, e4245, (by decide : 15 + 0 ≤ _), (by decide : 44 + 0 ≤ _)⟩)
  dsimp only [Pt.U, Pt.locs, Pt.cells, Pt.slots] at X4248 l4248 y4248 z4248 st4248 hQ4248
  subst l4248 y4248 z4248
  obtain ⟨rfl, N4248q, eh4248⟩ := hQ4248
  have N4248 := Fr.app N0 N4248q
  refine Gl.st (B := (T4248.setTop (mkF m 531 L4247 [(.int (0 : Int32))]))) (fun t k => st4248.trans k) ?_
  obtain ⟨L4249, hL4249⟩ : ∃ z : Array Slot, z = #[.val (.int p1), .val (.int p2), .val (.int p3), .val (.int p4), .val (.long q5), .second, .val (.int p6), .val (.int (1 : Int32)), .val (.int w8e), od9, .val (.ref b11_t0), .val (.ref b17_t0), .val .null, .val (.int y13_92_111), .val (.int y14_99_113), .val (.ref b116), .val (.ref b1123), .val .null, .val (.ref b1144), od19, .val (.ref b2156), .val (.ref b2161), .val (.int (1 : Int32))] := ⟨_, rfl⟩
  refine Gl.st (B := (T4248.setTop (mkF m 546 L4249 []))) (fun t k => XS.ifNo X4248.here hx rfl (hb hby at_531) rfl (by decide) (XS.iconst X4248.here hx rfl (hb hby at_534) (XS.goto X4248.here hx rfl (pc0 := 535) (pc' := 539) rfl (hb hby at_535) (by decide) (by decide) (XS.istore X4248.here hx rfl (hb hby at_539) rfl (l' := L4249) (stAt hL4247 hL4249 rfl rfl) (XS.iload X4248.here hx rfl (hb hby at_541) (ldAt hL4249 rfl) (XS.ifNo X4248.here hx rfl (hb hby at_543) rfl (by decide) k)))))) ?_
  refine Gl.st (B := (T4248.setTop (mkF m 548 L4249 [(.ref b2156)]))) (fun t k => XS.aload X4248.here hx rfl (hb hby at_546) (ldAt hL4249 rfl) rfl k) ?_
  obtain ⟨T4250, X4250, e4250, st4250⟩ := getF X4248 hx hZ hown (host := "") (Or.inl (tw hw 166 rfl)) Via.refl eh4248 F_id_b2156 (g := (mkF m 548 L4249 [(.ref b2156)])) rfl rfl (hb hby at_548)
  refine Gl.st (B := (T4250.setTop (mkF m 551 L4249 [(.ref b17_t0)]))) st4250 ?_
  refine Gl.st (B := (T4250.setTop (mkF m 558 L4249 [(.ref b2156)]))) (fun t k => XS.aload X4250.here hx rfl (hb hby at_551) (ldAt hL4249 rfl) rfl (Jvm.RoadKit.acmp (g := (mkF m 553 L4249 [(.ref b17_t0), (.ref b17_t0)])) X4250 hx rfl rfl rfl (pc0 := 553) (pc' := 556) (same := true) rfl (hb hby at_553) rfl (decide_eq_true rfl) (by decide) (by decide) (XS.aload X4250.here hx rfl (hb hby at_556) (ldAt hL4249 rfl) rfl k))) ?_
  obtain ⟨T4251, X4251, e4251, st4251⟩ := getF X4250 hx hZ hown (host := "") (Or.inl (tw hw 167 rfl)) Via.refl e4250 F_instanceId_b2156 (g := (mkF m 558 L4249 [(.ref b2156)])) rfl rfl (hb hby at_558)
  refine Gl.st (B := (T4251.setTop (mkF m 561 L4249 [.null]))) st4251 ?_
  refine Gl.st (B := (T4251.setTop (mkF m 568 L4249 [(.ref b2156)]))) (fun t k => XS.aload X4251.here hx rfl (hb hby at_561) (ldAt hL4249 rfl) rfl (Jvm.RoadKit.acmp (g := (mkF m 563 L4249 [.null, .null])) X4251 hx rfl rfl rfl (pc0 := 563) (pc' := 566) (same := true) rfl (hb hby at_563) rfl (decide_eq_true rfl) (by decide) (by decide) (XS.aload X4251.here hx rfl (hb hby at_566) (ldAt hL4249 rfl) rfl k))) ?_
  obtain ⟨T4252, X4252, e4252, st4252⟩ := getF X4251 hx hZ hown (host := "") (Or.inl (tw hw 114 rfl)) Via.refl e4251 F_generation_b2156 (g := (mkF m 568 L4249 [(.ref b2156)])) rfl rfl (hb hby at_568)
  refine Gl.st (B := (T4252.setTop (mkF m 571 L4249 [(.int p1)]))) st4252 ?_
  obtain ⟨L4253, hL4253⟩ : ∃ z : Array Slot, z = #[.val (.int p1), .val (.int p2), .val (.int p3), .val (.int p4), .val (.long q5), .second, .val (.int p6), .val (.int (1 : Int32)), .val (.int w8e), od9, .val (.ref b11_t0), .val (.ref b17_t0), .val .null, .val (.int y13_92_111), .val (.int y14_99_113), .val (.ref b116), .val (.ref b1123), .val .null, .val (.ref b1144), od19, .val (.ref b2156), .val (.ref b2161), .val (.int (1 : Int32))] := ⟨_, rfl⟩
  refine Gl.st (B := (T4252.setTop (mkF m 582 L4253 []))) (fun t k => XS.iloadN X4252.here hx rfl (hb hby at_571) (ldAt hL4249 rfl) (XS.icmpNo X4252.here hx rfl (hb hby at_572) rfl (teq rfl).2 (XS.iconst X4252.here hx rfl (hb hby at_575) (XS.goto X4252.here hx rfl (pc0 := 576) (pc' := 580) rfl (hb hby at_576) (by decide) (by decide) (XS.istore X4252.here hx rfl (hb hby at_580) rfl (l' := L4253) (stAt hL4249 hL4253 rfl rfl) k))))) ?_
  refine Gl.cast (B := (T4252.setTop (mkF m 582 #[.val (.int p1), .val (.int p2), .val (.int p3), .val (.int p4), .val (.long q5), .second, .val (.int p6), .val (.int (1 : Int32)), .val (.int w8e), od9, .val (.ref b11_t0), .val (.ref b17_t0), .val .null, .val (.int y13_92_111), .val (.int y14_99_113), .val (.ref b116), .val (.ref b1123), .val .null, .val (.ref b1144), od19, .val (.ref b2156), .val (.ref b2161), .val (.int (1 : Int32))] []))) (by rw [hL4253]) ?_
  exact sg_582_11 l Z a0 hw hx hby hml hret hlk hZ hown n0 p1 p2 p3 p4 q5 p6 w8e (od9) (.val (.ref b11_t0)) (.val (.ref b17_t0)) (.val .null) y13_92_111 y14_99_113 b116 b1123 (.val (.ref b1144)) (od19) b2156 b2161 k116 nra vra x257_2179 x265_2184 x276_2189 h0 (X4252.more (by decide) (by decide)) e4252 N4248 Z0 F_assignment_b2156 V_b116 hr605_hE F_protocols_b2156 F_sess2_b2156 F_reba3_b2156 F_sess4_b2156 F_pendingJoin_b2156 F_pendingSync_b2156 hq694 hq705 hq720 E_b2156
theorem pd_0s325_18_0 : parseMethodDescriptor "([BZBB)Z" = some ⟨[(.array .byte), .boolean, .byte, .byte], some .boolean⟩ := by decide +kernel
set_option maxRecDepth 65536 in
set_option maxHeartbeats 40000000 in
theorem sg_325_18 (l : Launch) (Z : State) (a0 : Array Value) (hw : ∀ d ∈ tables_1, d.before a0 Z = true) {p : Program} {e : Env} {s : State} {m : MethodId} {A0 : Array Value} {below : List Frame} {meth : Method} {c : Code} (hx : p.tables.exec = Jvm.exec) (hby : c.code = code) (hml : c.maxLocals = 23) (hret : meth.sig.returnType = ret) (hlk : meth.locks = false) (hZ : Z.Warmed39 s.vm) (hown : s.vm.findClass "com/example/limpet/limpet/group/MemberTakeOverPinLaw" = some m.cls) (n0 : Nat) (p1 : Int32) (p2 : Int32) (p3 : Int32) (p4 : Int32) (q5 : Int64) (p6 : Int32) (w8e : Int32) (b11_t0 : Addr) (b17_t0 : Addr) (y13_92_111 : Int32) (y14_99_113 : Int32) (b116 : Addr) (b1123 : Addr) (b1144 : Addr) (od19 : Slot) (b2156 : Addr) (b2161 : Addr) (k116 : ClassId) (nra : Int32) (vra : List Value) (x257_2179 : Int32) (x265_2184 : Int32) (x276_2189 : Int64) {T0 : State} {Lc : List Loc} (h0 : Heap) (X0 : Stand p l e room_1 s m A0 below meth c T0 Lc 15 44) (e0 : T0.heap = h0) (N0 : Fr n0 Lc) (Z0 : n0 ≤ h0.size) (F_generation_b2161 : Fld Z h0 b2161 "com/example/limpet/limpet/group/Member" "generation" "I" (.int p1)) (F_assignment_b2161 : Fld Z h0 b2161 "com/example/limpet/limpet/group/Member" "assignment" "[B" (.ref b116)) (V_b116 : Arv Z h0 b116 k116 .byte nra vra (.int (0 : Int32))) (hr357_hE : (w8e = (1 : Int32) ∧ nra = (0 : Int32) ∧ vra = []) ∨ (w8e = (0 : Int32) ∧ nra = (2 : Int32) ∧ vra = [(.int y13_92_111), (.int y14_99_113)])) (F_protocols_b2161 : Fld Z h0 b2161 "com/example/limpet/limpet/group/Member" "protocols" "Ljava/util/List;" .null) (F_id_b2161 : Fld Z h0 b2161 "com/example/limpet/limpet/group/Member" "id" "Ljava/lang/String;" (.ref b11_t0)) (F_instanceId_b2161 : Fld Z h0 b2161 "com/example/limpet/limpet/group/Member" "instanceId" "Ljava/lang/String;" .null) (F_sess2_b2161 : Fld Z h0 b2161 "com/example/limpet/limpet/group/Member" "sessionTimeoutMs" "I" (.int p3)) (F_reba3_b2161 : Fld Z h0 b2161 "com/example/limpet/limpet/group/Member" "rebalanceTimeoutMs" "I" (.int p4)) (F_sess4_b2161 : Fld Z h0 b2161 "com/example/limpet/limpet/group/Member" "sessionDeadline" "J" (.long q5)) (F_pendingJoin_b2161 : Fld Z h0 b2161 "com/example/limpet/limpet/group/Member" "pendingJoin" "Ljava/util/function/Consumer;" .null) (F_pendingSync_b2161 : Fld Z h0 b2161 "com/example/limpet/limpet/group/Member" "pendingSync" "Ljava/util/function/Consumer;" .null) (F_id_b2156 : Fld Z h0 b2156 "com/example/limpet/limpet/group/Member" "id" "Ljava/lang/String;" (.ref b17_t0)) (F_instanceId_b2156 : Fld Z h0 b2156 "com/example/limpet/limpet/group/Member" "instanceId" "Ljava/lang/String;" .null) (F_generation_b2156 : Fld Z h0 b2156 "com/example/limpet/limpet/group/Member" "generation" "I" (.int p1)) (F_assignment_b2156 : Fld Z h0 b2156 "com/example/limpet/limpet/group/Member" "assignment" "[B" (.ref b116)) (F_protocols_b2156 : Fld Z h0 b2156 "com/example/limpet/limpet/group/Member" "protocols" "Ljava/util/List;" .null) (F_sess2_b2156 : Fld Z h0 b2156 "com/example/limpet/limpet/group/Member" "sessionTimeoutMs" "I" (.int x257_2179)) (F_reba3_b2156 : Fld Z h0 b2156 "com/example/limpet/limpet/group/Member" "rebalanceTimeoutMs" "I" (.int x265_2184)) (F_sess4_b2156 : Fld Z h0 b2156 "com/example/limpet/limpet/group/Member" "sessionDeadline" "J" (.long x276_2189)) (F_pendingJoin_b2156 : Fld Z h0 b2156 "com/example/limpet/limpet/group/Member" "pendingJoin" "Ljava/util/function/Consumer;" .null) (F_pendingSync_b2156 : Fld Z h0 b2156 "com/example/limpet/limpet/group/Member" "pendingSync" "Ljava/util/function/Consumer;" .null) (E_b2161 : Exa Z h0 b2161 "com/example/limpet/limpet/group/Member") (hr605_hE : (w8e = (1 : Int32) ∧ nra = (0 : Int32) ∧ vra = []) ∨ (w8e = (0 : Int32) ∧ nra = (2 : Int32) ∧ vra = [(.int y13_92_111), (.int y14_99_113)])) (hq694 : x257_2179 = (p3 ^^^ (-1 : Int32))) (hq705 : x265_2184 = (p4 ^^^ (-1 : Int32))) (hq720 : x276_2189 = (q5 ^^^ (-1 : Int64))) (E_b2156 : Exa Z h0 b2156 "com/example/limpet/limpet/group/Member") :
    Gl p e below (fun o U' => ∃ v L, o = .returned v ∧ (v = some (.int (1 : Int32)) ∧ Fr n0 L) ∧ FrameEnd s o U' L room_1.cells room_1.slots) (T0.setTop (mkF m 325 #[.val (.int p1), .val (.int p2), .val (.int p3), .val (.int p4), .val (.long q5), .second, .val (.int p6), .val (.int (1 : Int32)), .val (.int w8e), od9, .val (.ref b11_t0), .val (.ref b17_t0), .val .null, .val (.int y13_92_111), .val (.int y14_99_113), .val (.ref b116), .val (.ref b1123), .val .null, .val (.ref b1144), od19, .val (.ref b2156), .val (.ref b2161), .unset] [])) := by
  obtain ⟨L0, hL0⟩ : ∃ z : Array Slot, z = #[.val (.int p1), .val (.int p2), .val (.int p3), .val (.int p4), .val (.long q5), .second, .val (.int p6), .val (.int (1 : Int32)), .val (.int w8e), od9, .val (.ref b11_t0), .val (.ref b17_t0), .val .null, .val (.int y13_92_111), .val (.int y14_99_113), .val (.ref b116), .val (.ref b1123), .val .null, .val (.ref b1144), od19, .val (.ref b2156), .val (.ref b2161), .unset] := ⟨_, rfl⟩
  refine Gl.cast (B := (T0.setTop (mkF m 325 L0 []))) (by rw [hL0]) ?_
  refine Gl.st (B := (T0.setTop (mkF m 327 L0 [(.ref b2161)]))) (fun t k => XS.aload X0.here hx rfl (hb hby at_325) (ldAt hL0 rfl) rfl k) ?_
  obtain ⟨T3233, X3233, e3233, st3233⟩ := getF X0 hx hZ hown (host := "") (Or.inl (tw hw 114 rfl)) Via.refl e0 F_generation_b2161 (g := (mkF m 327 L0 [(.ref b2161)])) rfl rfl (hb hby at_327)
  refine Gl.st (B := (T3233.setTop (mkF m 330 L0 [(.int p1)]))) st3233 ?_
  obtain ⟨L3234, hL3234⟩ : ∃ z : Array Slot, z = #[.val (.int p1), .val (.int p2), .val (.int p3), .val (.int p4), .val (.long q5), .second, .val (.int p6), .val (.int (1 : Int32)), .val (.int w8e), od9, .val (.ref b11_t0), .val (.ref b17_t0), .val .null, .val (.int y13_92_111), .val (.int y14_99_113), .val (.ref b116), .val (.ref b1123), .val .null, .val (.ref b1144), od19, .val (.ref b2156), .val (.ref b2161), .val (.int (1 : Int32))] := ⟨_, rfl⟩
  refine Gl.st (B := (T3233.setTop (mkF m 343 L3234 [(.int (1 : Int32))]))) (fun t k => XS.iloadN X3233.here hx rfl (hb hby at_330) (ldAt hL0 rfl) (XS.icmpNo X3233.here hx rfl (hb hby at_331) rfl (teq rfl).2 (XS.iconst X3233.here hx rfl (hb hby at_334) (XS.goto X3233.here hx rfl (pc0 := 335) (pc' := 339) rfl (hb hby at_335) (by decide) (by decide) (XS.istore X3233.here hx rfl (hb hby at_339) rfl (l' := L3234) (stAt hL0 hL3234 rfl rfl) (XS.iload X3233.here hx rfl (hb hby at_341) (ldAt hL3234 rfl) k)))))) ?_
  refine Gl.st (B := (T3233.setTop (mkF m 348 L3234 [(.ref b2161)]))) (fun t k => XS.ifNo X3233.here hx rfl (hb hby at_343) rfl (by decide) (XS.aload X3233.here hx rfl (hb hby at_346) (ldAt hL3234 rfl) rfl k)) ?_
  obtain ⟨T3235, X3235, e3235, st3235⟩ := getF X3233 hx hZ hown (host := "") (Or.inl (tw hw 116 rfl)) Via.refl e3233 F_assignment_b2161 (g := (mkF m 348 L3234 [(.ref b2161)])) rfl rfl (hb hby at_348)
  refine Gl.st (B := (T3235.setTop (mkF m 351 L3234 [(.ref b116)]))) st3235 ?_
  refine Gl.st (B := (T3235.setTop (mkF m 357 L3234 [(.int y14_99_113), (.int y13_92_111), (.int w8e), (.ref b116)]))) (fun t k => XS.iload X3235.here hx rfl (hb hby at_351) (ldAt hL3234 rfl) (XS.iload X3235.here hx rfl (hb hby at_353) (ldAt hL3234 rfl) (XS.iload X3235.here hx rfl (hb hby at_355) (ldAt hL3234 rfl) k))) ?_
  obtain ⟨_, _, ⟨T3236, L3236q, k3236, n3236⟩, -, X3236, ⟨Lc3236, hQ3236, l3236, y3236, z3236⟩, st3236⟩ := Jvm.LawKit.callS X3235 hx (y := (⟨"com/example/limpet/limpet/group/MemberTakeOverPinLaw", "sameAssignment", "([BZBB)Z"⟩ : MethodName)) hown (mvT hZ (tw hw 133 rfl)) (mvT hZ (tw hw 134 rfl)) (mvT hZ (tw hw 135 rfl)) (mvT hZ (tw hw 136 rfl)) (by decide) (backOf (W := 0) (rm18g l Z a0 hw [] b116 w8e y13_92_111 y14_99_113 k116 nra vra h0 n0 Z0 V_b116 hr357_hE) hZ (tw hw 136 rfl) (tw hw 135 rfl) (by decide) (by decide)) (g := (mkF m 357 L3234 [(.int y14_99_113), (.int y13_92_111), (.int w8e), (.ref b116)])) rfl (szAt hml hL3234 rfl) (argsL := [(.ref b116), (.int w8e), (.int y13_92_111), (.int y14_99_113)]) (rest := []) (lenOf pd_0s325_18_0 rfl) rfl (by show 2 * 0 + _ ≤ _; exact Nat.le_of_eq rfl) (hb hby at_357) (fun _ _ => ⟨rfl, e3235, (by decide : 15 + 0 ≤ _), (by decide : 44 + 0 ≤ _)⟩)
  dsimp only [Pt.U, Pt.locs, Pt.cells, Pt.slots] at X3236 l3236 y3236 z3236 st3236 hQ3236
  subst l3236 y3236 z3236
  obtain ⟨rfl, N3236q, eh3236⟩ := hQ3236
  have N3236 := Fr.app N0 N3236q
  refine Gl.st (B := (T3236.setTop (mkF m 360 L3234 [(.int (1 : Int32))]))) (fun t k => st3236 t k) ?_
  obtain ⟨L3237, hL3237⟩ : ∃ z : Array Slot, z = #[.val (.int p1), .val (.int p2), .val (.int p3), .val (.int p4), .val (.long q5), .second, .val (.int p6), .val (.int (1 : Int32)), .val (.int w8e), od9, .val (.ref b11_t0), .val (.ref b17_t0), .val .null, .val (.int y13_92_111), .val (.int y14_99_113), .val (.ref b116), .val (.ref b1123), .val .null, .val (.ref b1144), od19, .val (.ref b2156), .val (.ref b2161), .val (.int (1 : Int32))] := ⟨_, rfl⟩
  refine Gl.st (B := (T3236.setTop (mkF m 375 L3237 []))) (fun t k => XS.ifNo X3236.here hx rfl (hb hby at_360) rfl (by decide) (XS.iconst X3236.here hx rfl (hb hby at_363) (XS.goto X3236.here hx rfl (pc0 := 364) (pc' := 368) rfl (hb hby at_364) (by decide) (by decide) (XS.istore X3236.here hx rfl (hb hby at_368) rfl (l' := L3237) (stAt hL3234 hL3237 rfl rfl) (XS.iload X3236.here hx rfl (hb hby at_370) (ldAt hL3237 rfl) (XS.ifNo X3236.here hx rfl (hb hby at_372) rfl (by decide) k)))))) ?_
  refine Gl.st (B := (T3236.setTop (mkF m 382 L3237 [(.ref b2161)]))) (fun t k => XS.iload X3236.here hx rfl (hb hby at_375) (ldAt hL3237 rfl) (XS.ifNo X3236.here hx rfl (hb hby at_377) rfl (by decide) (XS.aload X3236.here hx rfl (hb hby at_380) (ldAt hL3237 rfl) rfl k))) ?_
  obtain ⟨T3238, X3238, e3238, st3238⟩ := getF X3236 hx hZ hown (host := "") (Or.inl (tw hw 117 rfl)) Via.refl eh3236 F_protocols_b2161 (g := (mkF m 382 L3237 [(.ref b2161)])) rfl rfl (hb hby at_382)
  refine Gl.st (B := (T3238.setTop (mkF m 385 L3237 [.null]))) st3238 ?_
  obtain ⟨L3239, hL3239⟩ : ∃ z : Array Slot, z = #[.val (.int p1), .val (.int p2), .val (.int p3), .val (.int p4), .val (.long q5), .second, .val (.int p6), .val (.int (1 : Int32)), .val (.int w8e), od9, .val (.ref b11_t0), .val (.ref b17_t0), .val .null, .val (.int y13_92_111), .val (.int y14_99_113), .val (.ref b116), .val (.ref b1123), .val .null, .val (.ref b1144), od19, .val (.ref b2156), .val (.ref b2161), .val (.int (1 : Int32))] := ⟨_, rfl⟩
  refine Gl.st (B := (T3238.setTop (mkF m 448 L3239 []))) (fun t k => XS.ifnonnullNo X3238.here hx rfl (hb hby at_385) rfl (XS.iconst X3238.here hx rfl (hb hby at_388) (XS.goto X3238.here hx rfl (pc0 := 389) (pc' := 393) rfl (hb hby at_389) (by decide) (by decide) (XS.istore X3238.here hx rfl (hb hby at_393) rfl (l' := L3239) (stAt hL3237 hL3239 rfl rfl) (XS.goto X3238.here hx rfl (pc0 := 395) (pc' := 448) rfl (hb hby at_395) (by decide) (by decide) k))))) ?_
  refine Gl.cast (B := (T3238.setTop (mkF m 448 #[.val (.int p1), .val (.int p2), .val (.int p3), .val (.int p4), .val (.long q5), .second, .val (.int p6), .val (.int (1 : Int32)), .val (.int w8e), od9, .val (.ref b11_t0), .val (.ref b17_t0), .val .null, .val (.int y13_92_111), .val (.int y14_99_113), .val (.ref b116), .val (.ref b1123), .val .null, .val (.ref b1144), od19, .val (.ref b2156), .val (.ref b2161), .val (.int (1 : Int32))] []))) (by rw [hL3239]) ?_
  exact sg_448_19 l Z a0 hw hx hby hml hret hlk hZ hown n0 p1 p2 p3 p4 q5 p6 w8e b11_t0 b17_t0 y13_92_111 y14_99_113 b116 b1123 b1144 b2156 b2161 x257_2179 x265_2184 x276_2189 k116 nra vra h0 (X3238.more (by decide) (by decide)) e3238 N3236 Z0 F_id_b2161 F_instanceId_b2161 F_sess2_b2161 F_reba3_b2161 F_sess4_b2161 E_b2161 F_pendingJoin_b2161 F_pendingSync_b2161 F_id_b2156 F_instanceId_b2156 F_generation_b2156 F_assignment_b2156 F_protocols_b2156 F_sess2_b2156 F_reba3_b2156 F_sess4_b2156 F_pendingJoin_b2156 F_pendingSync_b2156 V_b116 hr605_hE hq694 hq705 hq720 E_b2156
theorem pd_0s206_17_0 : parseMethodDescriptor "(Ljava/lang/String;Ljava/lang/String;)V" = some ⟨[(.object "java/lang/String"), (.object "java/lang/String")], none⟩ := by decide +kernel
theorem pd_0s206_17_1 : parseMethodDescriptor "(Lcom/example/limpet/limpet/group/Member;)V" = some ⟨[(.object "com/example/limpet/limpet/group/Member")], none⟩ := by decide +kernel
set_option maxRecDepth 65536 in
set_option maxHeartbeats 40000000 in
theorem sg_206_17 (l : Launch) (Z : State) (a0 : Array Value) (hw : ∀ d ∈ tables_1, d.before a0 Z = true) {p : Program} {e : Env} {s : State} {m : MethodId} {A0 : Array Value} {below : List Frame} {meth : Method} {c : Code} (hx : p.tables.exec = Jvm.exec) (hby : c.code = code) (hml : c.maxLocals = 23) (hret : meth.sig.returnType = ret) (hlk : meth.locks = false) (hZ : Z.Warmed39 s.vm) (hown : s.vm.findClass "com/example/limpet/limpet/group/MemberTakeOverPinLaw" = some m.cls) (n0 : Nat) (p1 : Int32) (p2 : Int32) (p3 : Int32) (p4 : Int32) (q5 : Int64) (p6 : Int32) (w8e : Int32) (b11_t0 : Addr) (b17_t0 : Addr) (y13_92_111 : Int32) (y14_99_113 : Int32) (b116 : Addr) (b1123 : Addr) (b1144 : Addr) (b1150 : Addr) (k116 : ClassId) (nra : Int32) (vra : List Value) {T0 : State} {Lc : List Loc} (h0 : Heap) (X0 : Stand p l e room_1 s m A0 below meth c T0 Lc 11 24) (e0 : T0.heap = h0) (N0 : Fr n0 Lc) (Z0 : n0 ≤ h0.size) (V_b116 : Arv Z h0 b116 k116 .byte nra vra (.int (0 : Int32))) (hr357_hE : (w8e = (1 : Int32) ∧ nra = (0 : Int32) ∧ vra = []) ∨ (w8e = (0 : Int32) ∧ nra = (2 : Int32) ∧ vra = [(.int y13_92_111), (.int y14_99_113)])) (hr605_hE : (w8e = (1 : Int32) ∧ nra = (0 : Int32) ∧ vra = []) ∨ (w8e = (0 : Int32) ∧ nra = (2 : Int32) ∧ vra = [(.int y13_92_111), (.int y14_99_113)])) :
    Gl p e below (fun o U' => ∃ v L, o = .returned v ∧ (v = some (.int (1 : Int32)) ∧ Fr n0 L) ∧ FrameEnd s o U' L room_1.cells room_1.slots) (T0.setTop (mkF m 206 #[.val (.int p1), .val (.int p2), .val (.int p3), .val (.int p4), .val (.long q5), .second, .val (.int p6), .val (.int (1 : Int32)), .val (.int w8e), od9, .val (.ref b11_t0), .val (.ref b17_t0), .val .null, .val (.int y13_92_111), .val (.int y14_99_113), .val (.ref b116), .val (.ref b1123), .val .null, .val (.ref b1144), .val (.ref b1150), .unset, .unset, .unset] [])) := by
  obtain ⟨L0, hL0⟩ : ∃ z : Array Slot, z = #[.val (.int p1), .val (.int p2), .val (.int p3), .val (.int p4), .val (.long q5), .second, .val (.int p6), .val (.int (1 : Int32)), .val (.int w8e), od9, .val (.ref b11_t0), .val (.ref b17_t0), .val .null, .val (.int y13_92_111), .val (.int y14_99_113), .val (.ref b116), .val (.ref b1123), .val .null, .val (.ref b1144), .val (.ref b1150), .unset, .unset, .unset] := ⟨_, rfl⟩
  refine Gl.cast (B := (T0.setTop (mkF m 206 L0 []))) (by rw [hL0]) ?_
  obtain ⟨T2156, h2156, X2156, e2156, E2156, A2156, D2156, -, st2156⟩ := newO X0 hx hZ hown (tw hw 101 rfl) (tw hw 102 rfl) (tw hw 103 rfl) e0 (g := (mkF m 206 L0 [])) rfl (hb hby at_206) (by decide) (by decide)
  obtain ⟨b2156, gq2156⟩ : ∃ z, z = h0.size := ⟨_, rfl⟩
  rw [← gq2156] at A2156 D2156 st2156
  have g_b2156 : n0 ≤ b2156 := Nat.le_trans Z0 (Nat.le_of_eq gq2156.symm)
  have lt_b2156 := A2156.lt
  have Zc2157 : n0 ≤ h2156.size := Nat.le_trans Z0 E2156.1
  have F2156_assignment : Fld Z h2156 b2156 "com/example/limpet/limpet/group/Member" "assignment" "[B" .null := D2156 (Or.inl (tw hw 109 rfl)) (ty := (.array .byte)) (by decide)
  have F2156_id : Fld Z h2156 b2156 "com/example/limpet/limpet/group/Member" "id" "Ljava/lang/String;" .null := D2156 (Or.inr (tw hw 111 rfl)) (ty := (.object "java/lang/String")) (by decide)
  have F2156_instanceId : Fld Z h2156 b2156 "com/example/limpet/limpet/group/Member" "instanceId" "Ljava/lang/String;" .null := D2156 (Or.inr (tw hw 113 rfl)) (ty := (.object "java/lang/String")) (by decide)
  have F2156_generation : Fld Z h2156 b2156 "com/example/limpet/limpet/group/Member" "generation" "I" (.int (0 : Int32)) := D2156 (Or.inl (tw hw 115 rfl)) (ty := .int) (by decide)
  have F2156_protocols : Fld Z h2156 b2156 "com/example/limpet/limpet/group/Member" "protocols" "Ljava/util/List;" .null := D2156 (Or.inl (tw hw 118 rfl)) (ty := (.object "java/util/List")) (by decide)
  have F2156_sess2 : Fld Z h2156 b2156 "com/example/limpet/limpet/group/Member" "sessionTimeoutMs" "I" (.int (0 : Int32)) := D2156 (Or.inl (tw hw 120 rfl)) (ty := .int) (by decide)
  have F2156_reba3 : Fld Z h2156 b2156 "com/example/limpet/limpet/group/Member" "rebalanceTimeoutMs" "I" (.int (0 : Int32)) := D2156 (Or.inl (tw hw 122 rfl)) (ty := .int) (by decide)
  have F2156_sess4 : Fld Z h2156 b2156 "com/example/limpet/limpet/group/Member" "sessionDeadline" "J" (.long (0 : Int64)) := D2156 (Or.inl (tw hw 125 rfl)) (ty := .long) (by decide)
  have F2156_pendingJoin : Fld Z h2156 b2156 "com/example/limpet/limpet/group/Member" "pendingJoin" "Ljava/util/function/Consumer;" .null := D2156 (Or.inl (tw hw 174 rfl)) (ty := (.object "java/util/function/Consumer")) (by decide)
  have F2156_pendingSync : Fld Z h2156 b2156 "com/example/limpet/limpet/group/Member" "pendingSync" "Ljava/util/function/Consumer;" .null := D2156 (Or.inl (tw hw 176 rfl)) (ty := (.object "java/util/function/Consumer")) (by decide)
  refine Gl.st (B := (T2156.setTop (mkF m 209 L0 [(.ref b2156)]))) st2156 ?_
  refine Gl.st (B := (T2156.setTop (mkF m 214 L0 [.null, (.ref b17_t0), (.ref b2156), (.ref b2156)]))) (fun t k => XS.dup X2156.here hx rfl (hb hby at_209) rfl rfl (XS.aload X2156.here hx rfl (hb hby at_210) (ldAt hL0 rfl) rfl (XS.aload X2156.here hx rfl (hb hby at_212) (ldAt hL0 rfl) rfl k))) ?_
  obtain ⟨_, _, ⟨T2158, L2158q, k2158, n2158⟩, -, X2158, ⟨Lc2158, hQ2158, l2158, y2158, z2158⟩, st2158⟩ := X2156.specialBack hx (y := (⟨"com/example/limpet/limpet/group/Member", "<init>", "(Ljava/lang/String;Ljava/lang/String;)V"⟩ : MethodName)) rfl hown (mvT hZ (tw hw 104 rfl)) (mvT hZ (tw hw 105 rfl)) (mvT hZ (tw hw 106 rfl)) (by decide) (backOf (W := 1) (rm16n l Z a0 hw [] b2156 b17_t0 .null .null .null ((.int (0 : Int32))) .null ((.int (0 : Int32))) ((.int (0 : Int32))) ((.long (0 : Int64))) .null .null h2156 n0 Zc2157 F2156_assignment F2156_id F2156_instanceId F2156_generation F2156_protocols F2156_sess2 F2156_reba3 F2156_sess4 F2156_pendingJoin F2156_pendingSync A2156 g_b2156) hZ (tw hw 106 rfl) (tw hw 103 rfl) (by decide) (by decide)) (g := (mkF m 214 L0 [.null, (.ref b17_t0), (.ref b2156), (.ref b2156)])) rfl (szAt hml hL0 rfl) (Steps.refl _) (a := b2156) (argsL := [(.ref b17_t0), .null]) (rest := [(.ref b2156)]) (lenOf pd_0s206_17_0 rfl) rfl (by show 2 * 0 + _ ≤ _; exact Nat.le_of_eq rfl) (hb hby at_214) (fun _ _ => ⟨rfl, e2156, (by decide : 12 + 1 ≤ _), (by decide : 34 + 0 ≤ _)⟩)
  dsimp only [Pt.U, Pt.locs, Pt.cells, Pt.slots] at X2158 l2158 y2158 z2158 st2158 hQ2158
  subst l2158 y2158 z2158
  obtain ⟨b2158_t0, k2158_kx_t0, rfl, N2158q, Kc2158, fq2158_0, fq2158_1, fq2158_2, fq2158_3, fq2158_4, fq2158_5, fq2158_6, fq2158_7, fq2158_8, fq2158_9, fq2158_10, fq2158_11, fq2158_12, fq2158_13⟩ := hQ2158
  have g_b2158_t0 : n0 ≤ b2158_t0 := Nat.le_trans Zc2157 fq2158_0
  have lt_b2158_t0 := fq2158_12.lt
  have Zc2159 : n0 ≤ T2158.heap.size := Nat.le_trans Zc2157 Kc2158.1
  have N2158 := Fr.app N0 N2158q
  refine Gl.st (B := (T2158.setTop (mkF m 217 L0 [(.ref b2156)]))) (fun t k => st2158.trans k) ?_
  obtain ⟨L2160, hL2160⟩ : ∃ z : Array Slot, z = #[.val (.int p1), .val (.int p2), .val (.int p3), .val (.int p4), .val (.long q5), .second, .val (.int p6), .val (.int (1 : Int32)), .val (.int w8e), od9, .val (.ref b11_t0), .val (.ref b17_t0), .val .null, .val (.int y13_92_111), .val (.int y14_99_113), .val (.ref b116), .val (.ref b1123), .val .null, .val (.ref b1144), .val (.ref b1150), .val (.ref b2156), .unset, .unset] := ⟨_, rfl⟩
  refine Gl.st (B := (T2158.setTop (mkF m 219 L2160 []))) (fun t k => XS.astore X2158.here hx rfl (hb hby at_217) rfl rfl (l' := L2160) (stAt hL0 hL2160 rfl rfl) k) ?_
  obtain ⟨T2161, h2161, X2161, e2161, E2161, A2161, D2161, -, st2161⟩ := newO X2158 hx hZ hown (tw hw 101 rfl) (tw hw 102 rfl) (tw hw 103 rfl) rfl (g := (mkF m 219 L2160 [])) rfl (hb hby at_219) (by decide) (by decide)
  obtain ⟨b2161, gq2161⟩ : ∃ z, z = T2158.heap.size := ⟨_, rfl⟩
  rw [← gq2161] at A2161 D2161 st2161
  have g_b2161 : n0 ≤ b2161 := Nat.le_trans Zc2159 (Nat.le_of_eq gq2161.symm)
  have lt_b2161 := A2161.lt
  have Zc2162 : n0 ≤ h2161.size := Nat.le_trans Zc2159 E2161.1
  have F2161_assignment : Fld Z h2161 b2161 "com/example/limpet/limpet/group/Member" "assignment" "[B" .null := D2161 (Or.inl (tw hw 109 rfl)) (ty := (.array .byte)) (by decide)
  have F2161_id : Fld Z h2161 b2161 "com/example/limpet/limpet/group/Member" "id" "Ljava/lang/String;" .null := D2161 (Or.inr (tw hw 111 rfl)) (ty := (.object "java/lang/String")) (by decide)
  have F2161_instanceId : Fld Z h2161 b2161 "com/example/limpet/limpet/group/Member" "instanceId" "Ljava/lang/String;" .null := D2161 (Or.inr (tw hw 113 rfl)) (ty := (.object "java/lang/String")) (by decide)
  have F2161_generation : Fld Z h2161 b2161 "com/example/limpet/limpet/group/Member" "generation" "I" (.int (0 : Int32)) := D2161 (Or.inl (tw hw 115 rfl)) (ty := .int) (by decide)
  have F2161_protocols : Fld Z h2161 b2161 "com/example/limpet/limpet/group/Member" "protocols" "Ljava/util/List;" .null := D2161 (Or.inl (tw hw 118 rfl)) (ty := (.object "java/util/List")) (by decide)
  have F2161_sess2 : Fld Z h2161 b2161 "com/example/limpet/limpet/group/Member" "sessionTimeoutMs" "I" (.int (0 : Int32)) := D2161 (Or.inl (tw hw 120 rfl)) (ty := .int) (by decide)
  have F2161_reba3 : Fld Z h2161 b2161 "com/example/limpet/limpet/group/Member" "rebalanceTimeoutMs" "I" (.int (0 : Int32)) := D2161 (Or.inl (tw hw 122 rfl)) (ty := .int) (by decide)
  have F2161_sess4 : Fld Z h2161 b2161 "com/example/limpet/limpet/group/Member" "sessionDeadline" "J" (.long (0 : Int64)) := D2161 (Or.inl (tw hw 125 rfl)) (ty := .long) (by decide)
  have F2161_pendingJoin : Fld Z h2161 b2161 "com/example/limpet/limpet/group/Member" "pendingJoin" "Ljava/util/function/Consumer;" .null := D2161 (Or.inl (tw hw 174 rfl)) (ty := (.object "java/util/function/Consumer")) (by decide)
  have F2161_pendingSync : Fld Z h2161 b2161 "com/example/limpet/limpet/group/Member" "pendingSync" "Ljava/util/function/Consumer;" .null := D2161 (Or.inl (tw hw 176 rfl)) (ty := (.object "java/util/function/Consumer")) (by decide)
  refine Gl.st (B := (T2161.setTop (mkF m 222 L2160 [(.ref b2161)]))) st2161 ?_
  refine Gl.st (B := (T2161.setTop (mkF m 227 L2160 [.null, (.ref b11_t0), (.ref b2161), (.ref b2161)]))) (fun t k => XS.dup X2161.here hx rfl (hb hby at_222) rfl rfl (XS.aload X2161.here hx rfl (hb hby at_223) (ldAt hL2160 rfl) rfl (XS.aload X2161.here hx rfl (hb hby at_225) (ldAt hL2160 rfl) rfl k))) ?_
  obtain ⟨_, _, ⟨T2163, L2163q, k2163, n2163⟩, -, X2163, ⟨Lc2163, hQ2163, l2163, y2163, z2163⟩, st2163⟩ := X2161.specialBack hx (y := (⟨"com/example/limpet/limpet/group/Member", "<init>", "(Ljava/lang/String;Ljava/lang/String;)V"⟩ : MethodName)) rfl hown (mvT hZ (tw hw 104 rfl)) (mvT hZ (tw hw 105 rfl)) (mvT hZ (tw hw 106 rfl)) (by decide) (backOf (W := 1) (rm16n l Z a0 hw [] b2161 b11_t0 .null .null .null ((.int (0 : Int32))) .null ((.int (0 : Int32))) ((.int (0 : Int32))) ((.long (0 : Int64))) .null .null h2161 n0 Zc2162 F2161_assignment F2161_id F2161_instanceId F2161_generation F2161_protocols F2161_sess2 F2161_reba3 F2161_sess4 F2161_pendingJoin F2161_pendingSync A2161 g_b2161) hZ (tw hw 106 rfl) (tw hw 103 rfl) (by decide) (by decide)) (g := (mkF m 227 L2160 [.null, (.ref b11_t0), (.ref b2161), (.ref b2161)])) rfl (szAt hml hL2160 rfl) (Steps.refl _) (a := b2161) (argsL := [(.ref b11_t0), .null]) (rest := [(.ref b2161)]) (lenOf pd_0s206_17_0 rfl) rfl (by show 2 * 0 + _ ≤ _; exact Nat.le_of_eq rfl) (hb hby at_227) (fun _ _ => ⟨rfl, e2161, (by decide : 14 + 1 ≤ _), (by decide : 44 + 0 ≤ _)⟩)
  dsimp only [Pt.U, Pt.locs, Pt.cells, Pt.slots] at X2163 l2163 y2163 z2163 st2163 hQ2163
  subst l2163 y2163 z2163
  obtain ⟨b2163_t0, k2163_kx_t0, rfl, N2163q, Kc2163, fq2163_0, fq2163_1, fq2163_2, fq2163_3, fq2163_4, fq2163_5, fq2163_6, fq2163_7, fq2163_8, fq2163_9, fq2163_10, fq2163_11, fq2163_12, fq2163_13⟩ := hQ2163
  have g_b2163_t0 : n0 ≤ b2163_t0 := Nat.le_trans Zc2162 fq2163_0
  have lt_b2163_t0 := fq2163_12.lt
  have Zc2164 : n0 ≤ T2163.heap.size := Nat.le_trans Zc2162 Kc2163.1
  have N2163 := Fr.app N2158 N2163q
  refine Gl.st (B := (T2163.setTop (mkF m 230 L2160 [(.ref b2161)]))) (fun t k => st2163.trans k) ?_
  obtain ⟨L2165, hL2165⟩ : ∃ z : Array Slot, z = #[.val (.int p1), .val (.int p2), .val (.int p3), .val (.int p4), .val (.long q5), .second, .val (.int p6), .val (.int (1 : Int32)), .val (.int w8e), od9, .val (.ref b11_t0), .val (.ref b17_t0), .val .null, .val (.int y13_92_111), .val (.int y14_99_113), .val (.ref b116), .val (.ref b1123), .val .null, .val (.ref b1144), .val (.ref b1150), .val (.ref b2156), .val (.ref b2161), .unset] := ⟨_, rfl⟩
  refine Gl.st (B := (T2163.setTop (mkF m 235 L2165 [(.int p1), (.ref b2156)]))) (fun t k => XS.astore X2163.here hx rfl (hb hby at_230) rfl rfl (l' := L2165) (stAt hL2160 hL2165 rfl rfl) (XS.aload X2163.here hx rfl (hb hby at_232) (ldAt hL2165 rfl) rfl (XS.iloadN X2163.here hx rfl (hb hby at_234) (ldAt hL2165 rfl) k))) ?_
  have c2166 := ((fq2158_1.ext E2161).keep Kc2163)
  have ne_b2156_b2161_2167 : b2156 ≠ b2161 := Nat.ne_of_lt (Nat.lt_of_lt_of_le lt_b2156 (Nat.le_trans Kc2158.1 (Nat.le_of_eq gq2161.symm)))
  have c2168 := ((fq2158_3.ext E2161).keep Kc2163 (ninS ne_b2156_b2161_2167 nin0))
  obtain ⟨T2169, h2169, X2169, e2169, W2169, st2169⟩ := putF X2163 hx hZ hown (host := "") (Or.inl (tw hw 114 rfl)) Via.refl rfl c2168 c2166 (Or.inl (tw hw 115 rfl)) (tw hw 102 rfl) (ty := .int) (by decide) rfl rfl (g := (mkF m 235 L2165 [(.int p1), (.ref b2156)])) rfl rfl (hb hby at_235)
  have Fw2169 := c2168.same W2169
  have Zc2170 : n0 ≤ h2169.size := Nat.le_trans Zc2164 (Nat.le_of_eq W2169.size.symm)
  have N2169 := Fr.snoc X2169 N2163 g_b2156
  refine Gl.st (B := (T2169.setTop (mkF m 238 L2165 []))) st2169 ?_
  refine Gl.st (B := (T2169.setTop (mkF m 242 L2165 [(.ref b116), (.ref b2156)]))) (fun t k => XS.aload X2169.here hx rfl (hb hby at_238) (ldAt hL2165 rfl) rfl (XS.aload X2169.here hx rfl (hb hby at_240) (ldAt hL2165 rfl) rfl k)) ?_
  have c2171 := (c2166.wr W2169)
  have c2172 := (((fq2158_2.ext E2161).keep Kc2163 (ninS ne_b2156_b2161_2167 nin0)).other W2169 (Or.inr (sn39 hw)))
  obtain ⟨T2173, h2173, X2173, e2173, W2173, st2173⟩ := putF X2169 hx hZ hown (host := "") (Or.inl (tw hw 116 rfl)) Via.refl e2169 c2172 c2171 (Or.inl (tw hw 109 rfl)) (tw hw 102 rfl) (ty := (.array .byte)) (by decide) rfl rfl (g := (mkF m 242 L2165 [(.ref b116), (.ref b2156)])) rfl rfl (hb hby at_242)
  have Fw2173 := c2172.same W2173
  have Zc2174 : n0 ≤ h2173.size := Nat.le_trans Zc2170 (Nat.le_of_eq W2173.size.symm)
  have N2173 := Fr.snoc X2173 N2169 g_b2156
  refine Gl.st (B := (T2173.setTop (mkF m 245 L2165 []))) st2173 ?_
  refine Gl.st (B := (T2173.setTop (mkF m 249 L2165 [.null, (.ref b2156)]))) (fun t k => XS.aload X2173.here hx rfl (hb hby at_245) (ldAt hL2165 rfl) rfl (XS.aload X2173.here hx rfl (hb hby at_247) (ldAt hL2165 rfl) rfl k)) ?_
  have c2175 := (c2171.wr W2173)
  have c2176 := ((((fq2158_8.ext E2161).keep Kc2163 (ninS ne_b2156_b2161_2167 nin0)).other W2169 (Or.inr (sn48 hw))).other W2173 (Or.inr (sn25 hw)))
  obtain ⟨T2177, h2177, X2177, e2177, W2177, st2177⟩ := putF X2173 hx hZ hown (host := "") (Or.inl (tw hw 117 rfl)) Via.refl e2173 c2176 c2175 (Or.inl (tw hw 118 rfl)) (tw hw 102 rfl) (ty := (.object "java/util/List")) (by decide) rfl rfl (g := (mkF m 249 L2165 [.null, (.ref b2156)])) rfl rfl (hb hby at_249)
  have Fw2177 := c2176.same W2177
  have Zc2178 : n0 ≤ h2177.size := Nat.le_trans Zc2174 (Nat.le_of_eq W2177.size.symm)
  have N2177 := Fr.snoc X2177 N2173 g_b2156
  refine Gl.st (B := (T2177.setTop (mkF m 252 L2165 []))) st2177 ?_
  refine Gl.st (B := (T2177.setTop (mkF m 257 L2165 [(.int (p3 ^^^ (-1 : Int32))), (.ref b2156)]))) (fun t k => XS.aload X2177.here hx rfl (hb hby at_252) (ldAt hL2165 rfl) rfl (XS.iloadN X2177.here hx rfl (hb hby at_254) (ldAt hL2165 rfl) (XS.iconst X2177.here hx rfl (hb hby at_255) (XS.ixor X2177.here hx rfl (hb hby at_256) rfl k)))) ?_
  obtain ⟨x257_2179, hx257_2179⟩ : ∃ z : Int32, z = (p3 ^^^ (-1 : Int32)) := ⟨_, rfl⟩
  refine Gl.cast (B := (T2177.setTop (mkF m 257 L2165 [(.int x257_2179), (.ref b2156)]))) (by rw [hx257_2179]) ?_
  have c2180 := (c2175.wr W2177)
  have c2181 := (((((fq2158_11.ext E2161).keep Kc2163 (ninS ne_b2156_b2161_2167 nin0)).other W2169 (Or.inr (sn54 hw))).other W2173 (Or.inr (sn34 hw))).other W2177 (Or.inr (sn53 hw)))
  obtain ⟨T2182, h2182, X2182, e2182, W2182, st2182⟩ := putF X2177 hx hZ hown (host := "") (Or.inl (tw hw 119 rfl)) Via.refl e2177 c2181 c2180 (Or.inl (tw hw 120 rfl)) (tw hw 102 rfl) (ty := .int) (by decide) rfl rfl (g := (mkF m 257 L2165 [(.int x257_2179), (.ref b2156)])) rfl rfl (hb hby at_257)
  have Fw2182 := c2181.same W2182
  have Zc2183 : n0 ≤ h2182.size := Nat.le_trans Zc2178 (Nat.le_of_eq W2182.size.symm)
  have N2182 := Fr.snoc X2182 N2177 g_b2156
  refine Gl.st (B := (T2182.setTop (mkF m 260 L2165 []))) st2182 ?_
  refine Gl.st (B := (T2182.setTop (mkF m 265 L2165 [(.int (p4 ^^^ (-1 : Int32))), (.ref b2156)]))) (fun t k => XS.aload X2182.here hx rfl (hb hby at_260) (ldAt hL2165 rfl) rfl (XS.iloadN X2182.here hx rfl (hb hby at_262) (ldAt hL2165 rfl) (XS.iconst X2182.here hx rfl (hb hby at_263) (XS.ixor X2182.here hx rfl (hb hby at_264) rfl k)))) ?_
  obtain ⟨x265_2184, hx265_2184⟩ : ∃ z : Int32, z = (p4 ^^^ (-1 : Int32)) := ⟨_, rfl⟩
  refine Gl.cast (B := (T2182.setTop (mkF m 265 L2165 [(.int x265_2184), (.ref b2156)]))) (by rw [hx265_2184]) ?_
  have c2185 := (c2180.wr W2182)
  have c2186 := ((((((fq2158_9.ext E2161).keep Kc2163 (ninS ne_b2156_b2161_2167 nin0)).other W2169 (Or.inr (sn50 hw))).other W2173 (Or.inr (sn28 hw))).other W2177 (Or.inr (sn49 hw))).other W2182 (Or.inr (sn55 hw)))
  obtain ⟨T2187, h2187, X2187, e2187, W2187, st2187⟩ := putF X2182 hx hZ hown (host := "") (Or.inl (tw hw 121 rfl)) Via.refl e2182 c2186 c2185 (Or.inl (tw hw 122 rfl)) (tw hw 102 rfl) (ty := .int) (by decide) rfl rfl (g := (mkF m 265 L2165 [(.int x265_2184), (.ref b2156)])) rfl rfl (hb hby at_265)
  have Fw2187 := c2186.same W2187
  have Zc2188 : n0 ≤ h2187.size := Nat.le_trans Zc2183 (Nat.le_of_eq W2187.size.symm)
  have N2187 := Fr.snoc X2187 N2182 g_b2156
  refine Gl.st (B := (T2187.setTop (mkF m 268 L2165 []))) st2187 ?_
  refine Gl.st (B := (T2187.setTop (mkF m 276 L2165 [(.long (q5 ^^^ (-1 : Int64))), (.ref b2156)]))) (fun t k => XS.aload X2187.here hx rfl (hb hby at_268) (ldAt hL2165 rfl) rfl (XS.lload X2187.here hx rfl (hb hby at_270) (ldAt hL2165 rfl) (X2187.ldc2Long hx hown (mvT hZ (tw hw 123 rfl)) (g := (mkF m 272 L2165 [(.long q5), (.ref b2156)])) rfl (hb hby at_272) _ (XS.lxor X2187.here hx rfl (hb hby at_275) rfl k)))) ?_
  obtain ⟨x276_2189, hx276_2189⟩ : ∃ z : Int64, z = (q5 ^^^ (-1 : Int64)) := ⟨_, rfl⟩
  refine Gl.cast (B := (T2187.setTop (mkF m 276 L2165 [(.long x276_2189), (.ref b2156)]))) (by rw [hx276_2189]) ?_
  have c2190 := (c2185.wr W2187)
  have c2191 := (((((((fq2158_10.ext E2161).keep Kc2163 (ninS ne_b2156_b2161_2167 nin0)).other W2169 (Or.inr (sn52 hw))).other W2173 (Or.inr (sn31 hw))).other W2177 (Or.inr (sn51 hw))).other W2182 (Or.inr (sn56 hw))).other W2187 (Or.inr (sn57 hw)))
  obtain ⟨T2192, h2192, X2192, e2192, W2192, st2192⟩ := putF X2187 hx hZ hown (host := "") (Or.inl (tw hw 124 rfl)) Via.refl e2187 c2191 c2190 (Or.inl (tw hw 125 rfl)) (tw hw 102 rfl) (ty := .long) (by decide) rfl rfl (g := (mkF m 276 L2165 [(.long x276_2189), (.ref b2156)])) rfl rfl (hb hby at_276)
  have Fw2192 := c2191.same W2192
  have Zc2193 : n0 ≤ h2192.size := Nat.le_trans Zc2188 (Nat.le_of_eq W2192.size.symm)
  have N2192 := Fr.snoc X2192 N2187 g_b2156
  refine Gl.st (B := (T2192.setTop (mkF m 279 L2165 []))) st2192 ?_
  refine Gl.st (B := (T2192.setTop (mkF m 282 L2165 [(.int p2), (.ref b2161)]))) (fun t k => XS.aload X2192.here hx rfl (hb hby at_279) (ldAt hL2165 rfl) rfl (XS.iloadN X2192.here hx rfl (hb hby at_281) (ldAt hL2165 rfl) k)) ?_
  have c2194 := ((((((fq2163_1.wr W2169).wr W2173).wr W2177).wr W2182).wr W2187).wr W2192)
  have c2195 := ((((((fq2163_3.other W2169 (Or.inl (Ne.symm ne_b2156_b2161_2167))).other W2173 (Or.inl (Ne.symm ne_b2156_b2161_2167))).other W2177 (Or.inl (Ne.symm ne_b2156_b2161_2167))).other W2182 (Or.inl (Ne.symm ne_b2156_b2161_2167))).other W2187 (Or.inl (Ne.symm ne_b2156_b2161_2167))).other W2192 (Or.inl (Ne.symm ne_b2156_b2161_2167)))
  obtain ⟨T2196, h2196, X2196, e2196, W2196, st2196⟩ := putF X2192 hx hZ hown (host := "") (Or.inl (tw hw 114 rfl)) Via.refl e2192 c2195 c2194 (Or.inl (tw hw 115 rfl)) (tw hw 102 rfl) (ty := .int) (by decide) rfl rfl (g := (mkF m 282 L2165 [(.int p2), (.ref b2161)])) rfl rfl (hb hby at_282)
  have Fw2196 := c2195.same W2196
  have Zc2197 : n0 ≤ h2196.size := Nat.le_trans Zc2193 (Nat.le_of_eq W2196.size.symm)
  have N2196 := Fr.snoc X2196 N2192 g_b2161
  refine Gl.st (B := (T2196.setTop (mkF m 285 L2165 []))) st2196 ?_
  refine Gl.st (B := (T2196.setTop (mkF m 289 L2165 [(.ref b1150), (.ref b2161)]))) (fun t k => XS.aload X2196.here hx rfl (hb hby at_285) (ldAt hL2165 rfl) rfl (XS.aload X2196.here hx rfl (hb hby at_287) (ldAt hL2165 rfl) rfl k)) ?_
  have c2198 := (c2194.wr W2196)
  have c2199 := (((((((fq2163_2.other W2169 (Or.inl (Ne.symm ne_b2156_b2161_2167))).other W2173 (Or.inl (Ne.symm ne_b2156_b2161_2167))).other W2177 (Or.inl (Ne.symm ne_b2156_b2161_2167))).other W2182 (Or.inl (Ne.symm ne_b2156_b2161_2167))).other W2187 (Or.inl (Ne.symm ne_b2156_b2161_2167))).other W2192 (Or.inl (Ne.symm ne_b2156_b2161_2167))).other W2196 (Or.inr (sn39 hw)))
  obtain ⟨T2200, h2200, X2200, e2200, W2200, st2200⟩ := putF X2196 hx hZ hown (host := "") (Or.inl (tw hw 116 rfl)) Via.refl e2196 c2199 c2198 (Or.inl (tw hw 109 rfl)) (tw hw 102 rfl) (ty := (.array .byte)) (by decide) rfl rfl (g := (mkF m 289 L2165 [(.ref b1150), (.ref b2161)])) rfl rfl (hb hby at_289)
  have Fw2200 := c2199.same W2200
  have Zc2201 : n0 ≤ h2200.size := Nat.le_trans Zc2197 (Nat.le_of_eq W2200.size.symm)
  have N2200 := Fr.snoc X2200 N2196 g_b2161
  refine Gl.st (B := (T2200.setTop (mkF m 292 L2165 []))) st2200 ?_
  refine Gl.st (B := (T2200.setTop (mkF m 296 L2165 [(.ref b1144), (.ref b2161)]))) (fun t k => XS.aload X2200.here hx rfl (hb hby at_292) (ldAt hL2165 rfl) rfl (XS.aload X2200.here hx rfl (hb hby at_294) (ldAt hL2165 rfl) rfl k)) ?_
  have c2202 := (c2198.wr W2200)
  have c2203 := ((((((((fq2163_8.other W2169 (Or.inl (Ne.symm ne_b2156_b2161_2167))).other W2173 (Or.inl (Ne.symm ne_b2156_b2161_2167))).other W2177 (Or.inl (Ne.symm ne_b2156_b2161_2167))).other W2182 (Or.inl (Ne.symm ne_b2156_b2161_2167))).other W2187 (Or.inl (Ne.symm ne_b2156_b2161_2167))).other W2192 (Or.inl (Ne.symm ne_b2156_b2161_2167))).other W2196 (Or.inr (sn48 hw))).other W2200 (Or.inr (sn25 hw)))
  obtain ⟨T2204, h2204, X2204, e2204, W2204, st2204⟩ := putF X2200 hx hZ hown (host := "") (Or.inl (tw hw 117 rfl)) Via.refl e2200 c2203 c2202 (Or.inl (tw hw 118 rfl)) (tw hw 102 rfl) (ty := (.object "java/util/List")) (by decide) rfl rfl (g := (mkF m 296 L2165 [(.ref b1144), (.ref b2161)])) rfl rfl (hb hby at_296)
  have Fw2204 := c2203.same W2204
  have Zc2205 : n0 ≤ h2204.size := Nat.le_trans Zc2201 (Nat.le_of_eq W2204.size.symm)
  have N2204 := Fr.snoc X2204 N2200 g_b2161
  refine Gl.st (B := (T2204.setTop (mkF m 299 L2165 []))) st2204 ?_
  refine Gl.st (B := (T2204.setTop (mkF m 302 L2165 [(.int p3), (.ref b2161)]))) (fun t k => XS.aload X2204.here hx rfl (hb hby at_299) (ldAt hL2165 rfl) rfl (XS.iloadN X2204.here hx rfl (hb hby at_301) (ldAt hL2165 rfl) k)) ?_
  have c2206 := (c2202.wr W2204)
  have c2207 := (((((((((fq2163_11.other W2169 (Or.inl (Ne.symm ne_b2156_b2161_2167))).other W2173 (Or.inl (Ne.symm ne_b2156_b2161_2167))).other W2177 (Or.inl (Ne.symm ne_b2156_b2161_2167))).other W2182 (Or.inl (Ne.symm ne_b2156_b2161_2167))).other W2187 (Or.inl (Ne.symm ne_b2156_b2161_2167))).other W2192 (Or.inl (Ne.symm ne_b2156_b2161_2167))).other W2196 (Or.inr (sn54 hw))).other W2200 (Or.inr (sn34 hw))).other W2204 (Or.inr (sn53 hw)))
  obtain ⟨T2208, h2208, X2208, e2208, W2208, st2208⟩ := putF X2204 hx hZ hown (host := "") (Or.inl (tw hw 119 rfl)) Via.refl e2204 c2207 c2206 (Or.inl (tw hw 120 rfl)) (tw hw 102 rfl) (ty := .int) (by decide) rfl rfl (g := (mkF m 302 L2165 [(.int p3), (.ref b2161)])) rfl rfl (hb hby at_302)
  have Fw2208 := c2207.same W2208
  have Zc2209 : n0 ≤ h2208.size := Nat.le_trans Zc2205 (Nat.le_of_eq W2208.size.symm)
  have N2208 := Fr.snoc X2208 N2204 g_b2161
  refine Gl.st (B := (T2208.setTop (mkF m 305 L2165 []))) st2208 ?_
  refine Gl.st (B := (T2208.setTop (mkF m 308 L2165 [(.int p4), (.ref b2161)]))) (fun t k => XS.aload X2208.here hx rfl (hb hby at_305) (ldAt hL2165 rfl) rfl (XS.iloadN X2208.here hx rfl (hb hby at_307) (ldAt hL2165 rfl) k)) ?_
  have c2210 := (c2206.wr W2208)
  have c2211 := ((((((((((fq2163_9.other W2169 (Or.inl (Ne.symm ne_b2156_b2161_2167))).other W2173 (Or.inl (Ne.symm ne_b2156_b2161_2167))).other W2177 (Or.inl (Ne.symm ne_b2156_b2161_2167))).other W2182 (Or.inl (Ne.symm ne_b2156_b2161_2167))).other W2187 (Or.inl (Ne.symm ne_b2156_b2161_2167))).other W2192 (Or.inl (Ne.symm ne_b2156_b2161_2167))).other W2196 (Or.inr (sn50 hw))).other W2200 (Or.inr (sn28 hw))).other W2204 (Or.inr (sn49 hw))).other W2208 (Or.inr (sn55 hw)))
  obtain ⟨T2212, h2212, X2212, e2212, W2212, st2212⟩ := putF X2208 hx hZ hown (host := "") (Or.inl (tw hw 121 rfl)) Via.refl e2208 c2211 c2210 (Or.inl (tw hw 122 rfl)) (tw hw 102 rfl) (ty := .int) (by decide) rfl rfl (g := (mkF m 308 L2165 [(.int p4), (.ref b2161)])) rfl rfl (hb hby at_308)
  have Fw2212 := c2211.same W2212
  have Zc2213 : n0 ≤ h2212.size := Nat.le_trans Zc2209 (Nat.le_of_eq W2212.size.symm)
  have N2212 := Fr.snoc X2212 N2208 g_b2161
  refine Gl.st (B := (T2212.setTop (mkF m 311 L2165 []))) st2212 ?_
  refine Gl.st (B := (T2212.setTop (mkF m 315 L2165 [(.long q5), (.ref b2161)]))) (fun t k => XS.aload X2212.here hx rfl (hb hby at_311) (ldAt hL2165 rfl) rfl (XS.lload X2212.here hx rfl (hb hby at_313) (ldAt hL2165 rfl) k)) ?_
  have c2214 := (c2210.wr W2212)
  have c2215 := (((((((((((fq2163_10.other W2169 (Or.inl (Ne.symm ne_b2156_b2161_2167))).other W2173 (Or.inl (Ne.symm ne_b2156_b2161_2167))).other W2177 (Or.inl (Ne.symm ne_b2156_b2161_2167))).other W2182 (Or.inl (Ne.symm ne_b2156_b2161_2167))).other W2187 (Or.inl (Ne.symm ne_b2156_b2161_2167))).other W2192 (Or.inl (Ne.symm ne_b2156_b2161_2167))).other W2196 (Or.inr (sn52 hw))).other W2200 (Or.inr (sn31 hw))).other W2204 (Or.inr (sn51 hw))).other W2208 (Or.inr (sn56 hw))).other W2212 (Or.inr (sn57 hw)))
  obtain ⟨T2216, h2216, X2216, e2216, W2216, st2216⟩ := putF X2212 hx hZ hown (host := "") (Or.inl (tw hw 124 rfl)) Via.refl e2212 c2215 c2214 (Or.inl (tw hw 125 rfl)) (tw hw 102 rfl) (ty := .long) (by decide) rfl rfl (g := (mkF m 315 L2165 [(.long q5), (.ref b2161)])) rfl rfl (hb hby at_315)
  have Fw2216 := c2215.same W2216
  have Zc2217 : n0 ≤ h2216.size := Nat.le_trans Zc2213 (Nat.le_of_eq W2216.size.symm)
  have N2216 := Fr.snoc X2216 N2212 g_b2161
  refine Gl.st (B := (T2216.setTop (mkF m 318 L2165 []))) st2216 ?_
  refine Gl.st (B := (T2216.setTop (mkF m 322 L2165 [(.ref b2156), (.ref b2161)]))) (fun t k => XS.aload X2216.here hx rfl (hb hby at_318) (ldAt hL2165 rfl) rfl (XS.aload X2216.here hx rfl (hb hby at_320) (ldAt hL2165 rfl) rfl k)) ?_
  have c2219 := ((((Fw2200.other W2204 (Or.inr (sn37 hw))).other W2208 (Or.inr (sn58 hw))).other W2212 (Or.inr (sn59 hw))).other W2216 (Or.inr (sn60 hw)))
  have c2220 := ((((((((((((fq2163_4.other W2169 (Or.inl (Ne.symm ne_b2156_b2161_2167))).other W2173 (Or.inl (Ne.symm ne_b2156_b2161_2167))).other W2177 (Or.inl (Ne.symm ne_b2156_b2161_2167))).other W2182 (Or.inl (Ne.symm ne_b2156_b2161_2167))).other W2187 (Or.inl (Ne.symm ne_b2156_b2161_2167))).other W2192 (Or.inl (Ne.symm ne_b2156_b2161_2167))).other W2196 (Or.inr (sn41 hw))).other W2200 (Or.inr (sn10 hw))).other W2204 (Or.inr (sn40 hw))).other W2208 (Or.inr (sn61 hw))).other W2212 (Or.inr (sn62 hw))).other W2216 (Or.inr (sn63 hw)))
  have c2221 := ((((((((((((fq2163_5.other W2169 (Or.inl (Ne.symm ne_b2156_b2161_2167))).other W2173 (Or.inl (Ne.symm ne_b2156_b2161_2167))).other W2177 (Or.inl (Ne.symm ne_b2156_b2161_2167))).other W2182 (Or.inl (Ne.symm ne_b2156_b2161_2167))).other W2187 (Or.inl (Ne.symm ne_b2156_b2161_2167))).other W2192 (Or.inl (Ne.symm ne_b2156_b2161_2167))).other W2196 (Or.inr (sn43 hw))).other W2200 (Or.inr (sn11 hw))).other W2204 (Or.inr (sn42 hw))).other W2208 (Or.inr (sn64 hw))).other W2212 (Or.inr (sn65 hw))).other W2216 (Or.inr (sn66 hw)))
  have c2222 := (((((Fw2196.other W2200 (Or.inr (sn15 hw))).other W2204 (Or.inr (sn38 hw))).other W2208 (Or.inr (sn67 hw))).other W2212 (Or.inr (sn68 hw))).other W2216 (Or.inr (sn69 hw)))
  have c2223 := (((Fw2204.other W2208 (Or.inr (sn70 hw))).other W2212 (Or.inr (sn71 hw))).other W2216 (Or.inr (sn72 hw)))
  have c2224 := ((Fw2208.other W2212 (Or.inr (sn73 hw))).other W2216 (Or.inr (sn74 hw)))
  have c2225 := (Fw2212.other W2216 (Or.inr (sn75 hw)))
  have c2226 := ((((((((((((fq2163_6.other W2169 (Or.inl (Ne.symm ne_b2156_b2161_2167))).other W2173 (Or.inl (Ne.symm ne_b2156_b2161_2167))).other W2177 (Or.inl (Ne.symm ne_b2156_b2161_2167))).other W2182 (Or.inl (Ne.symm ne_b2156_b2161_2167))).other W2187 (Or.inl (Ne.symm ne_b2156_b2161_2167))).other W2192 (Or.inl (Ne.symm ne_b2156_b2161_2167))).other W2196 (Or.inr (sn45 hw))).other W2200 (Or.inr (sn19 hw))).other W2204 (Or.inr (sn44 hw))).other W2208 (Or.inr (sn76 hw))).other W2212 (Or.inr (sn77 hw))).other W2216 (Or.inr (sn78 hw)))
  have c2227 := ((((((((((((fq2163_7.other W2169 (Or.inl (Ne.symm ne_b2156_b2161_2167))).other W2173 (Or.inl (Ne.symm ne_b2156_b2161_2167))).other W2177 (Or.inl (Ne.symm ne_b2156_b2161_2167))).other W2182 (Or.inl (Ne.symm ne_b2156_b2161_2167))).other W2187 (Or.inl (Ne.symm ne_b2156_b2161_2167))).other W2192 (Or.inl (Ne.symm ne_b2156_b2161_2167))).other W2196 (Or.inr (sn47 hw))).other W2200 (Or.inr (sn22 hw))).other W2204 (Or.inr (sn46 hw))).other W2208 (Or.inr (sn79 hw))).other W2212 (Or.inr (sn80 hw))).other W2216 (Or.inr (sn81 hw)))
  have c2228 := (((((((((Fw2177.other W2182 (Or.inr (sn70 hw))).other W2187 (Or.inr (sn71 hw))).other W2192 (Or.inr (sn72 hw))).other W2196 (Or.inl ne_b2156_b2161_2167)).other W2200 (Or.inl ne_b2156_b2161_2167)).other W2204 (Or.inl ne_b2156_b2161_2167)).other W2208 (Or.inl ne_b2156_b2161_2167)).other W2212 (Or.inl ne_b2156_b2161_2167)).other W2216 (Or.inl ne_b2156_b2161_2167))
  have c2229 := ((((((((((Fw2173.other W2177 (Or.inr (sn37 hw))).other W2182 (Or.inr (sn58 hw))).other W2187 (Or.inr (sn59 hw))).other W2192 (Or.inr (sn60 hw))).other W2196 (Or.inl ne_b2156_b2161_2167)).other W2200 (Or.inl ne_b2156_b2161_2167)).other W2204 (Or.inl ne_b2156_b2161_2167)).other W2208 (Or.inl ne_b2156_b2161_2167)).other W2212 (Or.inl ne_b2156_b2161_2167)).other W2216 (Or.inl ne_b2156_b2161_2167))
  have c2230 := (((((((((((Fw2169.other W2173 (Or.inr (sn15 hw))).other W2177 (Or.inr (sn38 hw))).other W2182 (Or.inr (sn67 hw))).other W2187 (Or.inr (sn68 hw))).other W2192 (Or.inr (sn69 hw))).other W2196 (Or.inl ne_b2156_b2161_2167)).other W2200 (Or.inl ne_b2156_b2161_2167)).other W2204 (Or.inl ne_b2156_b2161_2167)).other W2208 (Or.inl ne_b2156_b2161_2167)).other W2212 (Or.inl ne_b2156_b2161_2167)).other W2216 (Or.inl ne_b2156_b2161_2167))
  have c2231 := (c2214.wr W2216)
  obtain ⟨cq2218, kq2218, q2218a, q2218b, q2218c⟩ := isOf hZ e2216 c2231
  obtain ⟨_, _, ⟨T2218, L2218q, k2218, n2218⟩, -, X2218, ⟨Lc2218, hQ2218, l2218, y2218, z2218⟩, st2218⟩ := X2216.virtualBack hx (y := (⟨"com/example/limpet/limpet/group/Member", "takeOver", "(Lcom/example/limpet/limpet/group/Member;)V"⟩ : MethodName)) (z := (⟨"com/example/limpet/limpet/group/Member", "takeOver", "(Lcom/example/limpet/limpet/group/Member;)V"⟩ : MethodName)) hown (mvT hZ (tw hw 126 rfl)) (mvT hZ (tw hw 127 rfl)) (notFace_of_selects (args := #[]) (mvT hZ (tw hw 129 rfl))) (mvT hZ (tw hw 129 rfl)) (mvT hZ (tw hw 128 rfl)) (by decide) (backOf (W := 0) (rm17n l Z a0 hw [] b2161 b2156 ((.ref b1150)) ((.ref b11_t0)) .null ((.int p2)) ((.ref b1144)) ((.int p3)) ((.int p4)) ((.long q5)) .null .null b116 p1 h2216 n0 Zc2217 c2219 c2220 c2221 c2222 c2223 c2224 c2225 Fw2216 c2226 c2227 c2228 c2231 g_b2161 c2229 (Ne.symm ne_b2156_b2161_2167) c2230) hZ (tw hw 130 rfl) (tw hw 103 rfl) (by decide) (by decide)) q2218a q2218c (g := (mkF m 322 L2165 [(.ref b2156), (.ref b2161)])) rfl (szAt hml hL2165 rfl) (Steps.refl _) (argsL := [(.ref b2156)]) (rest := []) (lenOf pd_0s206_17_1 rfl) rfl (by show 2 * 0 + _ ≤ _; exact Nat.le_of_eq rfl) (hb hby at_322) (fun _ _ => ⟨rfl, e2216, (by decide : 15 + 0 ≤ _), (by decide : 44 + 0 ≤ _)⟩)
  dsimp only [Pt.U, Pt.locs, Pt.cells, Pt.slots] at X2218 l2218 y2218 z2218 st2218 hQ2218
  subst l2218 y2218 z2218
  obtain ⟨rfl, N2218q, Kc2218, fq2218_0, fq2218_1, fq2218_2, fq2218_3, fq2218_4, fq2218_5, fq2218_6, fq2218_7, fq2218_8, fq2218_9, fq2218_10⟩ := hQ2218
  have Zc2232 : n0 ≤ T2218.heap.size := Nat.le_trans Zc2217 Kc2218.1
  have N2218 := Fr.app N2216 N2218q
  refine Gl.st (B := (T2218.setTop (mkF m 325 L2165 []))) (fun t k => st2218.trans k) ?_
  have c2233 := (((((((((((((((fq2158_4.ext E2161).keep Kc2163 (ninS ne_b2156_b2161_2167 nin0)).other W2169 (Or.inr (sn41 hw))).other W2173 (Or.inr (sn10 hw))).other W2177 (Or.inr (sn40 hw))).other W2182 (Or.inr (sn61 hw))).other W2187 (Or.inr (sn62 hw))).other W2192 (Or.inr (sn63 hw))).other W2196 (Or.inl ne_b2156_b2161_2167)).other W2200 (Or.inl ne_b2156_b2161_2167)).other W2204 (Or.inl ne_b2156_b2161_2167)).other W2208 (Or.inl ne_b2156_b2161_2167)).other W2212 (Or.inl ne_b2156_b2161_2167)).other W2216 (Or.inl ne_b2156_b2161_2167)).keep Kc2218 (ninS ne_b2156_b2161_2167 nin0))
  have c2234 := (((((((((((((((fq2158_5.ext E2161).keep Kc2163 (ninS ne_b2156_b2161_2167 nin0)).other W2169 (Or.inr (sn43 hw))).other W2173 (Or.inr (sn11 hw))).other W2177 (Or.inr (sn42 hw))).other W2182 (Or.inr (sn64 hw))).other W2187 (Or.inr (sn65 hw))).other W2192 (Or.inr (sn66 hw))).other W2196 (Or.inl ne_b2156_b2161_2167)).other W2200 (Or.inl ne_b2156_b2161_2167)).other W2204 (Or.inl ne_b2156_b2161_2167)).other W2208 (Or.inl ne_b2156_b2161_2167)).other W2212 (Or.inl ne_b2156_b2161_2167)).other W2216 (Or.inl ne_b2156_b2161_2167)).keep Kc2218 (ninS ne_b2156_b2161_2167 nin0))
  have c2235 := (c2230.keep Kc2218 (ninS ne_b2156_b2161_2167 nin0))
  have c2236 := (c2229.keep Kc2218 (ninS ne_b2156_b2161_2167 nin0))
  have c2237 := (c2228.keep Kc2218 (ninS ne_b2156_b2161_2167 nin0))
  have c2238 := (((((((((Fw2182.other W2187 (Or.inr (sn73 hw))).other W2192 (Or.inr (sn74 hw))).other W2196 (Or.inl ne_b2156_b2161_2167)).other W2200 (Or.inl ne_b2156_b2161_2167)).other W2204 (Or.inl ne_b2156_b2161_2167)).other W2208 (Or.inl ne_b2156_b2161_2167)).other W2212 (Or.inl ne_b2156_b2161_2167)).other W2216 (Or.inl ne_b2156_b2161_2167)).keep Kc2218 (ninS ne_b2156_b2161_2167 nin0))
  have c2239 := ((((((((Fw2187.other W2192 (Or.inr (sn75 hw))).other W2196 (Or.inl ne_b2156_b2161_2167)).other W2200 (Or.inl ne_b2156_b2161_2167)).other W2204 (Or.inl ne_b2156_b2161_2167)).other W2208 (Or.inl ne_b2156_b2161_2167)).other W2212 (Or.inl ne_b2156_b2161_2167)).other W2216 (Or.inl ne_b2156_b2161_2167)).keep Kc2218 (ninS ne_b2156_b2161_2167 nin0))
  have c2240 := (((((((Fw2192.other W2196 (Or.inl ne_b2156_b2161_2167)).other W2200 (Or.inl ne_b2156_b2161_2167)).other W2204 (Or.inl ne_b2156_b2161_2167)).other W2208 (Or.inl ne_b2156_b2161_2167)).other W2212 (Or.inl ne_b2156_b2161_2167)).other W2216 (Or.inl ne_b2156_b2161_2167)).keep Kc2218 (ninS ne_b2156_b2161_2167 nin0))
  have c2241 := (((((((((((((((fq2158_6.ext E2161).keep Kc2163 (ninS ne_b2156_b2161_2167 nin0)).other W2169 (Or.inr (sn45 hw))).other W2173 (Or.inr (sn19 hw))).other W2177 (Or.inr (sn44 hw))).other W2182 (Or.inr (sn76 hw))).other W2187 (Or.inr (sn77 hw))).other W2192 (Or.inr (sn78 hw))).other W2196 (Or.inl ne_b2156_b2161_2167)).other W2200 (Or.inl ne_b2156_b2161_2167)).other W2204 (Or.inl ne_b2156_b2161_2167)).other W2208 (Or.inl ne_b2156_b2161_2167)).other W2212 (Or.inl ne_b2156_b2161_2167)).other W2216 (Or.inl ne_b2156_b2161_2167)).keep Kc2218 (ninS ne_b2156_b2161_2167 nin0))
  have c2242 := (((((((((((((((fq2158_7.ext E2161).keep Kc2163 (ninS ne_b2156_b2161_2167 nin0)).other W2169 (Or.inr (sn47 hw))).other W2173 (Or.inr (sn22 hw))).other W2177 (Or.inr (sn46 hw))).other W2182 (Or.inr (sn79 hw))).other W2187 (Or.inr (sn80 hw))).other W2192 (Or.inr (sn81 hw))).other W2196 (Or.inl ne_b2156_b2161_2167)).other W2200 (Or.inl ne_b2156_b2161_2167)).other W2204 (Or.inl ne_b2156_b2161_2167)).other W2208 (Or.inl ne_b2156_b2161_2167)).other W2212 (Or.inl ne_b2156_b2161_2167)).other W2216 (Or.inl ne_b2156_b2161_2167)).keep Kc2218 (ninS ne_b2156_b2161_2167 nin0))
  have ne_b116_b2156_2243 : b116 ≠ b2156 := Nat.ne_of_lt (Nat.lt_of_lt_of_le V_b116.lt (Nat.le_of_eq gq2156.symm))
  have ne_b116_b2161_2244 : b116 ≠ b2161 := Nat.ne_of_lt (Nat.lt_of_lt_of_le V_b116.lt (Nat.le_trans E2156.1 (Nat.le_trans Kc2158.1 (Nat.le_of_eq gq2161.symm))))
  have c2245 := (((((((((((((((((V_b116.ext E2156).keep Kc2158 (ninS ne_b116_b2156_2243 nin0)).ext E2161).keep Kc2163 (ninS ne_b116_b2161_2244 nin0)).other W2169 ne_b116_b2156_2243).other W2173 ne_b116_b2156_2243).other W2177 ne_b116_b2156_2243).other W2182 ne_b116_b2156_2243).other W2187 ne_b116_b2156_2243).other W2192 ne_b116_b2156_2243).other W2196 ne_b116_b2161_2244).other W2200 ne_b116_b2161_2244).other W2204 ne_b116_b2161_2244).other W2208 ne_b116_b2161_2244).other W2212 ne_b116_b2161_2244).other W2216 ne_b116_b2161_2244).keep Kc2218 (ninS ne_b116_b2161_2244 nin0))
  have c2246 := ((((((((c2190.wr W2192).wr W2196).wr W2200).wr W2204).wr W2208).wr W2212).wr W2216).keep Kc2218)
  refine Gl.cast (B := (T2218.setTop (mkF m 325 #[.val (.int p1), .val (.int p2), .val (.int p3), .val (.int p4), .val (.long q5), .second, .val (.int p6), .val (.int (1 : Int32)), .val (.int w8e), od9, .val (.ref b11_t0), .val (.ref b17_t0), .val .null, .val (.int y13_92_111), .val (.int y14_99_113), .val (.ref b116), .val (.ref b1123), .val .null, .val (.ref b1144), .val (.ref b1150), .val (.ref b2156), .val (.ref b2161), .unset] []))) (by rw [hL2165]) ?_
  exact sg_325_18 l Z a0 hw hx hby hml hret hlk hZ hown n0 p1 p2 p3 p4 q5 p6 w8e b11_t0 b17_t0 y13_92_111 y14_99_113 b116 b1123 b1144 (.val (.ref b1150)) b2156 b2161 k116 nra vra x257_2179 x265_2184 x276_2189 T2218.heap (X2218.more (by decide) (by decide)) rfl N2218 Zc2232 fq2218_2 fq2218_1 c2245 hr357_hE fq2218_7 fq2218_3 fq2218_4 fq2218_10 fq2218_8 fq2218_9 fq2218_5 fq2218_6 c2233 c2234 c2235 c2236 c2237 c2238 c2239 c2240 c2241 c2242 fq2218_0 hr605_hE hx257_2179 hx265_2184 hx276_2189 c2246
theorem pd_0s125_16_0 : parseMethodDescriptor "(C)Ljava/lang/String;" = some ⟨[.char], some (.object "java/lang/String")⟩ := by decide +kernel
theorem pd_0s125_16_1 : parseMethodDescriptor "(Ljava/lang/String;[B)V" = some ⟨[(.object "java/lang/String"), (.array .byte)], none⟩ := by decide +kernel
theorem pd_0s125_16_2 : parseMethodDescriptor "()V" = some ⟨[], none⟩ := by decide +kernel
theorem own_0s125_16_hp140_1128 (p4 : Int32) (x140_1125 : Int32) (hx140_1125 : x140_1125 = ((((p4.toUInt32 >>> ((16 : Int32) &&& 31).toUInt32).toInt32) &&& (255 : Int32)).toUInt32.toUInt16.toUInt32.toInt32))  : ¬ ((255 : Int32) < x140_1125) := by
  exact own_ch _ _ hx140_1125
set_option maxRecDepth 65536 in
set_option maxHeartbeats 40000000 in
theorem sg_125_16 (l : Launch) (Z : State) (a0 : Array Value) (hw : ∀ d ∈ tables_1, d.before a0 Z = true) {p : Program} {e : Env} {s : State} {m : MethodId} {A0 : Array Value} {below : List Frame} {meth : Method} {c : Code} (hx : p.tables.exec = Jvm.exec) (hby : c.code = code) (hml : c.maxLocals = 23) (hret : meth.sig.returnType = ret) (hlk : meth.locks = false) (hZ : Z.Warmed39 s.vm) (hown : s.vm.findClass "com/example/limpet/limpet/group/MemberTakeOverPinLaw" = some m.cls) (n0 : Nat) (p1 : Int32) (p2 : Int32) (p3 : Int32) (p4 : Int32) (q5 : Int64) (p6 : Int32) (w8e : Int32) (od9 : Slot) (b11_t0 : Addr) (b17_t0 : Addr) (y13_92_111 : Int32) (y14_99_113 : Int32) (b116 : Addr) (nra : Int32) (vra : List Value) (z_COMP1 : Int32) (z_DEFA0 : Addr) (k116 : ClassId) {T0 : State} {Lc : List Loc} (h0 : Heap) (X0 : Stand p l e room_1 s m A0 below meth c T0 Lc 5 12) (e0 : T0.heap = h0) (N0 : Fr n0 Lc) (Z0 : n0 ≤ h0.size) (S_COMP1 : Sta Z h0 "java/lang/String" "COMPACT_STRINGS" "Z" (.int z_COMP1)) (hr140_hq3 : ¬ (z_COMP1 = (0 : Int32))) (S_DEFA0 : Sta Z h0 "java/util/ArrayList" "DEFAULTCAPACITY_EMPTY_ELEMENTDATA" "[Ljava/lang/Object;" (.ref z_DEFA0)) (V_b116 : Arv Z h0 b116 k116 .byte nra vra (.int (0 : Int32))) (hr357_hE : (w8e = (1 : Int32) ∧ nra = (0 : Int32) ∧ vra = []) ∨ (w8e = (0 : Int32) ∧ nra = (2 : Int32) ∧ vra = [(.int y13_92_111), (.int y14_99_113)])) (hr605_hE : (w8e = (1 : Int32) ∧ nra = (0 : Int32) ∧ vra = []) ∨ (w8e = (0 : Int32) ∧ nra = (2 : Int32) ∧ vra = [(.int y13_92_111), (.int y14_99_113)])) :
    Gl p e below (fun o U' => ∃ v L, o = .returned v ∧ (v = some (.int (1 : Int32)) ∧ Fr n0 L) ∧ FrameEnd s o U' L room_1.cells room_1.slots) (T0.setTop (mkF m 125 #[.val (.int p1), .val (.int p2), .val (.int p3), .val (.int p4), .val (.long q5), .second, .val (.int p6), .val (.int (1 : Int32)), .val (.int w8e), od9, .val (.ref b11_t0), .val (.ref b17_t0), .val .null, .val (.int y13_92_111), .val (.int y14_99_113), .unset, .unset, .unset, .unset, .unset, .unset, .unset, .unset] [(.ref b116)])) := by
  obtain ⟨L0, hL0⟩ : ∃ z : Array Slot, z = #[.val (.int p1), .val (.int p2), .val (.int p3), .val (.int p4), .val (.long q5), .second, .val (.int p6), .val (.int (1 : Int32)), .val (.int w8e), od9, .val (.ref b11_t0), .val (.ref b17_t0), .val .null, .val (.int y13_92_111), .val (.int y14_99_113), .unset, .unset, .unset, .unset, .unset, .unset, .unset, .unset] := ⟨_, rfl⟩
  refine Gl.cast (B := (T0.setTop (mkF m 125 L0 [(.ref b116)]))) (by rw [hL0]) ?_
  obtain ⟨L1122, hL1122⟩ : ∃ z : Array Slot, z = #[.val (.int p1), .val (.int p2), .val (.int p3), .val (.int p4), .val (.long q5), .second, .val (.int p6), .val (.int (1 : Int32)), .val (.int w8e), od9, .val (.ref b11_t0), .val (.ref b17_t0), .val .null, .val (.int y13_92_111), .val (.int y14_99_113), .val (.ref b116), .unset, .unset, .unset, .unset, .unset, .unset, .unset] := ⟨_, rfl⟩
  refine Gl.st (B := (T0.setTop (mkF m 127 L1122 []))) (fun t k => XS.astore X0.here hx rfl (hb hby at_125) rfl rfl (l' := L1122) (stAt hL0 hL1122 rfl rfl) k) ?_
  obtain ⟨T1123, h1123, X1123, e1123, E1123, A1123, D1123, -, st1123⟩ := newO X0 hx hZ hown (tw hw 26 rfl) (tw hw 27 rfl) (tw hw 28 rfl) e0 (g := (mkF m 127 L1122 [])) rfl (hb hby at_127) (by decide) (by decide)
  obtain ⟨b1123, gq1123⟩ : ∃ z, z = h0.size := ⟨_, rfl⟩
  rw [← gq1123] at A1123 D1123 st1123
  have g_b1123 : n0 ≤ b1123 := Nat.le_trans Z0 (Nat.le_of_eq gq1123.symm)
  have lt_b1123 := A1123.lt
  have Zc1124 : n0 ≤ h1123.size := Nat.le_trans Z0 E1123.1
  have F1123_name : Fld Z h1123 b1123 "com/example/limpet/limpet/protocol/JoinGroup$Protocol" "name" "Ljava/lang/String;" .null := D1123 (Or.inr (tw hw 39 rfl)) (ty := (.object "java/lang/String")) (by decide)
  have F1123_metadata : Fld Z h1123 b1123 "com/example/limpet/limpet/protocol/JoinGroup$Protocol" "metadata" "[B" .null := D1123 (Or.inr (tw hw 41 rfl)) (ty := (.array .byte)) (by decide)
  refine Gl.st (B := (T1123.setTop (mkF m 130 L1122 [(.ref b1123)]))) st1123 ?_
  refine Gl.st (B := (T1123.setTop (mkF m 139 L1122 [(.int (((p4.toUInt32 >>> ((16 : Int32) &&& 31).toUInt32).toInt32) &&& (255 : Int32))), (.ref b1123), (.ref b1123)]))) (fun t k => XS.dup X1123.here hx rfl (hb hby at_130) rfl rfl (XS.iloadN X1123.here hx rfl (hb hby at_131) (ldAt hL1122 rfl) (XS.bipush X1123.here hx rfl (hb hby at_132) (XS.iushr X1123.here hx rfl (hb hby at_134) rfl (XS.sipush X1123.here hx rfl (hb hby at_135) (XS.iand X1123.here hx rfl (hb hby at_138) rfl k)))))) ?_
  refine Gl.st (B := (T1123.setTop (mkF m 140 L1122 [(.int ((((p4.toUInt32 >>> ((16 : Int32) &&& 31).toUInt32).toInt32) &&& (255 : Int32)).toUInt32.toUInt16.toUInt32.toInt32)), (.ref b1123), (.ref b1123)]))) (fun t k => XS.i2c X1123.here hx rfl (hb hby at_139) rfl k) ?_
  obtain ⟨x140_1125, hx140_1125⟩ : ∃ z : Int32, z = ((((p4.toUInt32 >>> ((16 : Int32) &&& 31).toUInt32).toInt32) &&& (255 : Int32)).toUInt32.toUInt16.toUInt32.toInt32) := ⟨_, rfl⟩
  refine Gl.cast (B := (T1123.setTop (mkF m 140 L1122 [(.int x140_1125), (.ref b1123), (.ref b1123)]))) (by rw [hx140_1125]) ?_
  have c1127 := (S_COMP1.ext E1123)
  have hp140_1128 : ¬ ((255 : Int32) < x140_1125) := own_0s125_16_hp140_1128 p4 x140_1125 hx140_1125 
  obtain ⟨_, _, ⟨T1126, L1126q, k1126, n1126⟩, -, X1126, ⟨Lc1126, hQ1126, l1126, y1126, z1126⟩, st1126⟩ := Jvm.LawKit.callS X1123 hx (y := (⟨"java/lang/String", "valueOf", "(C)Ljava/lang/String;"⟩ : MethodName)) hown (mvT hZ (tw hw 0 rfl)) (mvT hZ (tw hw 1 rfl)) (mvT hZ (tw hw 2 rfl)) (mvT hZ (tw hw 3 rfl)) (by decide) (backOf (W := 2) (rm1 l Z a0 hw [] x140_1125 z_COMP1 h1123 n0 Zc1124 c1127 hr140_hq3 hp140_1128) hZ (tw hw 3 rfl) (tw hw 2 rfl) (by decide) (by decide)) (g := (mkF m 140 L1122 [(.int x140_1125), (.ref b1123), (.ref b1123)])) rfl (szAt hml hL1122 rfl) (argsL := [(.int x140_1125)]) (rest := [(.ref b1123), (.ref b1123)]) (lenOf pd_0s125_16_0 rfl) rfl (by show 2 * 0 + _ ≤ _; exact Nat.le_of_eq rfl) (hb hby at_140) (fun _ _ => ⟨rfl, e1123, (by decide : 6 + 2 ≤ _), (by decide : 14 + 5 ≤ _)⟩)
  dsimp only [Pt.U, Pt.locs, Pt.cells, Pt.slots] at X1126 l1126 y1126 z1126 st1126 hQ1126
  subst l1126 y1126 z1126
  obtain ⟨b1126_t0, b1126_t1, k1126_kx_t1, rfl, N1126q, Kc1126, fq1126_0, fq1126_1, fq1126_2, fq1126_3, fq1126_4, fq1126_5, fq1126_6⟩ := hQ1126
  have g_b1126_t0 : n0 ≤ b1126_t0 := Nat.le_trans Zc1124 fq1126_0
  have lt_b1126_t0 := fq1126_2.lt
  have g_b1126_t1 : n0 ≤ b1126_t1 := Nat.le_trans Zc1124 fq1126_1
  have lt_b1126_t1 := fq1126_5.lt
  have Zc1129 : n0 ≤ T1126.heap.size := Nat.le_trans Zc1124 Kc1126.1
  obtain ⟨f140_1130, hf140_1130⟩ : ∃ z : Int32, z = ((nar .byte (0 : Int32))) := ⟨_, rfl⟩
  rw [← hf140_1130] at fq1126_3
  have N1126 := Fr.app N0 N1126q
  refine Gl.st (B := (T1126.setTop (mkF m 143 L1122 [(.ref b1126_t0), (.ref b1123), (.ref b1123)]))) (fun t k => st1126 t k) ?_
  refine Gl.st (B := (T1126.setTop (mkF m 144 L1122 [(.int (1 : Int32)), (.ref b1126_t0), (.ref b1123), (.ref b1123)]))) (fun t k => XS.iconst X1126.here hx rfl (hb hby at_143) k) ?_
  obtain ⟨T1131, h1131, k1131, X1131, e1131, E1131, A1131, Ex1131, st1131⟩ := newPE X1126 hx hZ (tw hw 14 rfl) rfl (g := (mkF m 144 L1122 [(.int (1 : Int32)), (.ref b1126_t0), (.ref b1123), (.ref b1123)])) rfl (hb hby at_144) rfl (by decide) (cap := 1) (by decide) (by decide) (by decide) (by decide) (ad := "[B") rfl
  obtain ⟨b1131, gq1131⟩ : ∃ z, z = T1126.heap.size := ⟨_, rfl⟩
  rw [← gq1131] at A1131 Ex1131 st1131
  have V1131 : Arv Z h1131 b1131 k1131 .byte (1 : Int32) [(.int (0 : Int32))] (.int (0 : Int32)) := (Arv.new A1131 (by decide)).pad (pad_rep [] (.int (0 : Int32)) 1)
  have g_b1131 : n0 ≤ b1131 := Nat.le_trans Zc1129 (Nat.le_of_eq gq1131.symm)
  have lt_b1131 := V1131.lt
  have Zc1132 : n0 ≤ h1131.size := Nat.le_trans Zc1129 E1131.1
  refine Gl.st (B := (T1131.setTop (mkF m 146 L1122 [(.ref b1131), (.ref b1126_t0), (.ref b1123), (.ref b1123)]))) st1131 ?_
  refine Gl.st (B := (T1131.setTop (mkF m 153 L1122 [(.int (((p4.toUInt32 >>> ((24 : Int32) &&& 31).toUInt32).toInt32).toInt8.toInt32)), (.int (0 : Int32)), (.ref b1131), (.ref b1131), (.ref b1126_t0), (.ref b1123), (.ref b1123)]))) (fun t k => XS.dup X1131.here hx rfl (hb hby at_146) rfl rfl (XS.iconst X1131.here hx rfl (hb hby at_147) (XS.iloadN X1131.here hx rfl (hb hby at_148) (ldAt hL1122 rfl) (XS.bipush X1131.here hx rfl (hb hby at_149) (XS.iushr X1131.here hx rfl (hb hby at_151) rfl (XS.i2b X1131.here hx rfl (hb hby at_152) rfl k)))))) ?_
  obtain ⟨x153_1133, hx153_1133⟩ : ∃ z : Int32, z = (((p4.toUInt32 >>> ((24 : Int32) &&& 31).toUInt32).toInt32).toInt8.toInt32) := ⟨_, rfl⟩
  refine Gl.cast (B := (T1131.setTop (mkF m 153 L1122 [(.int x153_1133), (.int (0 : Int32)), (.ref b1131), (.ref b1131), (.ref b1126_t0), (.ref b1123), (.ref b1123)]))) (by rw [hx153_1133]) ?_
  obtain ⟨cl1134, Ar1134, q1134, S1134, P1134, H1134, G1134⟩ := (id V1131)
  have hin153_1134 : ¬ ((0 : Int32) < 0 ∨ cl1134.slots.size ≤ ((0 : Int32)).toNatClampNeg) := inb_of S1134 ⟨by decide, by decide⟩
  obtain ⟨T1134, h1134, X1134, e1134, W1134, st1134⟩ := stB X1131 hx hZ e1131 Ar1134 (j := (0 : Int32)) hin153_1134 (g := (mkF m 153 L1122 [(.int x153_1133), (.int (0 : Int32)), (.ref b1131), (.ref b1131), (.ref b1126_t0), (.ref b1123), (.ref b1123)])) rfl rfl (hb hby at_153)
  have V1134 : Arv Z h1134 b1131 k1131 .byte (1 : Int32) [(.int (nar .byte x153_1133))] (.int (0 : Int32)) := Arv.set Ar1134 q1134 S1134 P1134 H1134 G1134 (fits_nar_byte _) W1134 0 rfl (Nat.le_of_ble_eq_true rfl)
  have Zc1135 : n0 ≤ h1134.size := Nat.le_trans Zc1132 (Nat.le_of_eq W1134.size.symm)
  have N1134 := Fr.snoc X1134 N1126 g_b1131
  refine Gl.st (B := (T1134.setTop (mkF m 154 L1122 [(.ref b1131), (.ref b1126_t0), (.ref b1123), (.ref b1123)]))) st1134 ?_
  have ne_b1123_b1131_1137 : b1123 ≠ b1131 := Nat.ne_of_lt (Nat.lt_of_lt_of_le lt_b1123 (Nat.le_trans Kc1126.1 (Nat.le_of_eq gq1131.symm)))
  have c1138 := (((F1123_name.keep Kc1126 nin0).ext E1131).other W1134 (Or.inl ne_b1123_b1131_1137))
  have c1139 := (((F1123_metadata.keep Kc1126 nin0).ext E1131).other W1134 (Or.inl ne_b1123_b1131_1137))
  have c1140 := (((A1123.keep Kc1126).ext E1131).wr W1134)
  obtain ⟨_, _, ⟨T1136, L1136q, k1136, n1136⟩, -, X1136, ⟨Lc1136, hQ1136, l1136, y1136, z1136⟩, st1136⟩ := X1134.specialBack hx (y := (⟨"com/example/limpet/limpet/protocol/JoinGroup$Protocol", "<init>", "(Ljava/lang/String;[B)V"⟩ : MethodName)) rfl hown (mvT hZ (tw hw 29 rfl)) (mvT hZ (tw hw 30 rfl)) (mvT hZ (tw hw 31 rfl)) (by decide) (backOf (W := 1) (rm6 l Z a0 hw [] b1123 b1126_t0 b1131 .null .null h1134 n0 Zc1135 c1138 c1139 c1140 g_b1123) hZ (tw hw 31 rfl) (tw hw 28 rfl) (by decide) (by decide)) (g := (mkF m 154 L1122 [(.ref b1131), (.ref b1126_t0), (.ref b1123), (.ref b1123)])) rfl (szAt hml hL1122 rfl) (Steps.refl _) (a := b1123) (argsL := [(.ref b1126_t0), (.ref b1131)]) (rest := [(.ref b1123)]) (lenOf pd_0s125_16_1 rfl) rfl (by show 2 * 0 + _ ≤ _; exact Nat.le_of_eq rfl) (hb hby at_154) (fun _ _ => ⟨rfl, e1134, (by decide : 9 + 0 ≤ _), (by decide : 20 + 0 ≤ _)⟩)
  dsimp only [Pt.U, Pt.locs, Pt.cells, Pt.slots] at X1136 l1136 y1136 z1136 st1136 hQ1136
  subst l1136 y1136 z1136
  obtain ⟨rfl, N1136q, Kc1136, fq1136_0, fq1136_1, fq1136_2⟩ := hQ1136
  have Zc1141 : n0 ≤ T1136.heap.size := Nat.le_trans Zc1135 Kc1136.1
  have N1136 := Fr.app N1134 N1136q
  refine Gl.st (B := (T1136.setTop (mkF m 157 L1122 [(.ref b1123)]))) (fun t k => st1136.trans k) ?_
  obtain ⟨L1142, hL1142⟩ : ∃ z : Array Slot, z = #[.val (.int p1), .val (.int p2), .val (.int p3), .val (.int p4), .val (.long q5), .second, .val (.int p6), .val (.int (1 : Int32)), .val (.int w8e), od9, .val (.ref b11_t0), .val (.ref b17_t0), .val .null, .val (.int y13_92_111), .val (.int y14_99_113), .val (.ref b116), .val (.ref b1123), .unset, .unset, .unset, .unset, .unset, .unset] := ⟨_, rfl⟩
  obtain ⟨L1143, hL1143⟩ : ∃ z : Array Slot, z = #[.val (.int p1), .val (.int p2), .val (.int p3), .val (.int p4), .val (.long q5), .second, .val (.int p6), .val (.int (1 : Int32)), .val (.int w8e), od9, .val (.ref b11_t0), .val (.ref b17_t0), .val .null, .val (.int y13_92_111), .val (.int y14_99_113), .val (.ref b116), .val (.ref b1123), .val .null, .unset, .unset, .unset, .unset, .unset] := ⟨_, rfl⟩
  refine Gl.st (B := (T1136.setTop (mkF m 186 L1143 []))) (fun t k => XS.astore X1136.here hx rfl (hb hby at_157) rfl rfl (l' := L1142) (stAt hL1122 hL1142 rfl rfl) (XS.aconstNull X1136.here hx rfl (hb hby at_159) (XS.astore X1136.here hx rfl (hb hby at_160) rfl rfl (l' := L1143) (stAt hL1142 hL1143 rfl rfl) (XS.iload X1136.here hx rfl (hb hby at_162) (ldAt hL1143 rfl) (XS.ifYes X1136.here hx rfl (pc0 := 164) (pc' := 186) rfl (hb hby at_164) rfl (by decide) (by decide) (by decide) k))))) ?_
  obtain ⟨T1144, h1144, X1144, e1144, E1144, A1144, D1144, -, st1144⟩ := newO X1136 hx hZ hown (tw hw 42 rfl) (tw hw 43 rfl) (tw hw 44 rfl) rfl (g := (mkF m 186 L1143 [])) rfl (hb hby at_186) (by decide) (by decide)
  obtain ⟨b1144, gq1144⟩ : ∃ z, z = T1136.heap.size := ⟨_, rfl⟩
  rw [← gq1144] at A1144 D1144 st1144
  have g_b1144 : n0 ≤ b1144 := Nat.le_trans Zc1141 (Nat.le_of_eq gq1144.symm)
  have lt_b1144 := A1144.lt
  have Zc1145 : n0 ≤ h1144.size := Nat.le_trans Zc1141 E1144.1
  have F1144_modCount : Fld Z h1144 b1144 "java/util/AbstractList" "modCount" "I" (.int (0 : Int32)) := D1144 (Or.inl (tw hw 62 rfl)) (ty := .int) (by decide)
  have F1144_elementData : Fld Z h1144 b1144 "java/util/ArrayList" "elementData" "[Ljava/lang/Object;" .null := D1144 (Or.inl (tw hw 65 rfl)) (ty := (.array (.object "java/lang/Object"))) (by decide)
  have F1144_size : Fld Z h1144 b1144 "java/util/ArrayList" "size" "I" (.int (0 : Int32)) := D1144 (Or.inl (tw hw 78 rfl)) (ty := .int) (by decide)
  refine Gl.st (B := (T1144.setTop (mkF m 189 L1143 [(.ref b1144)]))) st1144 ?_
  refine Gl.st (B := (T1144.setTop (mkF m 190 L1143 [(.ref b1144), (.ref b1144)]))) (fun t k => XS.dup X1144.here hx rfl (hb hby at_189) rfl rfl k) ?_
  have c1147 := ((own_sta_keep (((own_sta_keep (S_DEFA0.ext E1123) Kc1126 all0).ext E1131).wr W1134) Kc1136 (allS (own_exa_plain c1140) all0)).ext E1144)
  obtain ⟨_, _, ⟨T1146, L1146q, k1146, n1146⟩, -, X1146, ⟨Lc1146, hQ1146, l1146, y1146, z1146⟩, st1146⟩ := X1144.specialBack hx (y := (⟨"java/util/ArrayList", "<init>", "()V"⟩ : MethodName)) rfl hown (mvT hZ (tw hw 45 rfl)) (mvT hZ (tw hw 46 rfl)) (mvT hZ (tw hw 47 rfl)) (by decide) (backOf (W := 1) (rm8 l Z a0 hw [] b1144 ((.int (0 : Int32))) .null ((.int (0 : Int32))) z_DEFA0 h1144 n0 Zc1145 F1144_modCount F1144_elementData F1144_size A1144 g_b1144 c1147) hZ (tw hw 47 rfl) (tw hw 44 rfl) (by decide) (by decide)) (g := (mkF m 190 L1143 [(.ref b1144), (.ref b1144)])) rfl (szAt hml hL1143 rfl) (Steps.refl _) (a := b1144) (argsL := []) (rest := [(.ref b1144)]) (lenOf pd_0s125_16_2 rfl) rfl (by show 2 * 0 + _ ≤ _; exact Nat.le_of_eq rfl) (hb hby at_190) (fun _ _ => ⟨rfl, e1144, (by decide : 10 + 0 ≤ _), (by decide : 23 + 0 ≤ _)⟩)
  dsimp only [Pt.U, Pt.locs, Pt.cells, Pt.slots] at X1146 l1146 y1146 z1146 st1146 hQ1146
  subst l1146 y1146 z1146
  obtain ⟨rfl, N1146q, Kc1146, fq1146_0, fq1146_1, fq1146_2, fq1146_3⟩ := hQ1146
  have Zc1148 : n0 ≤ T1146.heap.size := Nat.le_trans Zc1145 Kc1146.1
  have N1146 := Fr.app N1136 N1146q
  refine Gl.st (B := (T1146.setTop (mkF m 193 L1143 [(.ref b1144)]))) (fun t k => st1146.trans k) ?_
  obtain ⟨L1149, hL1149⟩ : ∃ z : Array Slot, z = #[.val (.int p1), .val (.int p2), .val (.int p3), .val (.int p4), .val (.long q5), .second, .val (.int p6), .val (.int (1 : Int32)), .val (.int w8e), od9, .val (.ref b11_t0), .val (.ref b17_t0), .val .null, .val (.int y13_92_111), .val (.int y14_99_113), .val (.ref b116), .val (.ref b1123), .val .null, .val (.ref b1144), .unset, .unset, .unset, .unset] := ⟨_, rfl⟩
  refine Gl.st (B := (T1146.setTop (mkF m 196 L1149 [(.int (1 : Int32))]))) (fun t k => XS.astore X1146.here hx rfl (hb hby at_193) rfl rfl (l' := L1149) (stAt hL1143 hL1149 rfl rfl) (XS.iconst X1146.here hx rfl (hb hby at_195) k)) ?_
  obtain ⟨T1150, h1150, k1150, X1150, e1150, E1150, A1150, Ex1150, st1150⟩ := newPE X1146 hx hZ (tw hw 14 rfl) rfl (g := (mkF m 196 L1149 [(.int (1 : Int32))])) rfl (hb hby at_196) rfl (by decide) (cap := 1) (by decide) (by decide) (by decide) (by decide) (ad := "[B") rfl
  obtain ⟨b1150, gq1150⟩ : ∃ z, z = T1146.heap.size := ⟨_, rfl⟩
  rw [← gq1150] at A1150 Ex1150 st1150
  have V1150 : Arv Z h1150 b1150 k1150 .byte (1 : Int32) [(.int (0 : Int32))] (.int (0 : Int32)) := (Arv.new A1150 (by decide)).pad (pad_rep [] (.int (0 : Int32)) 1)
  have g_b1150 : n0 ≤ b1150 := Nat.le_trans Zc1148 (Nat.le_of_eq gq1150.symm)
  have lt_b1150 := V1150.lt
  have Zc1151 : n0 ≤ h1150.size := Nat.le_trans Zc1148 E1150.1
  refine Gl.st (B := (T1150.setTop (mkF m 198 L1149 [(.ref b1150)]))) st1150 ?_
  refine Gl.st (B := (T1150.setTop (mkF m 203 L1149 [(.int (p6.toInt8.toInt32)), (.int (0 : Int32)), (.ref b1150), (.ref b1150)]))) (fun t k => XS.dup X1150.here hx rfl (hb hby at_198) rfl rfl (XS.iconst X1150.here hx rfl (hb hby at_199) (XS.iload X1150.here hx rfl (hb hby at_200) (ldAt hL1149 rfl) (XS.i2b X1150.here hx rfl (hb hby at_202) rfl k)))) ?_
  obtain ⟨x203_1152, hx203_1152⟩ : ∃ z : Int32, z = (p6.toInt8.toInt32) := ⟨_, rfl⟩
  refine Gl.cast (B := (T1150.setTop (mkF m 203 L1149 [(.int x203_1152), (.int (0 : Int32)), (.ref b1150), (.ref b1150)]))) (by rw [hx203_1152]) ?_
  obtain ⟨cl1153, Ar1153, q1153, S1153, P1153, H1153, G1153⟩ := (id V1150)
  have hin203_1153 : ¬ ((0 : Int32) < 0 ∨ cl1153.slots.size ≤ ((0 : Int32)).toNatClampNeg) := inb_of S1153 ⟨by decide, by decide⟩
  obtain ⟨T1153, h1153, X1153, e1153, W1153, st1153⟩ := stB X1150 hx hZ e1150 Ar1153 (j := (0 : Int32)) hin203_1153 (g := (mkF m 203 L1149 [(.int x203_1152), (.int (0 : Int32)), (.ref b1150), (.ref b1150)])) rfl rfl (hb hby at_203)
  have V1153 : Arv Z h1153 b1150 k1150 .byte (1 : Int32) [(.int (nar .byte x203_1152))] (.int (0 : Int32)) := Arv.set Ar1153 q1153 S1153 P1153 H1153 G1153 (fits_nar_byte _) W1153 0 rfl (Nat.le_of_ble_eq_true rfl)
  have Zc1154 : n0 ≤ h1153.size := Nat.le_trans Zc1151 (Nat.le_of_eq W1153.size.symm)
  have N1153 := Fr.snoc X1153 N1146 g_b1150
  refine Gl.st (B := (T1153.setTop (mkF m 204 L1149 [(.ref b1150)]))) st1153 ?_
  obtain ⟨L1155, hL1155⟩ : ∃ z : Array Slot, z = #[.val (.int p1), .val (.int p2), .val (.int p3), .val (.int p4), .val (.long q5), .second, .val (.int p6), .val (.int (1 : Int32)), .val (.int w8e), od9, .val (.ref b11_t0), .val (.ref b17_t0), .val .null, .val (.int y13_92_111), .val (.int y14_99_113), .val (.ref b116), .val (.ref b1123), .val .null, .val (.ref b1144), .val (.ref b1150), .unset, .unset, .unset] := ⟨_, rfl⟩
  refine Gl.st (B := (T1153.setTop (mkF m 206 L1155 []))) (fun t k => XS.astore X1153.here hx rfl (hb hby at_204) rfl rfl (l' := L1155) (stAt hL1149 hL1155 rfl rfl) k) ?_
  have ne_b116_b1131_1156 : b116 ≠ b1131 := Nat.ne_of_lt (Nat.lt_of_lt_of_le V_b116.lt (Nat.le_trans E1123.1 (Nat.le_trans Kc1126.1 (Nat.le_of_eq gq1131.symm))))
  have ne_b116_b1123_1157 : b116 ≠ b1123 := Nat.ne_of_lt (Nat.lt_of_lt_of_le V_b116.lt (Nat.le_of_eq gq1123.symm))
  have ne_b116_b1144_1158 : b116 ≠ b1144 := Nat.ne_of_lt (Nat.lt_of_lt_of_le V_b116.lt (Nat.le_trans E1123.1 (Nat.le_trans Kc1126.1 (Nat.le_trans E1131.1 (Nat.le_trans (Nat.le_of_eq W1134.size.symm) (Nat.le_trans Kc1136.1 (Nat.le_of_eq gq1144.symm)))))))
  have ne_b116_b1150_1159 : b116 ≠ b1150 := Nat.ne_of_lt (Nat.lt_of_lt_of_le V_b116.lt (Nat.le_trans E1123.1 (Nat.le_trans Kc1126.1 (Nat.le_trans E1131.1 (Nat.le_trans (Nat.le_of_eq W1134.size.symm) (Nat.le_trans Kc1136.1 (Nat.le_trans E1144.1 (Nat.le_trans Kc1146.1 (Nat.le_of_eq gq1150.symm)))))))))
  have c1160 := (((((((((V_b116.ext E1123).keep Kc1126 nin0).ext E1131).other W1134 ne_b116_b1131_1156).keep Kc1136 (ninS ne_b116_b1123_1157 nin0)).ext E1144).keep Kc1146 (ninS ne_b116_b1144_1158 nin0)).ext E1150).other W1153 ne_b116_b1150_1159)
  refine Gl.cast (B := (T1153.setTop (mkF m 206 #[.val (.int p1), .val (.int p2), .val (.int p3), .val (.int p4), .val (.long q5), .second, .val (.int p6), .val (.int (1 : Int32)), .val (.int w8e), od9, .val (.ref b11_t0), .val (.ref b17_t0), .val .null, .val (.int y13_92_111), .val (.int y14_99_113), .val (.ref b116), .val (.ref b1123), .val .null, .val (.ref b1144), .val (.ref b1150), .unset, .unset, .unset] []))) (by rw [hL1155]) ?_
  exact sg_206_17 l Z a0 hw hx hby hml hret hlk hZ hown n0 p1 p2 p3 p4 q5 p6 w8e b11_t0 b17_t0 y13_92_111 y14_99_113 b116 b1123 b1144 b1150 k116 nra vra h1153 (X1153.more (by decide) (by decide)) e1153 N1153 Zc1154 c1160 hr357_hE hr605_hE
theorem pn_0 : plainName "com/example/limpet/limpet/group/MemberTakeOverPinLaw" = true := by first | (simp [plainName, overriddenIn]; done) | decide +kernel
theorem pd_0_0 : parseMethodDescriptor "(C)Ljava/lang/String;" = some ⟨[.char], some (.object "java/lang/String")⟩ := by decide +kernel
theorem ef_0 (m : MethodId) (p1 : Int32) (p2 : Int32) (p3 : Int32) (p4 : Int32) (q5 : Int64) (p6 : Int32) : entryFrame m #[(.int p1), (.int p2), (.int p3), (.int p4), (.long q5), (.int p6)] maxLocals = mkF m 0 #[.val (.int p1), .val (.int p2), .val (.int p3), .val (.int p4), .val (.long q5), .second, .val (.int p6), .unset, .unset, .unset, .unset, .unset, .unset, .unset, .unset, .unset, .unset, .unset, .unset, .unset, .unset, .unset, .unset] [] := by first | (simp [entryFrame, mkF, argsToLocals, Value.category, maxLocals]; done) | rfl
theorem own_0_hp48_12 (p3 : Int32) (x48_10 : Int32) (hx48_10 : x48_10 = ((p3 &&& (255 : Int32)).toUInt32.toUInt16.toUInt32.toInt32))  : ¬ ((255 : Int32) < x48_10) := by
  exact own_ch _ _ hx48_10
theorem own_0_hp62_19 (p3 : Int32) (x62_16 : Int32) (hx62_16 : x62_16 = ((((p3.toUInt32 >>> ((8 : Int32) &&& 31).toUInt32).toInt32) &&& (255 : Int32)).toUInt32.toUInt16.toUInt32.toInt32))  : ¬ ((255 : Int32) < x62_16) := by
  exact own_ch _ _ hx62_16
theorem own_0_hp85_28 (p3 : Int32) (x85_25 : Int32) (hx85_25 : x85_25 = ((((p3.toUInt32 >>> ((16 : Int32) &&& 31).toUInt32).toInt32) &&& (255 : Int32)).toUInt32.toUInt16.toUInt32.toInt32))  : ¬ ((255 : Int32) < x85_25) := by
  exact own_ch _ _ hx85_25
theorem own_0_hp85_59 (p3 : Int32) (x85_56 : Int32) (hx85_56 : x85_56 = ((((p3.toUInt32 >>> ((16 : Int32) &&& 31).toUInt32).toInt32) &&& (255 : Int32)).toUInt32.toUInt16.toUInt32.toInt32))  : ¬ ((255 : Int32) < x85_56) := by
  exact own_ch _ _ hx85_56
def Q0 (Z : State) (p1 : Int32) (p2 : Int32) (p3 : Int32) (p4 : Int32) (q5 : Int64) (p6 : Int32) (kx_z_DEFA0 : ClassId) (z_COMP1 : Int32) (z_DEFA0 : Addr) (h0 : Heap) (n0 : Nat) (v : Option Value) (h : Heap) (L : List Loc) : Prop := v = some (.int (1 : Int32)) ∧ Fr n0 L
set_option maxRecDepth 65536 in
set_option maxHeartbeats 40000000 in
theorem rm0 (l : Launch) (Z : State) (a0 : Array Value) (hw : ∀ d ∈ tables_1, d.before a0 Z = true) (ws : List Jvm.Cond) (p1 : Int32) (p2 : Int32) (p3 : Int32) (p4 : Int32) (q5 : Int64) (p6 : Int32) (kx_z_DEFA0 : ClassId) (z_COMP1 : Int32) (z_DEFA0 : Addr) (h0 : Heap) (n0 : Nat) (Z0 : n0 ≤ h0.size) (V_z_DEFA0 : Arv Z h0 z_DEFA0 kx_z_DEFA0 (.object "java/lang/Object") (0 : Int32) [] .null) (S_COMP1 : Sta Z h0 "java/lang/String" "COMPACT_STRINGS" "Z" (.int z_COMP1)) (hr48_hq3 : ¬ (z_COMP1 = (0 : Int32))) (hr62_hq3 : ¬ (z_COMP1 = (0 : Int32))) (hr85_hq3 : ¬ (z_COMP1 = (0 : Int32))) (S_DEFA0 : Sta Z h0 "java/util/ArrayList" "DEFAULTCAPACITY_EMPTY_ELEMENTDATA" "[Ljava/lang/Object;" (.ref z_DEFA0)) (hr140_hq3 : ¬ (z_COMP1 = (0 : Int32))) :
    MetFree l x (head1 (Jvm.Cond.code x code maxLocals ret :: ws) room_1) (fun a U => a = #[(.int p1), (.int p2), (.int p3), (.int p4), (.long q5), (.int p6)] ∧ Z.Warmed39 U.vm ∧ U.heap = h0) (fun _ _ _ _ _ => True) (fun _ U o U' => ∃ v L, o = .returned v ∧ Q0 Z p1 p2 p3 p4 q5 p6 kx_z_DEFA0 z_COMP1 z_DEFA0 h0 n0 v U'.heap L ∧ FrameEnd U o U' L room_1.cells room_1.slots) := by
  refine MetFree.of_bodySF (plainFor_of_name pn_0) hisR ?_
  intro p e s m args below meth c s₁ Bd hml0 hP hK
  obtain ⟨rfl, hZ, hh⟩ := hP
  have hx := Bd.exec
  have hby := Bd.bytes
  have hml : c.maxLocals = 23 := hml0
  have hown : s.vm.findClass "com/example/limpet/limpet/group/MemberTakeOverPinLaw" = some m.cls := findClass_of_methodNamed Bd.named
  have hnm := (name_of_methodNamed Bd.named Bd.method).1
  have X0 : Stand p l e room_1 s m #[(.int p1), (.int p2), (.int p3), (.int p4), (.long q5), (.int p6)] below meth c s₁ [] 0 0 := Stand.of_body Bd
  have e0 : s₁.heap = h0 := by rw [← hh, Bd.state]; rfl
  have N0 := Fr.nil n0
  refine (show Gl p e below (fun o U' => ∃ v L, o = .returned v ∧ Q0 Z p1 p2 p3 p4 q5 p6 kx_z_DEFA0 z_COMP1 z_DEFA0 h0 n0 v U'.heap L ∧ FrameEnd s o U' L room_1.cells room_1.slots) (s₁.setTop (entryFrame m #[(.int p1), (.int p2), (.int p3), (.int p4), (.long q5), (.int p6)] maxLocals)) from ?_)
  obtain ⟨L0, hL0⟩ : ∃ z : Array Slot, z = #[.val (.int p1), .val (.int p2), .val (.int p3), .val (.int p4), .val (.long q5), .second, .val (.int p6), .unset, .unset, .unset, .unset, .unset, .unset, .unset, .unset, .unset, .unset, .unset, .unset, .unset, .unset, .unset, .unset] := ⟨_, rfl⟩
  refine Gl.st (B := (s₁.setTop (mkF m 0 L0 []))) (fun t k => castTop (efAt hL0 (ef_0 m p1 p2 p3 p4 q5 p6)) k) ?_
  refine Gl.st (B := (s₁.setTop (mkF m 4 L0 [(.int (p6 &&& (1 : Int32)))]))) (fun t k => XS.iload X0.here hx rfl (hb hby at_0) (ldAt hL0 rfl) (XS.iconst X0.here hx rfl (hb hby at_2) (XS.iand X0.here hx rfl (hb hby at_3) rfl k))) ?_
  obtain ⟨v12_s0_2, hv12_s0_2⟩ : ∃ z : Int32, z = (if (p6 &&& (1 : Int32)) = (0 : Int32) then (0 : Int32) else (1 : Int32)) := ⟨_, rfl⟩
  refine Gl.join (A := (s₁.setTop (mkF m 12 L0 [(.int v12_s0_2)]))) (fun J4_2 => ?_) ?_
  · by_cases hc4_1 : (p6 &&& (1 : Int32)) = (0 : Int32)
    · skip
      refine Gl.st (B := (s₁.setTop (mkF m 12 L0 [(.int (0 : Int32))]))) (fun t k => XS.ifYes X0.here hx rfl (pc0 := 4) (pc' := 11) rfl (hb hby at_4) rfl ((if0 _ _).trans (teq hc4_1).1) (by decide) (by decide) (XS.iconst X0.here hx rfl (hb hby at_11) k)) ?_
      have ev12_s0_2 : v12_s0_2 = (0 : Int32) := by rw [hv12_s0_2, if_pos hc4_1]
      rw [ev12_s0_2] at J4_2
      exact J4_2
    · skip
      refine Gl.st (B := (s₁.setTop (mkF m 12 L0 [(.int (1 : Int32))]))) (fun t k => XS.ifNo X0.here hx rfl (hb hby at_4) rfl ((if0 _ _).trans (feq hc4_1).1) (XS.iconst X0.here hx rfl (hb hby at_7) (XS.goto X0.here hx rfl (pc0 := 8) (pc' := 12) rfl (hb hby at_8) (by decide) (by decide) k))) ?_
      have ev12_s0_2 : v12_s0_2 = (1 : Int32) := by rw [hv12_s0_2, if_neg hc4_1]
      rw [ev12_s0_2] at J4_2
      exact J4_2
  obtain ⟨L3, hL3⟩ : ∃ z : Array Slot, z = #[.val (.int p1), .val (.int p2), .val (.int p3), .val (.int p4), .val (.long q5), .second, .val (.int p6), .val (.int v12_s0_2), .unset, .unset, .unset, .unset, .unset, .unset, .unset, .unset, .unset, .unset, .unset, .unset, .unset, .unset, .unset] := ⟨_, rfl⟩
  refine Gl.st (B := (s₁.setTop (mkF m 18 L3 [(.int (p6 &&& (2 : Int32)))]))) (fun t k => XS.istore X0.here hx rfl (hb hby at_12) rfl (l' := L3) (stAt hL0 hL3 rfl rfl) (XS.iload X0.here hx rfl (hb hby at_14) (ldAt hL3 rfl) (XS.iconst X0.here hx rfl (hb hby at_16) (XS.iand X0.here hx rfl (hb hby at_17) rfl k)))) ?_
  obtain ⟨v26_s0_5, hv26_s0_5⟩ : ∃ z : Int32, z = (if (p6 &&& (2 : Int32)) = (0 : Int32) then (0 : Int32) else (1 : Int32)) := ⟨_, rfl⟩
  refine Gl.join (A := (s₁.setTop (mkF m 26 L3 [(.int v26_s0_5)]))) (fun J18_5 => ?_) ?_
  · by_cases hc18_4 : (p6 &&& (2 : Int32)) = (0 : Int32)
    · skip
      refine Gl.st (B := (s₁.setTop (mkF m 26 L3 [(.int (0 : Int32))]))) (fun t k => XS.ifYes X0.here hx rfl (pc0 := 18) (pc' := 25) rfl (hb hby at_18) rfl ((if0 _ _).trans (teq hc18_4).1) (by decide) (by decide) (XS.iconst X0.here hx rfl (hb hby at_25) k)) ?_
      have ev26_s0_5 : v26_s0_5 = (0 : Int32) := by rw [hv26_s0_5, if_pos hc18_4]
      rw [ev26_s0_5] at J18_5
      exact J18_5
    · skip
      refine Gl.st (B := (s₁.setTop (mkF m 26 L3 [(.int (1 : Int32))]))) (fun t k => XS.ifNo X0.here hx rfl (hb hby at_18) rfl ((if0 _ _).trans (feq hc18_4).1) (XS.iconst X0.here hx rfl (hb hby at_21) (XS.goto X0.here hx rfl (pc0 := 22) (pc' := 26) rfl (hb hby at_22) (by decide) (by decide) k))) ?_
      have ev26_s0_5 : v26_s0_5 = (1 : Int32) := by rw [hv26_s0_5, if_neg hc18_4]
      rw [ev26_s0_5] at J18_5
      exact J18_5
  obtain ⟨L6, hL6⟩ : ∃ z : Array Slot, z = #[.val (.int p1), .val (.int p2), .val (.int p3), .val (.int p4), .val (.long q5), .second, .val (.int p6), .val (.int v12_s0_2), .val (.int v26_s0_5), .unset, .unset, .unset, .unset, .unset, .unset, .unset, .unset, .unset, .unset, .unset, .unset, .unset, .unset] := ⟨_, rfl⟩
  refine Gl.st (B := (s₁.setTop (mkF m 32 L6 [(.int (p6 &&& (4 : Int32)))]))) (fun t k => XS.istore X0.here hx rfl (hb hby at_26) rfl (l' := L6) (stAt hL3 hL6 rfl rfl) (XS.iload X0.here hx rfl (hb hby at_28) (ldAt hL6 rfl) (XS.iconst X0.here hx rfl (hb hby at_30) (XS.iand X0.here hx rfl (hb hby at_31) rfl k)))) ?_
  obtain ⟨v40_s0_8, hv40_s0_8⟩ : ∃ z : Int32, z = (if (p6 &&& (4 : Int32)) = (0 : Int32) then (0 : Int32) else (1 : Int32)) := ⟨_, rfl⟩
  refine Gl.join (A := (s₁.setTop (mkF m 40 L6 [(.int v40_s0_8)]))) (fun J32_8 => ?_) ?_
  · by_cases hc32_7 : (p6 &&& (4 : Int32)) = (0 : Int32)
    · skip
      refine Gl.st (B := (s₁.setTop (mkF m 40 L6 [(.int (0 : Int32))]))) (fun t k => XS.ifYes X0.here hx rfl (pc0 := 32) (pc' := 39) rfl (hb hby at_32) rfl ((if0 _ _).trans (teq hc32_7).1) (by decide) (by decide) (XS.iconst X0.here hx rfl (hb hby at_39) k)) ?_
      have ev40_s0_8 : v40_s0_8 = (0 : Int32) := by rw [hv40_s0_8, if_pos hc32_7]
      rw [ev40_s0_8] at J32_8
      exact J32_8
    · skip
      refine Gl.st (B := (s₁.setTop (mkF m 40 L6 [(.int (1 : Int32))]))) (fun t k => XS.ifNo X0.here hx rfl (hb hby at_32) rfl ((if0 _ _).trans (feq hc32_7).1) (XS.iconst X0.here hx rfl (hb hby at_35) (XS.goto X0.here hx rfl (pc0 := 36) (pc' := 40) rfl (hb hby at_36) (by decide) (by decide) k))) ?_
      have ev40_s0_8 : v40_s0_8 = (1 : Int32) := by rw [hv40_s0_8, if_neg hc32_7]
      rw [ev40_s0_8] at J32_8
      exact J32_8
  obtain ⟨L9, hL9⟩ : ∃ z : Array Slot, z = #[.val (.int p1), .val (.int p2), .val (.int p3), .val (.int p4), .val (.long q5), .second, .val (.int p6), .val (.int v12_s0_2), .val (.int v26_s0_5), .val (.int v40_s0_8), .unset, .unset, .unset, .unset, .unset, .unset, .unset, .unset, .unset, .unset, .unset, .unset, .unset] := ⟨_, rfl⟩
  refine Gl.st (B := (s₁.setTop (mkF m 48 L9 [(.int ((p3 &&& (255 : Int32)).toUInt32.toUInt16.toUInt32.toInt32))]))) (fun t k => XS.istore X0.here hx rfl (hb hby at_40) rfl (l' := L9) (stAt hL6 hL9 rfl rfl) (XS.iloadN X0.here hx rfl (hb hby at_42) (ldAt hL9 rfl) (XS.sipush X0.here hx rfl (hb hby at_43) (XS.iand X0.here hx rfl (hb hby at_46) rfl (XS.i2c X0.here hx rfl (hb hby at_47) rfl k))))) ?_
  obtain ⟨x48_10, hx48_10⟩ : ∃ z : Int32, z = ((p3 &&& (255 : Int32)).toUInt32.toUInt16.toUInt32.toInt32) := ⟨_, rfl⟩
  refine Gl.cast (B := (s₁.setTop (mkF m 48 L9 [(.int x48_10)]))) (by rw [hx48_10]) ?_
  have hp48_12 : ¬ ((255 : Int32) < x48_10) := own_0_hp48_12 p3 x48_10 hx48_10 
  obtain ⟨_, _, ⟨T11, L11q, k11, n11⟩, -, X11, ⟨Lc11, hQ11, l11, y11, z11⟩, st11⟩ := Jvm.LawKit.callS X0 hx (y := (⟨"java/lang/String", "valueOf", "(C)Ljava/lang/String;"⟩ : MethodName)) hown (mvT hZ (tw hw 0 rfl)) (mvT hZ (tw hw 1 rfl)) (mvT hZ (tw hw 2 rfl)) (mvT hZ (tw hw 3 rfl)) (by decide) (backOf (W := 0) (rm1 l Z a0 hw [] x48_10 z_COMP1 h0 n0 Z0 S_COMP1 hr48_hq3 hp48_12) hZ (tw hw 3 rfl) (tw hw 2 rfl) (by decide) (by decide)) (g := (mkF m 48 L9 [(.int x48_10)])) rfl (szAt hml hL9 rfl) (argsL := [(.int x48_10)]) (rest := []) (lenOf pd_0_0 rfl) rfl (by show 2 * 0 + _ ≤ _; exact Nat.le_of_eq rfl) (hb hby at_48) (fun _ _ => ⟨rfl, e0, (by decide : 0 + 2 ≤ _), (by decide : 0 + 5 ≤ _)⟩)
  dsimp only [Pt.U, Pt.locs, Pt.cells, Pt.slots] at X11 l11 y11 z11 st11 hQ11
  subst l11 y11 z11
  obtain ⟨b11_t0, b11_t1, k11_kx_t1, rfl, N11q, Kc11, fq11_0, fq11_1, fq11_2, fq11_3, fq11_4, fq11_5, fq11_6⟩ := hQ11
  have g_b11_t0 : n0 ≤ b11_t0 := Nat.le_trans Z0 fq11_0
  have lt_b11_t0 := fq11_2.lt
  have g_b11_t1 : n0 ≤ b11_t1 := Nat.le_trans Z0 fq11_1
  have lt_b11_t1 := fq11_5.lt
  have Zc13 : n0 ≤ T11.heap.size := Nat.le_trans Z0 Kc11.1
  obtain ⟨f48_14, hf48_14⟩ : ∃ z : Int32, z = ((nar .byte (0 : Int32))) := ⟨_, rfl⟩
  rw [← hf48_14] at fq11_3
  have N11 := Fr.app N0 N11q
  refine Gl.st (B := (T11.setTop (mkF m 51 L9 [(.ref b11_t0)]))) (fun t k => st11 t k) ?_
  obtain ⟨L15, hL15⟩ : ∃ z : Array Slot, z = #[.val (.int p1), .val (.int p2), .val (.int p3), .val (.int p4), .val (.long q5), .second, .val (.int p6), .val (.int v12_s0_2), .val (.int v26_s0_5), .val (.int v40_s0_8), .val (.ref b11_t0), .unset, .unset, .unset, .unset, .unset, .unset, .unset, .unset, .unset, .unset, .unset, .unset] := ⟨_, rfl⟩
  refine Gl.st (B := (T11.setTop (mkF m 61 L15 [(.int (((p3.toUInt32 >>> ((8 : Int32) &&& 31).toUInt32).toInt32) &&& (255 : Int32)))]))) (fun t k => XS.astore X11.here hx rfl (hb hby at_51) rfl rfl (l' := L15) (stAt hL9 hL15 rfl rfl) (XS.iloadN X11.here hx rfl (hb hby at_53) (ldAt hL15 rfl) (XS.bipush X11.here hx rfl (hb hby at_54) (XS.iushr X11.here hx rfl (hb hby at_56) rfl (XS.sipush X11.here hx rfl (hb hby at_57) (XS.iand X11.here hx rfl (hb hby at_60) rfl k)))))) ?_
  refine Gl.st (B := (T11.setTop (mkF m 62 L15 [(.int ((((p3.toUInt32 >>> ((8 : Int32) &&& 31).toUInt32).toInt32) &&& (255 : Int32)).toUInt32.toUInt16.toUInt32.toInt32))]))) (fun t k => XS.i2c X11.here hx rfl (hb hby at_61) rfl k) ?_
  obtain ⟨x62_16, hx62_16⟩ : ∃ z : Int32, z = ((((p3.toUInt32 >>> ((8 : Int32) &&& 31).toUInt32).toInt32) &&& (255 : Int32)).toUInt32.toUInt16.toUInt32.toInt32) := ⟨_, rfl⟩
  refine Gl.cast (B := (T11.setTop (mkF m 62 L15 [(.int x62_16)]))) (by rw [hx62_16]) ?_
  have c18 := (own_sta_keep S_COMP1 Kc11 all0)
  have hp62_19 : ¬ ((255 : Int32) < x62_16) := own_0_hp62_19 p3 x62_16 hx62_16 
  obtain ⟨_, _, ⟨T17, L17q, k17, n17⟩, -, X17, ⟨Lc17, hQ17, l17, y17, z17⟩, st17⟩ := Jvm.LawKit.callS X11 hx (y := (⟨"java/lang/String", "valueOf", "(C)Ljava/lang/String;"⟩ : MethodName)) hown (mvT hZ (tw hw 0 rfl)) (mvT hZ (tw hw 1 rfl)) (mvT hZ (tw hw 2 rfl)) (mvT hZ (tw hw 3 rfl)) (by decide) (backOf (W := 0) (rm1 l Z a0 hw [] x62_16 z_COMP1 T11.heap n0 Zc13 c18 hr62_hq3 hp62_19) hZ (tw hw 3 rfl) (tw hw 2 rfl) (by decide) (by decide)) (g := (mkF m 62 L15 [(.int x62_16)])) rfl (szAt hml hL15 rfl) (argsL := [(.int x62_16)]) (rest := []) (lenOf pd_0_0 rfl) rfl (by show 2 * 0 + _ ≤ _; exact Nat.le_of_eq rfl) (hb hby at_62) (fun _ _ => ⟨rfl, rfl, (by decide : 2 + 2 ≤ _), (by decide : 5 + 5 ≤ _)⟩)
  dsimp only [Pt.U, Pt.locs, Pt.cells, Pt.slots] at X17 l17 y17 z17 st17 hQ17
  subst l17 y17 z17
  obtain ⟨b17_t0, b17_t1, k17_kx_t1, rfl, N17q, Kc17, fq17_0, fq17_1, fq17_2, fq17_3, fq17_4, fq17_5, fq17_6⟩ := hQ17
  have g_b17_t0 : n0 ≤ b17_t0 := Nat.le_trans Zc13 fq17_0
  have lt_b17_t0 := fq17_2.lt
  have g_b17_t1 : n0 ≤ b17_t1 := Nat.le_trans Zc13 fq17_1
  have lt_b17_t1 := fq17_5.lt
  have Zc20 : n0 ≤ T17.heap.size := Nat.le_trans Zc13 Kc17.1
  obtain ⟨f62_21, hf62_21⟩ : ∃ z : Int32, z = ((nar .byte (0 : Int32))) := ⟨_, rfl⟩
  rw [← hf62_21] at fq17_3
  have N17 := Fr.app N11 N17q
  refine Gl.st (B := (T17.setTop (mkF m 65 L15 [(.ref b17_t0)]))) (fun t k => st17 t k) ?_
  obtain ⟨L22, hL22⟩ : ∃ z : Array Slot, z = #[.val (.int p1), .val (.int p2), .val (.int p3), .val (.int p4), .val (.long q5), .second, .val (.int p6), .val (.int v12_s0_2), .val (.int v26_s0_5), .val (.int v40_s0_8), .val (.ref b11_t0), .val (.ref b17_t0), .unset, .unset, .unset, .unset, .unset, .unset, .unset, .unset, .unset, .unset, .unset] := ⟨_, rfl⟩
  refine Gl.st (B := (T17.setTop (mkF m 67 L22 []))) (fun t k => XS.astore X17.here hx rfl (hb hby at_65) rfl rfl (l' := L22) (stAt hL15 hL22 rfl rfl) k) ?_
  have hs23 : v40_s0_8 = (0 : Int32) ∨ v40_s0_8 = (1 : Int32) := by
    rw [hv40_s0_8]; split <;> simp
  rcases hs23 with hk | hk
  · skip
    subst hk
    have hs24 : v12_s0_2 = (0 : Int32) ∨ v12_s0_2 = (1 : Int32) := by
      rw [hv12_s0_2]; split <;> simp
    rcases hs24 with hk | hk
    · skip
      subst hk
      refine Gl.st (B := (T17.setTop (mkF m 83 L22 [(.int (255 : Int32)), (.int ((p3.toUInt32 >>> ((16 : Int32) &&& 31).toUInt32).toInt32))]))) (fun t k => XS.iload X17.here hx rfl (hb hby at_67) (ldAt hL22 rfl) (XS.ifYes X17.here hx rfl (pc0 := 69) (pc' := 76) rfl (hb hby at_69) rfl (by decide) (by decide) (by decide) (XS.iloadN X17.here hx rfl (hb hby at_76) (ldAt hL22 rfl) (XS.bipush X17.here hx rfl (hb hby at_77) (XS.iushr X17.here hx rfl (hb hby at_79) rfl (XS.sipush X17.here hx rfl (hb hby at_80) k)))))) ?_
      refine Gl.st (B := (T17.setTop (mkF m 85 L22 [(.int ((((p3.toUInt32 >>> ((16 : Int32) &&& 31).toUInt32).toInt32) &&& (255 : Int32)).toUInt32.toUInt16.toUInt32.toInt32))]))) (fun t k => XS.iand X17.here hx rfl (hb hby at_83) rfl (XS.i2c X17.here hx rfl (hb hby at_84) rfl k)) ?_
      obtain ⟨x85_25, hx85_25⟩ : ∃ z : Int32, z = ((((p3.toUInt32 >>> ((16 : Int32) &&& 31).toUInt32).toInt32) &&& (255 : Int32)).toUInt32.toUInt16.toUInt32.toInt32) := ⟨_, rfl⟩
      refine Gl.cast (B := (T17.setTop (mkF m 85 L22 [(.int x85_25)]))) (by rw [hx85_25]) ?_
      have c27 := (own_sta_keep c18 Kc17 all0)
      have hp85_28 : ¬ ((255 : Int32) < x85_25) := own_0_hp85_28 p3 x85_25 hx85_25 
      obtain ⟨_, _, ⟨T26, L26q, k26, n26⟩, -, X26, ⟨Lc26, hQ26, l26, y26, z26⟩, st26⟩ := Jvm.LawKit.callS X17 hx (y := (⟨"java/lang/String", "valueOf", "(C)Ljava/lang/String;"⟩ : MethodName)) hown (mvT hZ (tw hw 0 rfl)) (mvT hZ (tw hw 1 rfl)) (mvT hZ (tw hw 2 rfl)) (mvT hZ (tw hw 3 rfl)) (by decide) (backOf (W := 0) (rm1 l Z a0 hw [] x85_25 z_COMP1 T17.heap n0 Zc20 c27 hr85_hq3 hp85_28) hZ (tw hw 3 rfl) (tw hw 2 rfl) (by decide) (by decide)) (g := (mkF m 85 L22 [(.int x85_25)])) rfl (szAt hml hL22 rfl) (argsL := [(.int x85_25)]) (rest := []) (lenOf pd_0_0 rfl) rfl (by show 2 * 0 + _ ≤ _; exact Nat.le_of_eq rfl) (hb hby at_85) (fun _ _ => ⟨rfl, rfl, (by decide : 4 + 2 ≤ _), (by decide : 10 + 5 ≤ _)⟩)
      dsimp only [Pt.U, Pt.locs, Pt.cells, Pt.slots] at X26 l26 y26 z26 st26 hQ26
      subst l26 y26 z26
      obtain ⟨b26_t0, b26_t1, k26_kx_t1, rfl, N26q, Kc26, fq26_0, fq26_1, fq26_2, fq26_3, fq26_4, fq26_5, fq26_6⟩ := hQ26
      have g_b26_t0 : n0 ≤ b26_t0 := Nat.le_trans Zc20 fq26_0
      have lt_b26_t0 := fq26_2.lt
      have g_b26_t1 : n0 ≤ b26_t1 := Nat.le_trans Zc20 fq26_1
      have lt_b26_t1 := fq26_5.lt
      have Zc29 : n0 ≤ T26.heap.size := Nat.le_trans Zc20 Kc26.1
      obtain ⟨f85_30, hf85_30⟩ : ∃ z : Int32, z = ((nar .byte (0 : Int32))) := ⟨_, rfl⟩
      rw [← hf85_30] at fq26_3
      have N26 := Fr.app N17 N26q
      refine Gl.st (B := (T26.setTop (mkF m 88 L22 [(.ref b26_t0)]))) (fun t k => st26 t k) ?_
      obtain ⟨L31, hL31⟩ : ∃ z : Array Slot, z = #[.val (.int p1), .val (.int p2), .val (.int p3), .val (.int p4), .val (.long q5), .second, .val (.int p6), .val (.int (0 : Int32)), .val (.int v26_s0_5), .val (.int (0 : Int32)), .val (.ref b11_t0), .val (.ref b17_t0), .val (.ref b26_t0), .unset, .unset, .unset, .unset, .unset, .unset, .unset, .unset, .unset, .unset] := ⟨_, rfl⟩
      refine Gl.st (B := (T26.setTop (mkF m 92 L31 [(.int (p4.toInt8.toInt32))]))) (fun t k => XS.astore X26.here hx rfl (hb hby at_88) rfl rfl (l' := L31) (stAt hL22 hL31 rfl rfl) (XS.iloadN X26.here hx rfl (hb hby at_90) (ldAt hL31 rfl) (XS.i2b X26.here hx rfl (hb hby at_91) rfl k))) ?_
      obtain ⟨y13_92_32, hy13_92_32⟩ : ∃ z : Int32, z = (p4.toInt8.toInt32) := ⟨_, rfl⟩
      refine Gl.cast (B := (T26.setTop (mkF m 92 L31 [(.int y13_92_32)]))) (by rw [hy13_92_32]) ?_
      obtain ⟨L33, hL33⟩ : ∃ z : Array Slot, z = #[.val (.int p1), .val (.int p2), .val (.int p3), .val (.int p4), .val (.long q5), .second, .val (.int p6), .val (.int (0 : Int32)), .val (.int v26_s0_5), .val (.int (0 : Int32)), .val (.ref b11_t0), .val (.ref b17_t0), .val (.ref b26_t0), .val (.int y13_92_32), .unset, .unset, .unset, .unset, .unset, .unset, .unset, .unset, .unset] := ⟨_, rfl⟩
      refine Gl.st (B := (T26.setTop (mkF m 99 L33 [(.int (((p4.toUInt32 >>> ((8 : Int32) &&& 31).toUInt32).toInt32).toInt8.toInt32))]))) (fun t k => XS.istore X26.here hx rfl (hb hby at_92) rfl (l' := L33) (stAt hL31 hL33 rfl rfl) (XS.iloadN X26.here hx rfl (hb hby at_94) (ldAt hL33 rfl) (XS.bipush X26.here hx rfl (hb hby at_95) (XS.iushr X26.here hx rfl (hb hby at_97) rfl (XS.i2b X26.here hx rfl (hb hby at_98) rfl k))))) ?_
      obtain ⟨y14_99_34, hy14_99_34⟩ : ∃ z : Int32, z = (((p4.toUInt32 >>> ((8 : Int32) &&& 31).toUInt32).toInt32).toInt8.toInt32) := ⟨_, rfl⟩
      refine Gl.cast (B := (T26.setTop (mkF m 99 L33 [(.int y14_99_34)]))) (by rw [hy14_99_34]) ?_
      obtain ⟨L35, hL35⟩ : ∃ z : Array Slot, z = #[.val (.int p1), .val (.int p2), .val (.int p3), .val (.int p4), .val (.long q5), .second, .val (.int p6), .val (.int (0 : Int32)), .val (.int v26_s0_5), .val (.int (0 : Int32)), .val (.ref b11_t0), .val (.ref b17_t0), .val (.ref b26_t0), .val (.int y13_92_32), .val (.int y14_99_34), .unset, .unset, .unset, .unset, .unset, .unset, .unset, .unset] := ⟨_, rfl⟩
      refine Gl.st (B := (T26.setTop (mkF m 101 L35 []))) (fun t k => XS.istore X26.here hx rfl (hb hby at_99) rfl (l' := L35) (stAt hL33 hL35 rfl rfl) k) ?_
      have hs36 : v26_s0_5 = (0 : Int32) ∨ v26_s0_5 = (1 : Int32) := by
        rw [hv26_s0_5]; split <;> simp
      rcases hs36 with hk | hk
      · skip
        subst hk
        refine Gl.st (B := (T26.setTop (mkF m 113 L35 [(.int (2 : Int32))]))) (fun t k => XS.iload X26.here hx rfl (hb hby at_101) (ldAt hL35 rfl) (XS.ifYes X26.here hx rfl (pc0 := 103) (pc' := 112) rfl (hb hby at_103) rfl (by decide) (by decide) (by decide) (XS.iconst X26.here hx rfl (hb hby at_112) k))) ?_
        obtain ⟨T37, h37, k37, X37, e37, E37, A37, Ex37, st37⟩ := newPE X26 hx hZ (tw hw 14 rfl) rfl (g := (mkF m 113 L35 [(.int (2 : Int32))])) rfl (hb hby at_113) rfl (by decide) (cap := 2) (by decide) (by decide) (by decide) (by decide) (ad := "[B") rfl
        obtain ⟨b37, gq37⟩ : ∃ z, z = T26.heap.size := ⟨_, rfl⟩
        rw [← gq37] at A37 Ex37 st37
        have V37 : Arv Z h37 b37 k37 .byte (2 : Int32) [(.int (0 : Int32)), (.int (0 : Int32))] (.int (0 : Int32)) := (Arv.new A37 (by decide)).pad (pad_rep [] (.int (0 : Int32)) 2)
        have g_b37 : n0 ≤ b37 := Nat.le_trans Zc29 (Nat.le_of_eq gq37.symm)
        have lt_b37 := V37.lt
        have Zc38 : n0 ≤ h37.size := Nat.le_trans Zc29 E37.1
        refine Gl.st (B := (T37.setTop (mkF m 115 L35 [(.ref b37)]))) st37 ?_
        refine Gl.st (B := (T37.setTop (mkF m 119 L35 [(.int y13_92_32), (.int (0 : Int32)), (.ref b37), (.ref b37)]))) (fun t k => XS.dup X37.here hx rfl (hb hby at_115) rfl rfl (XS.iconst X37.here hx rfl (hb hby at_116) (XS.iload X37.here hx rfl (hb hby at_117) (ldAt hL35 rfl) k))) ?_
        obtain ⟨cl39, Ar39, q39, S39, P39, H39, G39⟩ := (id V37)
        have hin119_39 : ¬ ((0 : Int32) < 0 ∨ cl39.slots.size ≤ ((0 : Int32)).toNatClampNeg) := inb_of S39 ⟨by decide, by decide⟩
        obtain ⟨T39, h39, X39, e39, W39, st39⟩ := stB X37 hx hZ e37 Ar39 (j := (0 : Int32)) hin119_39 (g := (mkF m 119 L35 [(.int y13_92_32), (.int (0 : Int32)), (.ref b37), (.ref b37)])) rfl rfl (hb hby at_119)
        have V39 : Arv Z h39 b37 k37 .byte (2 : Int32) [(.int (nar .byte y13_92_32)), (.int (0 : Int32))] (.int (0 : Int32)) := Arv.set Ar39 q39 S39 P39 H39 G39 (fits_nar_byte _) W39 0 rfl (Nat.le_of_ble_eq_true rfl)
        have Zc40 : n0 ≤ h39.size := Nat.le_trans Zc38 (Nat.le_of_eq W39.size.symm)
        have N39 := Fr.snoc X39 N26 g_b37
        refine Gl.st (B := (T39.setTop (mkF m 120 L35 [(.ref b37)]))) st39 ?_
        refine Gl.st (B := (T39.setTop (mkF m 124 L35 [(.int y14_99_34), (.int (1 : Int32)), (.ref b37), (.ref b37)]))) (fun t k => XS.dup X39.here hx rfl (hb hby at_120) rfl rfl (XS.iconst X39.here hx rfl (hb hby at_121) (XS.iload X39.here hx rfl (hb hby at_122) (ldAt hL35 rfl) k))) ?_
        obtain ⟨cl41, Ar41, q41, S41, P41, H41, G41⟩ := (id V39)
        have hin124_41 : ¬ ((1 : Int32) < 0 ∨ cl41.slots.size ≤ ((1 : Int32)).toNatClampNeg) := inb_of S41 ⟨by decide, by decide⟩
        obtain ⟨T41, h41, X41, e41, W41, st41⟩ := stB X39 hx hZ e39 Ar41 (j := (1 : Int32)) hin124_41 (g := (mkF m 124 L35 [(.int y14_99_34), (.int (1 : Int32)), (.ref b37), (.ref b37)])) rfl rfl (hb hby at_124)
        have V41 : Arv Z h41 b37 k37 .byte (2 : Int32) [(.int (nar .byte y13_92_32)), (.int (nar .byte y14_99_34))] (.int (0 : Int32)) := Arv.set Ar41 q41 S41 P41 H41 G41 (fits_nar_byte _) W41 1 rfl (Nat.le_of_ble_eq_true rfl)
        have Zc42 : n0 ≤ h41.size := Nat.le_trans Zc40 (Nat.le_of_eq W41.size.symm)
        have N41 := Fr.snoc X41 N39 g_b37
        refine Gl.st (B := (T41.setTop (mkF m 125 L35 [(.ref b37)]))) st41 ?_
        have c43 := ((((own_sta_keep c27 Kc26 all0).ext E37).wr W39).wr W41)
        have c44 := ((((own_sta_keep (own_sta_keep (own_sta_keep S_DEFA0 Kc11 all0) Kc17 all0) Kc26 all0).ext E37).wr W39).wr W41)
        have ne_z_DEFA0_b37_45 : z_DEFA0 ≠ b37 := Nat.ne_of_lt (Nat.lt_of_lt_of_le V_z_DEFA0.lt (Nat.le_trans Kc11.1 (Nat.le_trans Kc17.1 (Nat.le_trans Kc26.1 (Nat.le_of_eq gq37.symm)))))
        have c46 := ((((((V_z_DEFA0.keep Kc11 nin0).keep Kc17 nin0).keep Kc26 nin0).ext E37).other W39 ne_z_DEFA0_b37_45).other W41 ne_z_DEFA0_b37_45)
        have hu125_47 : ((0 : Int32) = (1 : Int32) ∧ (2 : Int32) = (0 : Int32) ∧ ([(.int (nar .byte y13_92_32)), (.int (nar .byte y14_99_34))] : List Value) = []) ∨ ((0 : Int32) = (0 : Int32) ∧ (2 : Int32) = (2 : Int32) ∧ ([(.int (nar .byte y13_92_32)), (.int (nar .byte y14_99_34))] : List Value) = [(.int y13_92_32), (.int y14_99_34)]) := by
          exact Or.inr ⟨rfl, rfl, by rw [own_nbyte _ _ hy13_92_32, own_nbyte _ _ hy14_99_34]⟩
        have hu125_48 : ((0 : Int32) = (1 : Int32) ∧ (2 : Int32) = (0 : Int32) ∧ ([(.int (nar .byte y13_92_32)), (.int (nar .byte y14_99_34))] : List Value) = []) ∨ ((0 : Int32) = (0 : Int32) ∧ (2 : Int32) = (2 : Int32) ∧ ([(.int (nar .byte y13_92_32)), (.int (nar .byte y14_99_34))] : List Value) = [(.int y13_92_32), (.int y14_99_34)]) := by
          exact Or.inr ⟨rfl, rfl, by rw [own_nbyte _ _ hy13_92_32, own_nbyte _ _ hy14_99_34]⟩
        refine Gl.cast (B := (T41.setTop (mkF m 125 #[.val (.int p1), .val (.int p2), .val (.int p3), .val (.int p4), .val (.long q5), .second, .val (.int p6), .val (.int (0 : Int32)), .val (.int (0 : Int32)), .val (.int (0 : Int32)), .val (.ref b11_t0), .val (.ref b17_t0), .val (.ref b26_t0), .val (.int y13_92_32), .val (.int y14_99_34), .unset, .unset, .unset, .unset, .unset, .unset, .unset, .unset] [(.ref b37)]))) (by rw [hL35]) ?_
        exact sg_125_1 l Z a0 hw hx hby hml Bd.returns (BodyLoose.notSynchronized Bd) hZ hown n0 p1 p2 p3 p4 q5 p6 (0 : Int32) (.val (.int (0 : Int32))) b11_t0 b17_t0 b26_t0 y13_92_32 y14_99_34 b37 (2 : Int32) ([(.int (nar .byte y13_92_32)), (.int (nar .byte y14_99_34))] : List Value) z_COMP1 z_DEFA0 kx_z_DEFA0 k37 h41 (X41.more (by decide) (by decide)) e41 N41 Zc42 c43 hr140_hq3 c44 c46 V41 hu125_47 hu125_48
      · skip
        subst hk
        refine Gl.st (B := (T26.setTop (mkF m 107 L35 [(.int (0 : Int32))]))) (fun t k => XS.iload X26.here hx rfl (hb hby at_101) (ldAt hL35 rfl) (XS.ifNo X26.here hx rfl (hb hby at_103) rfl (by decide) (XS.iconst X26.here hx rfl (hb hby at_106) k))) ?_
        obtain ⟨T49, h49, k49, X49, e49, E49, A49, Ex49, st49⟩ := newPE X26 hx hZ (tw hw 14 rfl) rfl (g := (mkF m 107 L35 [(.int (0 : Int32))])) rfl (hb hby at_107) rfl (by decide) (cap := 0) (by decide) (by decide) (by decide) (by decide) (ad := "[B") rfl
        obtain ⟨b49, gq49⟩ : ∃ z, z = T26.heap.size := ⟨_, rfl⟩
        rw [← gq49] at A49 Ex49 st49
        have V49 : Arv Z h49 b49 k49 .byte (0 : Int32) [] (.int (0 : Int32)) := Arv.new A49 (by decide)
        have g_b49 : n0 ≤ b49 := Nat.le_trans Zc29 (Nat.le_of_eq gq49.symm)
        have lt_b49 := V49.lt
        have Zc50 : n0 ≤ h49.size := Nat.le_trans Zc29 E49.1
        refine Gl.st (B := (T49.setTop (mkF m 109 L35 [(.ref b49)]))) st49 ?_
        refine Gl.st (B := (T49.setTop (mkF m 125 L35 [(.ref b49)]))) (fun t k => XS.goto X49.here hx rfl (pc0 := 109) (pc' := 125) rfl (hb hby at_109) (by decide) (by decide) k) ?_
        have c51 := ((own_sta_keep c27 Kc26 all0).ext E49)
        have c52 := ((own_sta_keep (own_sta_keep (own_sta_keep S_DEFA0 Kc11 all0) Kc17 all0) Kc26 all0).ext E49)
        have c53 := ((((V_z_DEFA0.keep Kc11 nin0).keep Kc17 nin0).keep Kc26 nin0).ext E49)
        have hu125_54 : ((1 : Int32) = (1 : Int32) ∧ (0 : Int32) = (0 : Int32) ∧ ([] : List Value) = []) ∨ ((1 : Int32) = (0 : Int32) ∧ (0 : Int32) = (2 : Int32) ∧ ([] : List Value) = [(.int y13_92_32), (.int y14_99_34)]) := by
          exact Or.inl ⟨rfl, rfl, rfl⟩
        have hu125_55 : ((1 : Int32) = (1 : Int32) ∧ (0 : Int32) = (0 : Int32) ∧ ([] : List Value) = []) ∨ ((1 : Int32) = (0 : Int32) ∧ (0 : Int32) = (2 : Int32) ∧ ([] : List Value) = [(.int y13_92_32), (.int y14_99_34)]) := by
          exact Or.inl ⟨rfl, rfl, rfl⟩
        refine Gl.cast (B := (T49.setTop (mkF m 125 #[.val (.int p1), .val (.int p2), .val (.int p3), .val (.int p4), .val (.long q5), .second, .val (.int p6), .val (.int (0 : Int32)), .val (.int (1 : Int32)), .val (.int (0 : Int32)), .val (.ref b11_t0), .val (.ref b17_t0), .val (.ref b26_t0), .val (.int y13_92_32), .val (.int y14_99_34), .unset, .unset, .unset, .unset, .unset, .unset, .unset, .unset] [(.ref b49)]))) (by rw [hL35]) ?_
        exact sg_125_1 l Z a0 hw hx hby hml Bd.returns (BodyLoose.notSynchronized Bd) hZ hown n0 p1 p2 p3 p4 q5 p6 (1 : Int32) (.val (.int (0 : Int32))) b11_t0 b17_t0 b26_t0 y13_92_32 y14_99_34 b49 (0 : Int32) ([] : List Value) z_COMP1 z_DEFA0 kx_z_DEFA0 k49 h49 (X49.more (by decide) (by decide)) e49 N26 Zc50 c51 hr140_hq3 c52 c53 V49 hu125_54 hu125_55
    · skip
      subst hk
      refine Gl.st (B := (T17.setTop (mkF m 83 L22 [(.int (255 : Int32)), (.int ((p3.toUInt32 >>> ((16 : Int32) &&& 31).toUInt32).toInt32))]))) (fun t k => XS.iload X17.here hx rfl (hb hby at_67) (ldAt hL22 rfl) (XS.ifYes X17.here hx rfl (pc0 := 69) (pc' := 76) rfl (hb hby at_69) rfl (by decide) (by decide) (by decide) (XS.iloadN X17.here hx rfl (hb hby at_76) (ldAt hL22 rfl) (XS.bipush X17.here hx rfl (hb hby at_77) (XS.iushr X17.here hx rfl (hb hby at_79) rfl (XS.sipush X17.here hx rfl (hb hby at_80) k)))))) ?_
      refine Gl.st (B := (T17.setTop (mkF m 85 L22 [(.int ((((p3.toUInt32 >>> ((16 : Int32) &&& 31).toUInt32).toInt32) &&& (255 : Int32)).toUInt32.toUInt16.toUInt32.toInt32))]))) (fun t k => XS.iand X17.here hx rfl (hb hby at_83) rfl (XS.i2c X17.here hx rfl (hb hby at_84) rfl k)) ?_
      obtain ⟨x85_56, hx85_56⟩ : ∃ z : Int32, z = ((((p3.toUInt32 >>> ((16 : Int32) &&& 31).toUInt32).toInt32) &&& (255 : Int32)).toUInt32.toUInt16.toUInt32.toInt32) := ⟨_, rfl⟩
      refine Gl.cast (B := (T17.setTop (mkF m 85 L22 [(.int x85_56)]))) (by rw [hx85_56]) ?_
      have c58 := (own_sta_keep c18 Kc17 all0)
      have hp85_59 : ¬ ((255 : Int32) < x85_56) := own_0_hp85_59 p3 x85_56 hx85_56 
      obtain ⟨_, _, ⟨T57, L57q, k57, n57⟩, -, X57, ⟨Lc57, hQ57, l57, y57, z57⟩, st57⟩ := Jvm.LawKit.callS X17 hx (y := (⟨"java/lang/String", "valueOf", "(C)Ljava/lang/String;"⟩ : MethodName)) hown (mvT hZ (tw hw 0 rfl)) (mvT hZ (tw hw 1 rfl)) (mvT hZ (tw hw 2 rfl)) (mvT hZ (tw hw 3 rfl)) (by decide) (backOf (W := 0) (rm1 l Z a0 hw [] x85_56 z_COMP1 T17.heap n0 Zc20 c58 hr85_hq3 hp85_59) hZ (tw hw 3 rfl) (tw hw 2 rfl) (by decide) (by decide)) (g := (mkF m 85 L22 [(.int x85_56)])) rfl (szAt hml hL22 rfl) (argsL := [(.int x85_56)]) (rest := []) (lenOf pd_0_0 rfl) rfl (by show 2 * 0 + _ ≤ _; exact Nat.le_of_eq rfl) (hb hby at_85) (fun _ _ => ⟨rfl, rfl, (by decide : 4 + 2 ≤ _), (by decide : 10 + 5 ≤ _)⟩)
      dsimp only [Pt.U, Pt.locs, Pt.cells, Pt.slots] at X57 l57 y57 z57 st57 hQ57
      subst l57 y57 z57
      obtain ⟨b57_t0, b57_t1, k57_kx_t1, rfl, N57q, Kc57, fq57_0, fq57_1, fq57_2, fq57_3, fq57_4, fq57_5, fq57_6⟩ := hQ57
      have g_b57_t0 : n0 ≤ b57_t0 := Nat.le_trans Zc20 fq57_0
      have lt_b57_t0 := fq57_2.lt
      have g_b57_t1 : n0 ≤ b57_t1 := Nat.le_trans Zc20 fq57_1
      have lt_b57_t1 := fq57_5.lt
      have Zc60 : n0 ≤ T57.heap.size := Nat.le_trans Zc20 Kc57.1
      obtain ⟨f85_61, hf85_61⟩ : ∃ z : Int32, z = ((nar .byte (0 : Int32))) := ⟨_, rfl⟩
      rw [← hf85_61] at fq57_3
      have N57 := Fr.app N17 N57q
      refine Gl.st (B := (T57.setTop (mkF m 88 L22 [(.ref b57_t0)]))) (fun t k => st57 t k) ?_
      obtain ⟨L62, hL62⟩ : ∃ z : Array Slot, z = #[.val (.int p1), .val (.int p2), .val (.int p3), .val (.int p4), .val (.long q5), .second, .val (.int p6), .val (.int (1 : Int32)), .val (.int v26_s0_5), .val (.int (0 : Int32)), .val (.ref b11_t0), .val (.ref b17_t0), .val (.ref b57_t0), .unset, .unset, .unset, .unset, .unset, .unset, .unset, .unset, .unset, .unset] := ⟨_, rfl⟩
      refine Gl.st (B := (T57.setTop (mkF m 92 L62 [(.int (p4.toInt8.toInt32))]))) (fun t k => XS.astore X57.here hx rfl (hb hby at_88) rfl rfl (l' := L62) (stAt hL22 hL62 rfl rfl) (XS.iloadN X57.here hx rfl (hb hby at_90) (ldAt hL62 rfl) (XS.i2b X57.here hx rfl (hb hby at_91) rfl k))) ?_
      obtain ⟨y13_92_63, hy13_92_63⟩ : ∃ z : Int32, z = (p4.toInt8.toInt32) := ⟨_, rfl⟩
      refine Gl.cast (B := (T57.setTop (mkF m 92 L62 [(.int y13_92_63)]))) (by rw [hy13_92_63]) ?_
      obtain ⟨L64, hL64⟩ : ∃ z : Array Slot, z = #[.val (.int p1), .val (.int p2), .val (.int p3), .val (.int p4), .val (.long q5), .second, .val (.int p6), .val (.int (1 : Int32)), .val (.int v26_s0_5), .val (.int (0 : Int32)), .val (.ref b11_t0), .val (.ref b17_t0), .val (.ref b57_t0), .val (.int y13_92_63), .unset, .unset, .unset, .unset, .unset, .unset, .unset, .unset, .unset] := ⟨_, rfl⟩
      refine Gl.st (B := (T57.setTop (mkF m 99 L64 [(.int (((p4.toUInt32 >>> ((8 : Int32) &&& 31).toUInt32).toInt32).toInt8.toInt32))]))) (fun t k => XS.istore X57.here hx rfl (hb hby at_92) rfl (l' := L64) (stAt hL62 hL64 rfl rfl) (XS.iloadN X57.here hx rfl (hb hby at_94) (ldAt hL64 rfl) (XS.bipush X57.here hx rfl (hb hby at_95) (XS.iushr X57.here hx rfl (hb hby at_97) rfl (XS.i2b X57.here hx rfl (hb hby at_98) rfl k))))) ?_
      obtain ⟨y14_99_65, hy14_99_65⟩ : ∃ z : Int32, z = (((p4.toUInt32 >>> ((8 : Int32) &&& 31).toUInt32).toInt32).toInt8.toInt32) := ⟨_, rfl⟩
      refine Gl.cast (B := (T57.setTop (mkF m 99 L64 [(.int y14_99_65)]))) (by rw [hy14_99_65]) ?_
      obtain ⟨L66, hL66⟩ : ∃ z : Array Slot, z = #[.val (.int p1), .val (.int p2), .val (.int p3), .val (.int p4), .val (.long q5), .second, .val (.int p6), .val (.int (1 : Int32)), .val (.int v26_s0_5), .val (.int (0 : Int32)), .val (.ref b11_t0), .val (.ref b17_t0), .val (.ref b57_t0), .val (.int y13_92_63), .val (.int y14_99_65), .unset, .unset, .unset, .unset, .unset, .unset, .unset, .unset] := ⟨_, rfl⟩
      refine Gl.st (B := (T57.setTop (mkF m 101 L66 []))) (fun t k => XS.istore X57.here hx rfl (hb hby at_99) rfl (l' := L66) (stAt hL64 hL66 rfl rfl) k) ?_
      have hs67 : v26_s0_5 = (0 : Int32) ∨ v26_s0_5 = (1 : Int32) := by
        rw [hv26_s0_5]; split <;> simp
      rcases hs67 with hk | hk
      · skip
        subst hk
        refine Gl.st (B := (T57.setTop (mkF m 113 L66 [(.int (2 : Int32))]))) (fun t k => XS.iload X57.here hx rfl (hb hby at_101) (ldAt hL66 rfl) (XS.ifYes X57.here hx rfl (pc0 := 103) (pc' := 112) rfl (hb hby at_103) rfl (by decide) (by decide) (by decide) (XS.iconst X57.here hx rfl (hb hby at_112) k))) ?_
        obtain ⟨T68, h68, k68, X68, e68, E68, A68, Ex68, st68⟩ := newPE X57 hx hZ (tw hw 14 rfl) rfl (g := (mkF m 113 L66 [(.int (2 : Int32))])) rfl (hb hby at_113) rfl (by decide) (cap := 2) (by decide) (by decide) (by decide) (by decide) (ad := "[B") rfl
        obtain ⟨b68, gq68⟩ : ∃ z, z = T57.heap.size := ⟨_, rfl⟩
        rw [← gq68] at A68 Ex68 st68
        have V68 : Arv Z h68 b68 k68 .byte (2 : Int32) [(.int (0 : Int32)), (.int (0 : Int32))] (.int (0 : Int32)) := (Arv.new A68 (by decide)).pad (pad_rep [] (.int (0 : Int32)) 2)
        have g_b68 : n0 ≤ b68 := Nat.le_trans Zc60 (Nat.le_of_eq gq68.symm)
        have lt_b68 := V68.lt
        have Zc69 : n0 ≤ h68.size := Nat.le_trans Zc60 E68.1
        refine Gl.st (B := (T68.setTop (mkF m 115 L66 [(.ref b68)]))) st68 ?_
        refine Gl.st (B := (T68.setTop (mkF m 119 L66 [(.int y13_92_63), (.int (0 : Int32)), (.ref b68), (.ref b68)]))) (fun t k => XS.dup X68.here hx rfl (hb hby at_115) rfl rfl (XS.iconst X68.here hx rfl (hb hby at_116) (XS.iload X68.here hx rfl (hb hby at_117) (ldAt hL66 rfl) k))) ?_
        obtain ⟨cl70, Ar70, q70, S70, P70, H70, G70⟩ := (id V68)
        have hin119_70 : ¬ ((0 : Int32) < 0 ∨ cl70.slots.size ≤ ((0 : Int32)).toNatClampNeg) := inb_of S70 ⟨by decide, by decide⟩
        obtain ⟨T70, h70, X70, e70, W70, st70⟩ := stB X68 hx hZ e68 Ar70 (j := (0 : Int32)) hin119_70 (g := (mkF m 119 L66 [(.int y13_92_63), (.int (0 : Int32)), (.ref b68), (.ref b68)])) rfl rfl (hb hby at_119)
        have V70 : Arv Z h70 b68 k68 .byte (2 : Int32) [(.int (nar .byte y13_92_63)), (.int (0 : Int32))] (.int (0 : Int32)) := Arv.set Ar70 q70 S70 P70 H70 G70 (fits_nar_byte _) W70 0 rfl (Nat.le_of_ble_eq_true rfl)
        have Zc71 : n0 ≤ h70.size := Nat.le_trans Zc69 (Nat.le_of_eq W70.size.symm)
        have N70 := Fr.snoc X70 N57 g_b68
        refine Gl.st (B := (T70.setTop (mkF m 120 L66 [(.ref b68)]))) st70 ?_
        refine Gl.st (B := (T70.setTop (mkF m 124 L66 [(.int y14_99_65), (.int (1 : Int32)), (.ref b68), (.ref b68)]))) (fun t k => XS.dup X70.here hx rfl (hb hby at_120) rfl rfl (XS.iconst X70.here hx rfl (hb hby at_121) (XS.iload X70.here hx rfl (hb hby at_122) (ldAt hL66 rfl) k))) ?_
        obtain ⟨cl72, Ar72, q72, S72, P72, H72, G72⟩ := (id V70)
        have hin124_72 : ¬ ((1 : Int32) < 0 ∨ cl72.slots.size ≤ ((1 : Int32)).toNatClampNeg) := inb_of S72 ⟨by decide, by decide⟩
        obtain ⟨T72, h72, X72, e72, W72, st72⟩ := stB X70 hx hZ e70 Ar72 (j := (1 : Int32)) hin124_72 (g := (mkF m 124 L66 [(.int y14_99_65), (.int (1 : Int32)), (.ref b68), (.ref b68)])) rfl rfl (hb hby at_124)
        have V72 : Arv Z h72 b68 k68 .byte (2 : Int32) [(.int (nar .byte y13_92_63)), (.int (nar .byte y14_99_65))] (.int (0 : Int32)) := Arv.set Ar72 q72 S72 P72 H72 G72 (fits_nar_byte _) W72 1 rfl (Nat.le_of_ble_eq_true rfl)
        have Zc73 : n0 ≤ h72.size := Nat.le_trans Zc71 (Nat.le_of_eq W72.size.symm)
        have N72 := Fr.snoc X72 N70 g_b68
        refine Gl.st (B := (T72.setTop (mkF m 125 L66 [(.ref b68)]))) st72 ?_
        have c74 := ((((own_sta_keep c58 Kc57 all0).ext E68).wr W70).wr W72)
        have c75 := ((((own_sta_keep (own_sta_keep (own_sta_keep S_DEFA0 Kc11 all0) Kc17 all0) Kc57 all0).ext E68).wr W70).wr W72)
        have hu125_76 : ((0 : Int32) = (1 : Int32) ∧ (2 : Int32) = (0 : Int32) ∧ ([(.int (nar .byte y13_92_63)), (.int (nar .byte y14_99_65))] : List Value) = []) ∨ ((0 : Int32) = (0 : Int32) ∧ (2 : Int32) = (2 : Int32) ∧ ([(.int (nar .byte y13_92_63)), (.int (nar .byte y14_99_65))] : List Value) = [(.int y13_92_63), (.int y14_99_65)]) := by
          exact Or.inr ⟨rfl, rfl, by rw [own_nbyte _ _ hy13_92_63, own_nbyte _ _ hy14_99_65]⟩
        have hu125_77 : ((0 : Int32) = (1 : Int32) ∧ (2 : Int32) = (0 : Int32) ∧ ([(.int (nar .byte y13_92_63)), (.int (nar .byte y14_99_65))] : List Value) = []) ∨ ((0 : Int32) = (0 : Int32) ∧ (2 : Int32) = (2 : Int32) ∧ ([(.int (nar .byte y13_92_63)), (.int (nar .byte y14_99_65))] : List Value) = [(.int y13_92_63), (.int y14_99_65)]) := by
          exact Or.inr ⟨rfl, rfl, by rw [own_nbyte _ _ hy13_92_63, own_nbyte _ _ hy14_99_65]⟩
        refine Gl.cast (B := (T72.setTop (mkF m 125 #[.val (.int p1), .val (.int p2), .val (.int p3), .val (.int p4), .val (.long q5), .second, .val (.int p6), .val (.int (1 : Int32)), .val (.int (0 : Int32)), .val (.int (0 : Int32)), .val (.ref b11_t0), .val (.ref b17_t0), .val (.ref b57_t0), .val (.int y13_92_63), .val (.int y14_99_65), .unset, .unset, .unset, .unset, .unset, .unset, .unset, .unset] [(.ref b68)]))) (by rw [hL66]) ?_
        exact sg_125_7 l Z a0 hw hx hby hml Bd.returns (BodyLoose.notSynchronized Bd) hZ hown n0 p1 p2 p3 p4 q5 p6 (0 : Int32) (.val (.int (0 : Int32))) b11_t0 b17_t0 b57_t0 y13_92_63 y14_99_65 b68 (2 : Int32) ([(.int (nar .byte y13_92_63)), (.int (nar .byte y14_99_65))] : List Value) z_COMP1 z_DEFA0 k68 h72 (X72.more (by decide) (by decide)) e72 N72 Zc73 c74 hr140_hq3 c75 V72 hu125_76 hu125_77
      · skip
        subst hk
        refine Gl.st (B := (T57.setTop (mkF m 107 L66 [(.int (0 : Int32))]))) (fun t k => XS.iload X57.here hx rfl (hb hby at_101) (ldAt hL66 rfl) (XS.ifNo X57.here hx rfl (hb hby at_103) rfl (by decide) (XS.iconst X57.here hx rfl (hb hby at_106) k))) ?_
        obtain ⟨T78, h78, k78, X78, e78, E78, A78, Ex78, st78⟩ := newPE X57 hx hZ (tw hw 14 rfl) rfl (g := (mkF m 107 L66 [(.int (0 : Int32))])) rfl (hb hby at_107) rfl (by decide) (cap := 0) (by decide) (by decide) (by decide) (by decide) (ad := "[B") rfl
        obtain ⟨b78, gq78⟩ : ∃ z, z = T57.heap.size := ⟨_, rfl⟩
        rw [← gq78] at A78 Ex78 st78
        have V78 : Arv Z h78 b78 k78 .byte (0 : Int32) [] (.int (0 : Int32)) := Arv.new A78 (by decide)
        have g_b78 : n0 ≤ b78 := Nat.le_trans Zc60 (Nat.le_of_eq gq78.symm)
        have lt_b78 := V78.lt
        have Zc79 : n0 ≤ h78.size := Nat.le_trans Zc60 E78.1
        refine Gl.st (B := (T78.setTop (mkF m 109 L66 [(.ref b78)]))) st78 ?_
        refine Gl.st (B := (T78.setTop (mkF m 125 L66 [(.ref b78)]))) (fun t k => XS.goto X78.here hx rfl (pc0 := 109) (pc' := 125) rfl (hb hby at_109) (by decide) (by decide) k) ?_
        have c80 := ((own_sta_keep c58 Kc57 all0).ext E78)
        have c81 := ((own_sta_keep (own_sta_keep (own_sta_keep S_DEFA0 Kc11 all0) Kc17 all0) Kc57 all0).ext E78)
        have hu125_82 : ((1 : Int32) = (1 : Int32) ∧ (0 : Int32) = (0 : Int32) ∧ ([] : List Value) = []) ∨ ((1 : Int32) = (0 : Int32) ∧ (0 : Int32) = (2 : Int32) ∧ ([] : List Value) = [(.int y13_92_63), (.int y14_99_65)]) := by
          exact Or.inl ⟨rfl, rfl, rfl⟩
        have hu125_83 : ((1 : Int32) = (1 : Int32) ∧ (0 : Int32) = (0 : Int32) ∧ ([] : List Value) = []) ∨ ((1 : Int32) = (0 : Int32) ∧ (0 : Int32) = (2 : Int32) ∧ ([] : List Value) = [(.int y13_92_63), (.int y14_99_65)]) := by
          exact Or.inl ⟨rfl, rfl, rfl⟩
        refine Gl.cast (B := (T78.setTop (mkF m 125 #[.val (.int p1), .val (.int p2), .val (.int p3), .val (.int p4), .val (.long q5), .second, .val (.int p6), .val (.int (1 : Int32)), .val (.int (1 : Int32)), .val (.int (0 : Int32)), .val (.ref b11_t0), .val (.ref b17_t0), .val (.ref b57_t0), .val (.int y13_92_63), .val (.int y14_99_65), .unset, .unset, .unset, .unset, .unset, .unset, .unset, .unset] [(.ref b78)]))) (by rw [hL66]) ?_
        exact sg_125_7 l Z a0 hw hx hby hml Bd.returns (BodyLoose.notSynchronized Bd) hZ hown n0 p1 p2 p3 p4 q5 p6 (1 : Int32) (.val (.int (0 : Int32))) b11_t0 b17_t0 b57_t0 y13_92_63 y14_99_65 b78 (0 : Int32) ([] : List Value) z_COMP1 z_DEFA0 k78 h78 (X78.more (by decide) (by decide)) e78 N57 Zc79 c80 hr140_hq3 c81 V78 hu125_82 hu125_83
  · skip
    subst hk
    have hs84 : v12_s0_2 = (0 : Int32) ∨ v12_s0_2 = (1 : Int32) := by
      rw [hv12_s0_2]; split <;> simp
    rcases hs84 with hk | hk
    · skip
      subst hk
      obtain ⟨L85, hL85⟩ : ∃ z : Array Slot, z = #[.val (.int p1), .val (.int p2), .val (.int p3), .val (.int p4), .val (.long q5), .second, .val (.int p6), .val (.int (0 : Int32)), .val (.int v26_s0_5), .val (.int (1 : Int32)), .val (.ref b11_t0), .val (.ref b17_t0), .val .null, .unset, .unset, .unset, .unset, .unset, .unset, .unset, .unset, .unset, .unset] := ⟨_, rfl⟩
      refine Gl.st (B := (T17.setTop (mkF m 91 L85 [(.int p4)]))) (fun t k => XS.iload X17.here hx rfl (hb hby at_67) (ldAt hL22 rfl) (XS.ifNo X17.here hx rfl (hb hby at_69) rfl (by decide) (XS.aconstNull X17.here hx rfl (hb hby at_72) (XS.goto X17.here hx rfl (pc0 := 73) (pc' := 88) rfl (hb hby at_73) (by decide) (by decide) (XS.astore X17.here hx rfl (hb hby at_88) rfl rfl (l' := L85) (stAt hL22 hL85 rfl rfl) (XS.iloadN X17.here hx rfl (hb hby at_90) (ldAt hL85 rfl) k)))))) ?_
      refine Gl.st (B := (T17.setTop (mkF m 92 L85 [(.int (p4.toInt8.toInt32))]))) (fun t k => XS.i2b X17.here hx rfl (hb hby at_91) rfl k) ?_
      obtain ⟨y13_92_86, hy13_92_86⟩ : ∃ z : Int32, z = (p4.toInt8.toInt32) := ⟨_, rfl⟩
      refine Gl.cast (B := (T17.setTop (mkF m 92 L85 [(.int y13_92_86)]))) (by rw [hy13_92_86]) ?_
      obtain ⟨L87, hL87⟩ : ∃ z : Array Slot, z = #[.val (.int p1), .val (.int p2), .val (.int p3), .val (.int p4), .val (.long q5), .second, .val (.int p6), .val (.int (0 : Int32)), .val (.int v26_s0_5), .val (.int (1 : Int32)), .val (.ref b11_t0), .val (.ref b17_t0), .val .null, .val (.int y13_92_86), .unset, .unset, .unset, .unset, .unset, .unset, .unset, .unset, .unset] := ⟨_, rfl⟩
      refine Gl.st (B := (T17.setTop (mkF m 99 L87 [(.int (((p4.toUInt32 >>> ((8 : Int32) &&& 31).toUInt32).toInt32).toInt8.toInt32))]))) (fun t k => XS.istore X17.here hx rfl (hb hby at_92) rfl (l' := L87) (stAt hL85 hL87 rfl rfl) (XS.iloadN X17.here hx rfl (hb hby at_94) (ldAt hL87 rfl) (XS.bipush X17.here hx rfl (hb hby at_95) (XS.iushr X17.here hx rfl (hb hby at_97) rfl (XS.i2b X17.here hx rfl (hb hby at_98) rfl k))))) ?_
      obtain ⟨y14_99_88, hy14_99_88⟩ : ∃ z : Int32, z = (((p4.toUInt32 >>> ((8 : Int32) &&& 31).toUInt32).toInt32).toInt8.toInt32) := ⟨_, rfl⟩
      refine Gl.cast (B := (T17.setTop (mkF m 99 L87 [(.int y14_99_88)]))) (by rw [hy14_99_88]) ?_
      obtain ⟨L89, hL89⟩ : ∃ z : Array Slot, z = #[.val (.int p1), .val (.int p2), .val (.int p3), .val (.int p4), .val (.long q5), .second, .val (.int p6), .val (.int (0 : Int32)), .val (.int v26_s0_5), .val (.int (1 : Int32)), .val (.ref b11_t0), .val (.ref b17_t0), .val .null, .val (.int y13_92_86), .val (.int y14_99_88), .unset, .unset, .unset, .unset, .unset, .unset, .unset, .unset] := ⟨_, rfl⟩
      refine Gl.st (B := (T17.setTop (mkF m 101 L89 []))) (fun t k => XS.istore X17.here hx rfl (hb hby at_99) rfl (l' := L89) (stAt hL87 hL89 rfl rfl) k) ?_
      have hs90 : v26_s0_5 = (0 : Int32) ∨ v26_s0_5 = (1 : Int32) := by
        rw [hv26_s0_5]; split <;> simp
      rcases hs90 with hk | hk
      · skip
        subst hk
        refine Gl.st (B := (T17.setTop (mkF m 113 L89 [(.int (2 : Int32))]))) (fun t k => XS.iload X17.here hx rfl (hb hby at_101) (ldAt hL89 rfl) (XS.ifYes X17.here hx rfl (pc0 := 103) (pc' := 112) rfl (hb hby at_103) rfl (by decide) (by decide) (by decide) (XS.iconst X17.here hx rfl (hb hby at_112) k))) ?_
        obtain ⟨T91, h91, k91, X91, e91, E91, A91, Ex91, st91⟩ := newPE X17 hx hZ (tw hw 14 rfl) rfl (g := (mkF m 113 L89 [(.int (2 : Int32))])) rfl (hb hby at_113) rfl (by decide) (cap := 2) (by decide) (by decide) (by decide) (by decide) (ad := "[B") rfl
        obtain ⟨b91, gq91⟩ : ∃ z, z = T17.heap.size := ⟨_, rfl⟩
        rw [← gq91] at A91 Ex91 st91
        have V91 : Arv Z h91 b91 k91 .byte (2 : Int32) [(.int (0 : Int32)), (.int (0 : Int32))] (.int (0 : Int32)) := (Arv.new A91 (by decide)).pad (pad_rep [] (.int (0 : Int32)) 2)
        have g_b91 : n0 ≤ b91 := Nat.le_trans Zc20 (Nat.le_of_eq gq91.symm)
        have lt_b91 := V91.lt
        have Zc92 : n0 ≤ h91.size := Nat.le_trans Zc20 E91.1
        refine Gl.st (B := (T91.setTop (mkF m 115 L89 [(.ref b91)]))) st91 ?_
        refine Gl.st (B := (T91.setTop (mkF m 119 L89 [(.int y13_92_86), (.int (0 : Int32)), (.ref b91), (.ref b91)]))) (fun t k => XS.dup X91.here hx rfl (hb hby at_115) rfl rfl (XS.iconst X91.here hx rfl (hb hby at_116) (XS.iload X91.here hx rfl (hb hby at_117) (ldAt hL89 rfl) k))) ?_
        obtain ⟨cl93, Ar93, q93, S93, P93, H93, G93⟩ := (id V91)
        have hin119_93 : ¬ ((0 : Int32) < 0 ∨ cl93.slots.size ≤ ((0 : Int32)).toNatClampNeg) := inb_of S93 ⟨by decide, by decide⟩
        obtain ⟨T93, h93, X93, e93, W93, st93⟩ := stB X91 hx hZ e91 Ar93 (j := (0 : Int32)) hin119_93 (g := (mkF m 119 L89 [(.int y13_92_86), (.int (0 : Int32)), (.ref b91), (.ref b91)])) rfl rfl (hb hby at_119)
        have V93 : Arv Z h93 b91 k91 .byte (2 : Int32) [(.int (nar .byte y13_92_86)), (.int (0 : Int32))] (.int (0 : Int32)) := Arv.set Ar93 q93 S93 P93 H93 G93 (fits_nar_byte _) W93 0 rfl (Nat.le_of_ble_eq_true rfl)
        have Zc94 : n0 ≤ h93.size := Nat.le_trans Zc92 (Nat.le_of_eq W93.size.symm)
        have N93 := Fr.snoc X93 N17 g_b91
        refine Gl.st (B := (T93.setTop (mkF m 120 L89 [(.ref b91)]))) st93 ?_
        refine Gl.st (B := (T93.setTop (mkF m 124 L89 [(.int y14_99_88), (.int (1 : Int32)), (.ref b91), (.ref b91)]))) (fun t k => XS.dup X93.here hx rfl (hb hby at_120) rfl rfl (XS.iconst X93.here hx rfl (hb hby at_121) (XS.iload X93.here hx rfl (hb hby at_122) (ldAt hL89 rfl) k))) ?_
        obtain ⟨cl95, Ar95, q95, S95, P95, H95, G95⟩ := (id V93)
        have hin124_95 : ¬ ((1 : Int32) < 0 ∨ cl95.slots.size ≤ ((1 : Int32)).toNatClampNeg) := inb_of S95 ⟨by decide, by decide⟩
        obtain ⟨T95, h95, X95, e95, W95, st95⟩ := stB X93 hx hZ e93 Ar95 (j := (1 : Int32)) hin124_95 (g := (mkF m 124 L89 [(.int y14_99_88), (.int (1 : Int32)), (.ref b91), (.ref b91)])) rfl rfl (hb hby at_124)
        have V95 : Arv Z h95 b91 k91 .byte (2 : Int32) [(.int (nar .byte y13_92_86)), (.int (nar .byte y14_99_88))] (.int (0 : Int32)) := Arv.set Ar95 q95 S95 P95 H95 G95 (fits_nar_byte _) W95 1 rfl (Nat.le_of_ble_eq_true rfl)
        have Zc96 : n0 ≤ h95.size := Nat.le_trans Zc94 (Nat.le_of_eq W95.size.symm)
        have N95 := Fr.snoc X95 N93 g_b91
        refine Gl.st (B := (T95.setTop (mkF m 125 L89 [(.ref b91)]))) st95 ?_
        have c97 := ((((own_sta_keep c18 Kc17 all0).ext E91).wr W93).wr W95)
        have c98 := ((((own_sta_keep (own_sta_keep S_DEFA0 Kc11 all0) Kc17 all0).ext E91).wr W93).wr W95)
        have ne_z_DEFA0_b91_99 : z_DEFA0 ≠ b91 := Nat.ne_of_lt (Nat.lt_of_lt_of_le V_z_DEFA0.lt (Nat.le_trans Kc11.1 (Nat.le_trans Kc17.1 (Nat.le_of_eq gq91.symm))))
        have c100 := (((((V_z_DEFA0.keep Kc11 nin0).keep Kc17 nin0).ext E91).other W93 ne_z_DEFA0_b91_99).other W95 ne_z_DEFA0_b91_99)
        have hu125_101 : ((0 : Int32) = (1 : Int32) ∧ (2 : Int32) = (0 : Int32) ∧ ([(.int (nar .byte y13_92_86)), (.int (nar .byte y14_99_88))] : List Value) = []) ∨ ((0 : Int32) = (0 : Int32) ∧ (2 : Int32) = (2 : Int32) ∧ ([(.int (nar .byte y13_92_86)), (.int (nar .byte y14_99_88))] : List Value) = [(.int y13_92_86), (.int y14_99_88)]) := by
          exact Or.inr ⟨rfl, rfl, by rw [own_nbyte _ _ hy13_92_86, own_nbyte _ _ hy14_99_88]⟩
        have hu125_102 : ((0 : Int32) = (1 : Int32) ∧ (2 : Int32) = (0 : Int32) ∧ ([(.int (nar .byte y13_92_86)), (.int (nar .byte y14_99_88))] : List Value) = []) ∨ ((0 : Int32) = (0 : Int32) ∧ (2 : Int32) = (2 : Int32) ∧ ([(.int (nar .byte y13_92_86)), (.int (nar .byte y14_99_88))] : List Value) = [(.int y13_92_86), (.int y14_99_88)]) := by
          exact Or.inr ⟨rfl, rfl, by rw [own_nbyte _ _ hy13_92_86, own_nbyte _ _ hy14_99_88]⟩
        refine Gl.cast (B := (T95.setTop (mkF m 125 #[.val (.int p1), .val (.int p2), .val (.int p3), .val (.int p4), .val (.long q5), .second, .val (.int p6), .val (.int (0 : Int32)), .val (.int (0 : Int32)), .val (.int (1 : Int32)), .val (.ref b11_t0), .val (.ref b17_t0), .val .null, .val (.int y13_92_86), .val (.int y14_99_88), .unset, .unset, .unset, .unset, .unset, .unset, .unset, .unset] [(.ref b91)]))) (by rw [hL89]) ?_
        exact sg_125_12 l Z a0 hw hx hby hml Bd.returns (BodyLoose.notSynchronized Bd) hZ hown n0 p1 p2 p3 p4 q5 p6 (0 : Int32) (.val (.int (1 : Int32))) b11_t0 b17_t0 y13_92_86 y14_99_88 b91 (2 : Int32) ([(.int (nar .byte y13_92_86)), (.int (nar .byte y14_99_88))] : List Value) z_COMP1 z_DEFA0 kx_z_DEFA0 k91 h95 (X95.more (by decide) (by decide)) e95 N95 Zc96 c97 hr140_hq3 c98 c100 V95 hu125_101 hu125_102
      · skip
        subst hk
        refine Gl.st (B := (T17.setTop (mkF m 107 L89 [(.int (0 : Int32))]))) (fun t k => XS.iload X17.here hx rfl (hb hby at_101) (ldAt hL89 rfl) (XS.ifNo X17.here hx rfl (hb hby at_103) rfl (by decide) (XS.iconst X17.here hx rfl (hb hby at_106) k))) ?_
        obtain ⟨T103, h103, k103, X103, e103, E103, A103, Ex103, st103⟩ := newPE X17 hx hZ (tw hw 14 rfl) rfl (g := (mkF m 107 L89 [(.int (0 : Int32))])) rfl (hb hby at_107) rfl (by decide) (cap := 0) (by decide) (by decide) (by decide) (by decide) (ad := "[B") rfl
        obtain ⟨b103, gq103⟩ : ∃ z, z = T17.heap.size := ⟨_, rfl⟩
        rw [← gq103] at A103 Ex103 st103
        have V103 : Arv Z h103 b103 k103 .byte (0 : Int32) [] (.int (0 : Int32)) := Arv.new A103 (by decide)
        have g_b103 : n0 ≤ b103 := Nat.le_trans Zc20 (Nat.le_of_eq gq103.symm)
        have lt_b103 := V103.lt
        have Zc104 : n0 ≤ h103.size := Nat.le_trans Zc20 E103.1
        refine Gl.st (B := (T103.setTop (mkF m 109 L89 [(.ref b103)]))) st103 ?_
        refine Gl.st (B := (T103.setTop (mkF m 125 L89 [(.ref b103)]))) (fun t k => XS.goto X103.here hx rfl (pc0 := 109) (pc' := 125) rfl (hb hby at_109) (by decide) (by decide) k) ?_
        have c105 := ((own_sta_keep c18 Kc17 all0).ext E103)
        have c106 := ((own_sta_keep (own_sta_keep S_DEFA0 Kc11 all0) Kc17 all0).ext E103)
        have c107 := (((V_z_DEFA0.keep Kc11 nin0).keep Kc17 nin0).ext E103)
        have hu125_108 : ((1 : Int32) = (1 : Int32) ∧ (0 : Int32) = (0 : Int32) ∧ ([] : List Value) = []) ∨ ((1 : Int32) = (0 : Int32) ∧ (0 : Int32) = (2 : Int32) ∧ ([] : List Value) = [(.int y13_92_86), (.int y14_99_88)]) := by
          exact Or.inl ⟨rfl, rfl, rfl⟩
        have hu125_109 : ((1 : Int32) = (1 : Int32) ∧ (0 : Int32) = (0 : Int32) ∧ ([] : List Value) = []) ∨ ((1 : Int32) = (0 : Int32) ∧ (0 : Int32) = (2 : Int32) ∧ ([] : List Value) = [(.int y13_92_86), (.int y14_99_88)]) := by
          exact Or.inl ⟨rfl, rfl, rfl⟩
        refine Gl.cast (B := (T103.setTop (mkF m 125 #[.val (.int p1), .val (.int p2), .val (.int p3), .val (.int p4), .val (.long q5), .second, .val (.int p6), .val (.int (0 : Int32)), .val (.int (1 : Int32)), .val (.int (1 : Int32)), .val (.ref b11_t0), .val (.ref b17_t0), .val .null, .val (.int y13_92_86), .val (.int y14_99_88), .unset, .unset, .unset, .unset, .unset, .unset, .unset, .unset] [(.ref b103)]))) (by rw [hL89]) ?_
        exact sg_125_12 l Z a0 hw hx hby hml Bd.returns (BodyLoose.notSynchronized Bd) hZ hown n0 p1 p2 p3 p4 q5 p6 (1 : Int32) (.val (.int (1 : Int32))) b11_t0 b17_t0 y13_92_86 y14_99_88 b103 (0 : Int32) ([] : List Value) z_COMP1 z_DEFA0 kx_z_DEFA0 k103 h103 (X103.more (by decide) (by decide)) e103 N17 Zc104 c105 hr140_hq3 c106 c107 V103 hu125_108 hu125_109
    · skip
      subst hk
      obtain ⟨L110, hL110⟩ : ∃ z : Array Slot, z = #[.val (.int p1), .val (.int p2), .val (.int p3), .val (.int p4), .val (.long q5), .second, .val (.int p6), .val (.int (1 : Int32)), .val (.int v26_s0_5), .val (.int (1 : Int32)), .val (.ref b11_t0), .val (.ref b17_t0), .val .null, .unset, .unset, .unset, .unset, .unset, .unset, .unset, .unset, .unset, .unset] := ⟨_, rfl⟩
      refine Gl.st (B := (T17.setTop (mkF m 91 L110 [(.int p4)]))) (fun t k => XS.iload X17.here hx rfl (hb hby at_67) (ldAt hL22 rfl) (XS.ifNo X17.here hx rfl (hb hby at_69) rfl (by decide) (XS.aconstNull X17.here hx rfl (hb hby at_72) (XS.goto X17.here hx rfl (pc0 := 73) (pc' := 88) rfl (hb hby at_73) (by decide) (by decide) (XS.astore X17.here hx rfl (hb hby at_88) rfl rfl (l' := L110) (stAt hL22 hL110 rfl rfl) (XS.iloadN X17.here hx rfl (hb hby at_90) (ldAt hL110 rfl) k)))))) ?_
      refine Gl.st (B := (T17.setTop (mkF m 92 L110 [(.int (p4.toInt8.toInt32))]))) (fun t k => XS.i2b X17.here hx rfl (hb hby at_91) rfl k) ?_
      obtain ⟨y13_92_111, hy13_92_111⟩ : ∃ z : Int32, z = (p4.toInt8.toInt32) := ⟨_, rfl⟩
      refine Gl.cast (B := (T17.setTop (mkF m 92 L110 [(.int y13_92_111)]))) (by rw [hy13_92_111]) ?_
      obtain ⟨L112, hL112⟩ : ∃ z : Array Slot, z = #[.val (.int p1), .val (.int p2), .val (.int p3), .val (.int p4), .val (.long q5), .second, .val (.int p6), .val (.int (1 : Int32)), .val (.int v26_s0_5), .val (.int (1 : Int32)), .val (.ref b11_t0), .val (.ref b17_t0), .val .null, .val (.int y13_92_111), .unset, .unset, .unset, .unset, .unset, .unset, .unset, .unset, .unset] := ⟨_, rfl⟩
      refine Gl.st (B := (T17.setTop (mkF m 99 L112 [(.int (((p4.toUInt32 >>> ((8 : Int32) &&& 31).toUInt32).toInt32).toInt8.toInt32))]))) (fun t k => XS.istore X17.here hx rfl (hb hby at_92) rfl (l' := L112) (stAt hL110 hL112 rfl rfl) (XS.iloadN X17.here hx rfl (hb hby at_94) (ldAt hL112 rfl) (XS.bipush X17.here hx rfl (hb hby at_95) (XS.iushr X17.here hx rfl (hb hby at_97) rfl (XS.i2b X17.here hx rfl (hb hby at_98) rfl k))))) ?_
      obtain ⟨y14_99_113, hy14_99_113⟩ : ∃ z : Int32, z = (((p4.toUInt32 >>> ((8 : Int32) &&& 31).toUInt32).toInt32).toInt8.toInt32) := ⟨_, rfl⟩
      refine Gl.cast (B := (T17.setTop (mkF m 99 L112 [(.int y14_99_113)]))) (by rw [hy14_99_113]) ?_
      obtain ⟨L114, hL114⟩ : ∃ z : Array Slot, z = #[.val (.int p1), .val (.int p2), .val (.int p3), .val (.int p4), .val (.long q5), .second, .val (.int p6), .val (.int (1 : Int32)), .val (.int v26_s0_5), .val (.int (1 : Int32)), .val (.ref b11_t0), .val (.ref b17_t0), .val .null, .val (.int y13_92_111), .val (.int y14_99_113), .unset, .unset, .unset, .unset, .unset, .unset, .unset, .unset] := ⟨_, rfl⟩
      refine Gl.st (B := (T17.setTop (mkF m 101 L114 []))) (fun t k => XS.istore X17.here hx rfl (hb hby at_99) rfl (l' := L114) (stAt hL112 hL114 rfl rfl) k) ?_
      have hs115 : v26_s0_5 = (0 : Int32) ∨ v26_s0_5 = (1 : Int32) := by
        rw [hv26_s0_5]; split <;> simp
      rcases hs115 with hk | hk
      · skip
        subst hk
        refine Gl.st (B := (T17.setTop (mkF m 113 L114 [(.int (2 : Int32))]))) (fun t k => XS.iload X17.here hx rfl (hb hby at_101) (ldAt hL114 rfl) (XS.ifYes X17.here hx rfl (pc0 := 103) (pc' := 112) rfl (hb hby at_103) rfl (by decide) (by decide) (by decide) (XS.iconst X17.here hx rfl (hb hby at_112) k))) ?_
        obtain ⟨T116, h116, k116, X116, e116, E116, A116, Ex116, st116⟩ := newPE X17 hx hZ (tw hw 14 rfl) rfl (g := (mkF m 113 L114 [(.int (2 : Int32))])) rfl (hb hby at_113) rfl (by decide) (cap := 2) (by decide) (by decide) (by decide) (by decide) (ad := "[B") rfl
        obtain ⟨b116, gq116⟩ : ∃ z, z = T17.heap.size := ⟨_, rfl⟩
        rw [← gq116] at A116 Ex116 st116
        have V116 : Arv Z h116 b116 k116 .byte (2 : Int32) [(.int (0 : Int32)), (.int (0 : Int32))] (.int (0 : Int32)) := (Arv.new A116 (by decide)).pad (pad_rep [] (.int (0 : Int32)) 2)
        have g_b116 : n0 ≤ b116 := Nat.le_trans Zc20 (Nat.le_of_eq gq116.symm)
        have lt_b116 := V116.lt
        have Zc117 : n0 ≤ h116.size := Nat.le_trans Zc20 E116.1
        refine Gl.st (B := (T116.setTop (mkF m 115 L114 [(.ref b116)]))) st116 ?_
        refine Gl.st (B := (T116.setTop (mkF m 119 L114 [(.int y13_92_111), (.int (0 : Int32)), (.ref b116), (.ref b116)]))) (fun t k => XS.dup X116.here hx rfl (hb hby at_115) rfl rfl (XS.iconst X116.here hx rfl (hb hby at_116) (XS.iload X116.here hx rfl (hb hby at_117) (ldAt hL114 rfl) k))) ?_
        obtain ⟨cl118, Ar118, q118, S118, P118, H118, G118⟩ := (id V116)
        have hin119_118 : ¬ ((0 : Int32) < 0 ∨ cl118.slots.size ≤ ((0 : Int32)).toNatClampNeg) := inb_of S118 ⟨by decide, by decide⟩
        obtain ⟨T118, h118, X118, e118, W118, st118⟩ := stB X116 hx hZ e116 Ar118 (j := (0 : Int32)) hin119_118 (g := (mkF m 119 L114 [(.int y13_92_111), (.int (0 : Int32)), (.ref b116), (.ref b116)])) rfl rfl (hb hby at_119)
        have V118 : Arv Z h118 b116 k116 .byte (2 : Int32) [(.int (nar .byte y13_92_111)), (.int (0 : Int32))] (.int (0 : Int32)) := Arv.set Ar118 q118 S118 P118 H118 G118 (fits_nar_byte _) W118 0 rfl (Nat.le_of_ble_eq_true rfl)
        have Zc119 : n0 ≤ h118.size := Nat.le_trans Zc117 (Nat.le_of_eq W118.size.symm)
        have N118 := Fr.snoc X118 N17 g_b116
        refine Gl.st (B := (T118.setTop (mkF m 120 L114 [(.ref b116)]))) st118 ?_
        refine Gl.st (B := (T118.setTop (mkF m 124 L114 [(.int y14_99_113), (.int (1 : Int32)), (.ref b116), (.ref b116)]))) (fun t k => XS.dup X118.here hx rfl (hb hby at_120) rfl rfl (XS.iconst X118.here hx rfl (hb hby at_121) (XS.iload X118.here hx rfl (hb hby at_122) (ldAt hL114 rfl) k))) ?_
        obtain ⟨cl120, Ar120, q120, S120, P120, H120, G120⟩ := (id V118)
        have hin124_120 : ¬ ((1 : Int32) < 0 ∨ cl120.slots.size ≤ ((1 : Int32)).toNatClampNeg) := inb_of S120 ⟨by decide, by decide⟩
        obtain ⟨T120, h120, X120, e120, W120, st120⟩ := stB X118 hx hZ e118 Ar120 (j := (1 : Int32)) hin124_120 (g := (mkF m 124 L114 [(.int y14_99_113), (.int (1 : Int32)), (.ref b116), (.ref b116)])) rfl rfl (hb hby at_124)
        have V120 : Arv Z h120 b116 k116 .byte (2 : Int32) [(.int (nar .byte y13_92_111)), (.int (nar .byte y14_99_113))] (.int (0 : Int32)) := Arv.set Ar120 q120 S120 P120 H120 G120 (fits_nar_byte _) W120 1 rfl (Nat.le_of_ble_eq_true rfl)
        have Zc121 : n0 ≤ h120.size := Nat.le_trans Zc119 (Nat.le_of_eq W120.size.symm)
        have N120 := Fr.snoc X120 N118 g_b116
        refine Gl.st (B := (T120.setTop (mkF m 125 L114 [(.ref b116)]))) st120 ?_
        have c122 := ((((own_sta_keep c18 Kc17 all0).ext E116).wr W118).wr W120)
        have c123 := ((((own_sta_keep (own_sta_keep S_DEFA0 Kc11 all0) Kc17 all0).ext E116).wr W118).wr W120)
        have hu125_124 : ((0 : Int32) = (1 : Int32) ∧ (2 : Int32) = (0 : Int32) ∧ ([(.int (nar .byte y13_92_111)), (.int (nar .byte y14_99_113))] : List Value) = []) ∨ ((0 : Int32) = (0 : Int32) ∧ (2 : Int32) = (2 : Int32) ∧ ([(.int (nar .byte y13_92_111)), (.int (nar .byte y14_99_113))] : List Value) = [(.int y13_92_111), (.int y14_99_113)]) := by
          exact Or.inr ⟨rfl, rfl, by rw [own_nbyte _ _ hy13_92_111, own_nbyte _ _ hy14_99_113]⟩
        have hu125_125 : ((0 : Int32) = (1 : Int32) ∧ (2 : Int32) = (0 : Int32) ∧ ([(.int (nar .byte y13_92_111)), (.int (nar .byte y14_99_113))] : List Value) = []) ∨ ((0 : Int32) = (0 : Int32) ∧ (2 : Int32) = (2 : Int32) ∧ ([(.int (nar .byte y13_92_111)), (.int (nar .byte y14_99_113))] : List Value) = [(.int y13_92_111), (.int y14_99_113)]) := by
          exact Or.inr ⟨rfl, rfl, by rw [own_nbyte _ _ hy13_92_111, own_nbyte _ _ hy14_99_113]⟩
        refine Gl.cast (B := (T120.setTop (mkF m 125 #[.val (.int p1), .val (.int p2), .val (.int p3), .val (.int p4), .val (.long q5), .second, .val (.int p6), .val (.int (1 : Int32)), .val (.int (0 : Int32)), .val (.int (1 : Int32)), .val (.ref b11_t0), .val (.ref b17_t0), .val .null, .val (.int y13_92_111), .val (.int y14_99_113), .unset, .unset, .unset, .unset, .unset, .unset, .unset, .unset] [(.ref b116)]))) (by rw [hL114]) ?_
        exact sg_125_16 l Z a0 hw hx hby hml Bd.returns (BodyLoose.notSynchronized Bd) hZ hown n0 p1 p2 p3 p4 q5 p6 (0 : Int32) (.val (.int (1 : Int32))) b11_t0 b17_t0 y13_92_111 y14_99_113 b116 (2 : Int32) ([(.int (nar .byte y13_92_111)), (.int (nar .byte y14_99_113))] : List Value) z_COMP1 z_DEFA0 k116 h120 (X120.more (by decide) (by decide)) e120 N120 Zc121 c122 hr140_hq3 c123 V120 hu125_124 hu125_125
      · skip
        subst hk
        refine Gl.st (B := (T17.setTop (mkF m 107 L114 [(.int (0 : Int32))]))) (fun t k => XS.iload X17.here hx rfl (hb hby at_101) (ldAt hL114 rfl) (XS.ifNo X17.here hx rfl (hb hby at_103) rfl (by decide) (XS.iconst X17.here hx rfl (hb hby at_106) k))) ?_
        obtain ⟨T126, h126, k126, X126, e126, E126, A126, Ex126, st126⟩ := newPE X17 hx hZ (tw hw 14 rfl) rfl (g := (mkF m 107 L114 [(.int (0 : Int32))])) rfl (hb hby at_107) rfl (by decide) (cap := 0) (by decide) (by decide) (by decide) (by decide) (ad := "[B") rfl
        obtain ⟨b126, gq126⟩ : ∃ z, z = T17.heap.size := ⟨_, rfl⟩
        rw [← gq126] at A126 Ex126 st126
        have V126 : Arv Z h126 b126 k126 .byte (0 : Int32) [] (.int (0 : Int32)) := Arv.new A126 (by decide)
        have g_b126 : n0 ≤ b126 := Nat.le_trans Zc20 (Nat.le_of_eq gq126.symm)
        have lt_b126 := V126.lt
        have Zc127 : n0 ≤ h126.size := Nat.le_trans Zc20 E126.1
        refine Gl.st (B := (T126.setTop (mkF m 109 L114 [(.ref b126)]))) st126 ?_
        refine Gl.st (B := (T126.setTop (mkF m 125 L114 [(.ref b126)]))) (fun t k => XS.goto X126.here hx rfl (pc0 := 109) (pc' := 125) rfl (hb hby at_109) (by decide) (by decide) k) ?_
        have c128 := ((own_sta_keep c18 Kc17 all0).ext E126)
        have c129 := ((own_sta_keep (own_sta_keep S_DEFA0 Kc11 all0) Kc17 all0).ext E126)
        have hu125_130 : ((1 : Int32) = (1 : Int32) ∧ (0 : Int32) = (0 : Int32) ∧ ([] : List Value) = []) ∨ ((1 : Int32) = (0 : Int32) ∧ (0 : Int32) = (2 : Int32) ∧ ([] : List Value) = [(.int y13_92_111), (.int y14_99_113)]) := by
          exact Or.inl ⟨rfl, rfl, rfl⟩
        have hu125_131 : ((1 : Int32) = (1 : Int32) ∧ (0 : Int32) = (0 : Int32) ∧ ([] : List Value) = []) ∨ ((1 : Int32) = (0 : Int32) ∧ (0 : Int32) = (2 : Int32) ∧ ([] : List Value) = [(.int y13_92_111), (.int y14_99_113)]) := by
          exact Or.inl ⟨rfl, rfl, rfl⟩
        refine Gl.cast (B := (T126.setTop (mkF m 125 #[.val (.int p1), .val (.int p2), .val (.int p3), .val (.int p4), .val (.long q5), .second, .val (.int p6), .val (.int (1 : Int32)), .val (.int (1 : Int32)), .val (.int (1 : Int32)), .val (.ref b11_t0), .val (.ref b17_t0), .val .null, .val (.int y13_92_111), .val (.int y14_99_113), .unset, .unset, .unset, .unset, .unset, .unset, .unset, .unset] [(.ref b126)]))) (by rw [hL114]) ?_
        exact sg_125_16 l Z a0 hw hx hby hml Bd.returns (BodyLoose.notSynchronized Bd) hZ hown n0 p1 p2 p3 p4 q5 p6 (1 : Int32) (.val (.int (1 : Int32))) b11_t0 b17_t0 y13_92_111 y14_99_113 b126 (0 : Int32) ([] : List Value) z_COMP1 z_DEFA0 k126 h126 (X126.more (by decide) (by decide)) e126 N17 Zc127 c128 hr140_hq3 c129 V126 hu125_130 hu125_131
set_option maxRecDepth 65536 in
set_option maxHeartbeats 40000000 in
theorem comes_1 {Post : Tables → Env → Array Value → State → Outcome → State → Prop} (hpost : ∀ tb e args s v u, (limb_1_1.after args s (.returned v) u = true ∧ limb_1_2.after args s (.returned v) u = true ∧ True) → FrameEnd s (.returned v) u (Jvm.fieldLocs frame_1_writes args s ++ Jvm.arrayLocs frame_1_arrays args s ++ Jvm.staticLocs frame_1_statics s) 48 192 → Post tb e args s (.returned v) u) :
    ArmFor flags0 classFile x code maxLocals ret World_1 tables_1 room_1 Calls_1 rest_1 Pre_1 Post := by
  intro l hfl _ _ p e ha hc hk s m args below hf hA hF happ hP
  obtain ⟨hcalls, hrest, hpre⟩ := hP
  obtain ⟨-, -, -, hnamed, -, -, -, hat⟩ := (Spec.applies_iff hf).mp happ
  obtain ⟨hg, hn⟩ := and_e (Cond.before_iff.mp (show (Jvm.Cond.and given_1 narrow_1).before args s = true from hpre))
  obtain ⟨g1, g2⟩ := and_e hg
  obtain ⟨g3, g4⟩ := and_e g2
  obtain ⟨g5, g6⟩ := and_e g4
  obtain ⟨g7, g8⟩ := and_e g6
  obtain ⟨g9, g10⟩ := and_e g8
  obtain ⟨g11, g12⟩ := and_e g10
  obtain ⟨w0, w1, w2, w3, w4, w5, rfl⟩ : ∃ w0 w1 w2 w3 w4 w5 : Value, args = #[w0, w1, w2, w3, w4, w5] := by
    have hs : args.size = 6 := by simpa [Cond.value, given_1] using g1
    obtain ⟨L⟩ := args
    match L, hs with
    | [w0, w1, w2, w3, w4, w5], _ => exact ⟨w0, w1, w2, w3, w4, w5, rfl⟩
  have hw := fun d (hd : d ∈ tables_1) => atoms_spec (ws := Jvm.Cond.code x code maxLocals ret :: tables_1) hat d (List.mem_cons_of_mem _ hd)
  have hfit : Fit s := fun {y c} hc i hi => by
    obtain ⟨ha, rfl⟩ := Array.getElem?_eq_some_iff.mp hc
    have q := List.all_eq_true.mp ((Array.all_eq_true_iff_forall_mem.mp hF) _ (Array.getElem_mem ha)) i (List.mem_range.mpr hi)
    simpa [Array.getElem?_eq_getElem hi] using q
  obtain ⟨hsets, hown0⟩ := atoms_of _ (rest_1_c_eq ▸ (show rest_1_c.before _ s = true from hrest))
  have hr0 := Cond.before_iff.mp hown0
  obtain ⟨i0, ei0⟩ := is_v g3
  obtain rfl : w0 = (.int i0) := Option.some.inj ei0
  obtain ⟨i1, ei1⟩ := is_v g5
  obtain rfl : w1 = (.int i1) := Option.some.inj ei1
  obtain ⟨i2, ei2⟩ := is_v g7
  obtain rfl : w2 = (.int i2) := Option.some.inj ei2
  obtain ⟨i3, ei3⟩ := is_v g9
  obtain rfl : w3 = (.int i3) := Option.some.inj ei3
  obtain ⟨i4, ei4⟩ := isL_v g11
  obtain rfl : w4 = (.long i4) := Option.some.inj ei4
  obtain ⟨i5, ei5⟩ := is_v g12
  obtain rfl : w5 = (.int i5) := Option.some.inj ei5
  have nzc := not_v (Cond.before_iff.mp (hsets _ (List.mem_of_getElem? (i := 2) rfl)))
  obtain ⟨zc, ezc⟩ := is_v (Cond.before_iff.mp (hsets _ (List.mem_of_getElem? (i := 1) rfl)))
  have Szc : Sta s s.heap "java/lang/String" "COMPACT_STRINGS" "Z" (.int zc) := Sta.start ezc (Or.inl (hsets _ (List.mem_of_getElem? (i := 0) rfl)))
  have czc : ¬ (zc = (0 : Int32)) := gotF (Cond.eq_ints ezc (Term.int_eval (0))) nzc
  obtain ⟨zd, ezd⟩ := arr_v (Cond.before_iff.mp (hsets _ (List.mem_of_getElem? (i := 15) rfl)))
  have Szd : Sta s s.heap "java/util/ArrayList" "DEFAULTCAPACITY_EMPTY_ELEMENTDATA" "[Ljava/lang/Object;" (.ref zd) := Sta.start ezd (Or.inr ⟨(hw _ (List.mem_of_getElem? (i := 44) rfl)), (hsets _ (List.mem_of_getElem? (i := 11) rfl))⟩)
  obtain ⟨cld, Ard⟩ := Arr.start ezd (Cond.before_iff.mp (hsets _ (List.mem_of_getElem? (i := 15) rfl)))
  have led := own_len0 ezd (Arr.fin (State.Warmed39.refl s).alike Ard) (own_eqI (Cond.before_iff.mp (hsets _ (List.mem_of_getElem? (i := 17) rfl))))
  have Vzd : Arv s s.heap zd cld.cls (.object "java/lang/Object") (0 : Int32) [] .null := Arv.start hfit Ard led.1 led.2 (by decide) rfl trivial
  obtain ⟨n, o, h1, h2, h3, _, L, rfl, ⟨rfl, N⟩, hq⟩ := rm0 l s _ hw tables_1 i0 i1 i2 i3 i4 i5 cld.cls zc zd s.heap s.heap.size (Nat.le_refl _) Vzd Szc czc czc czc Szd czc p e ha hc hk s m _ below hf ((Spec.applies_iff_loose hf).mp happ).1 ⟨rfl, State.Warmed39.refl s, rfl⟩ trivial
  refine ⟨n, _, h1, h2, h3, hpost _ _ _ _ _ _ ⟨Cond.after_iff.mpr rfl, Cond.after_iff.mpr (eq_i res_at (Term.int_eval (1)) rfl), trivial⟩ ⟨hq.1, hq.2.1, (hq.2.2.sift fun y hy => Or.inr (N y hy)).mono (by decide) (by decide)⟩⟩
theorem main_1_1 : Claimed_1_1 := comes_1 fun _ _ _ _ _ _ h hF => ⟨h.1, hF⟩
theorem main_1_2 : Claimed_1_2 := comes_1 fun _ _ _ _ _ _ h hF => ⟨h.2.1, hF⟩
end Jvm.Pilot.@@N@@
namespace Jvm.Pilot.@@N@@
open Jvm Jvm.ClassFile Sem Op Lib Jvm.Free Jvm.Stand Jvm.Pilot.@@N@@.Jvm.D
/-! MADE BY PROGRAM (witnessworld.py) out of the Statement's table words and the real class files: 30 classes; the members and pool entries that the words name. The judged class is class 1, her method 2. -/
namespace start1
open Jvm.ClassFile
def u (s : String) : CpInfo := .utf8 (stringToUtf16 s)
/-- a pool by its gaps: so many unusable entries, then the entry; so many at the end -/
def gap : Nat → List CpInfo → List CpInfo
  | 0, r => r
  | n + 1, r => .unusable :: gap n r
def poolList (es : List (Nat × CpInfo)) (last : Nat) : List CpInfo := es.foldr (fun e r => gap e.1 (e.2 :: r)) (gap last [])
def pool (es : List (Nat × CpInfo)) (last : Nat) : Array CpInfo := ⟨poolList es last⟩
def fileOf (pool : Array CpInfo) (this : Nat) (attrs : Array Attribute := #[]) (ms : Array MethodInfo := #[]) (fl : Nat := 33) (sup : Nat := 0) (ifs : Array Nat := #[]) (fds : Array FieldInfo := #[]) : ClassFile where
  minorVersion := 0
  majorVersion := 65
  constantPool := pool
  accessFlags := fl
  thisClass := this
  superClass := sup
  interfaces := ifs
  fields := fds
  methods := ms
  attributes := attrs
def plain (name : String) (sup : Option ClassId) : Class where
  name := name
  kind := .ordinary
  loader := none
  accessFlags := 33
  super := sup
  interfaces := #[]
  cf := none
  fields := #[]
  methods := #[]
  instanceTypes := #[]
  staticTypes := #[]
  resolved := #[]
  callSites := []
  init := .initialized
  statics := none
  mirror := none

def pool0 : Array CpInfo := pool [(5, u "<init>"), (0, u "()V"), (1, .class_ 10), (1, u "java/lang/Object")] 113

def k0c0 : Code := { maxStack := 0, maxLocals := 1, code := object_method_1_code, exceptionTable := #[], attributes := #[] }
def k0m0 : Method := { name := "<init>", desc := "()V", sig := { parameters := [], returnType := none }, accessFlags := 1, code := some k0c0 }
/-- java/lang/Object -/
def k0 : Class := { plain "java/lang/Object" none with
  accessFlags := 33
  interfaces := #[]
  cf := some (fileOf pool0 8 #[] #[{ accessFlags := 1, nameIndex := 5, descriptorIndex := 6, attributes := #[] }] 33 0 #[] #[])
  fields := #[]
  methods := #[k0m0]
  instanceTypes := #[]
  staticTypes := #[]
  resolved := Array.replicate 124 none
  statics := none }

def pool1 : Array CpInfo := pool [(2, .class_ 4), (0, .nameAndType 5 6), (0, u "java/lang/Object"), (0, u "<init>"), (0, u "()V"), (0, .methodref 8 9), (0, .class_ 10), (0, .nameAndType 11 12), (0, u "java/lang/String"), (0, u "valueOf"), (0, u "(C)Ljava/lang/String;"), (0, .class_ 14), (0, u "com/example/limpet/limpet/protocol/JoinGroup$Protocol"), (0, .methodref 13 16), (0, .nameAndType 5 17), (0, u "(Ljava/lang/String;[B)V"), (0, .class_ 19), (0, u "java/util/ArrayList"), (0, .methodref 18 3), (0, .interfaceMethodref 22 23), (0, .class_ 24), (0, .nameAndType 25 26), (0, u "java/util/List"), (0, u "add"), (0, u "(Ljava/lang/Object;)Z"), (0, .class_ 28), (0, u "com/example/limpet/limpet/group/Member"), (0, .methodref 27 30), (0, .nameAndType 5 31), (0, u "(Ljava/lang/String;Ljava/lang/String;)V"), (0, .fieldref 27 33), (0, .nameAndType 34 35), (0, u "generation"), (0, u "I"), (0, .fieldref 27 37), (0, .nameAndType 38 39), (0, u "assignment"), (0, u "[B"), (0, .fieldref 27 41), (0, .nameAndType 42 43), (0, u "protocols"), (0, u "Ljava/util/List;"), (0, .fieldref 27 45), (0, .nameAndType 46 35), (0, u "sessionTimeoutMs"), (0, .fieldref 27 48), (0, .nameAndType 49 35), (0, u "rebalanceTimeoutMs"), (0, .long 18446744073709551615), (1, .fieldref 27 53), (0, .nameAndType 54 55), (0, u "sessionDeadline"), (0, u "J"), (0, .methodref 27 57), (0, .nameAndType 58 59), (0, u "takeOver"), (0, u "(Lcom/example/limpet/limpet/group/Member;)V"), (0, .methodref 61 62), (0, .class_ 63), (0, .nameAndType 64 65), (0, u "com/example/limpet/limpet/group/MemberTakeOverPinLaw"), (0, u "sameAssignment"), (0, u "([BZBB)Z"), (0, .interfaceMethodref 22 67), (0, .nameAndType 68 69), (0, u "size"), (0, u "()I"), (0, .interfaceMethodref 22 71), (0, .nameAndType 72 73), (0, u "get"), (0, u "(I)Ljava/lang/Object;"), (0, .fieldref 27 75), (0, .nameAndType 76 77), (0, u "id"), (0, u "Ljava/lang/String;"), (0, .fieldref 27 79), (0, .nameAndType 80 77), (0, u "instanceId"), (0, .methodref 27 82), (0, .nameAndType 83 84), (0, u "isWaiting"), (0, u "()Z"), (3, u "law"), (0, u "(IIIIJI)Z")] 7

def k1m0 : Method := { name := "<init>", desc := "()V", sig := { parameters := [], returnType := none }, accessFlags := 2, code := none }
def k1c1 : Code := { maxStack := 2, maxLocals := 4, code := method_2_code, exceptionTable := #[], attributes := #[] }
def k1m1 : Method := { name := "sameAssignment", desc := "([BZBB)Z", sig := { parameters := [(.array .byte), .boolean, .byte, .byte], returnType := some .boolean }, accessFlags := 10, code := some k1c1 }
def k1c2 : Code := { maxStack := 8, maxLocals := 23, code := code, exceptionTable := #[], attributes := #[] }
def k1m2 : Method := { name := "law", desc := "(IIIIJI)Z", sig := { parameters := [.int, .int, .int, .int, .long, .int], returnType := some .boolean }, accessFlags := 9, code := some k1c2 }
/-- com/example/limpet/limpet/group/MemberTakeOverPinLaw -/
def k1 : Class := { plain "com/example/limpet/limpet/group/MemberTakeOverPinLaw" (some 0) with
  accessFlags := 49
  interfaces := #[]
  cf := some (fileOf pool1 61 #[] #[{ accessFlags := 2, nameIndex := 5, descriptorIndex := 6, attributes := #[] }, { accessFlags := 10, nameIndex := 64, descriptorIndex := 65, attributes := #[] }, { accessFlags := 9, nameIndex := 88, descriptorIndex := 89, attributes := #[] }] 49 2 #[] #[])
  fields := #[]
  methods := #[k1m0, k1m1, k1m2]
  instanceTypes := #[]
  staticTypes := #[]
  resolved := Array.replicate 97 none
  statics := none }

def pool2 : Array CpInfo := pool [(1, .class_ 2), (0, u "java/io/Serializable"), (0, .class_ 4), (0, u "java/lang/Object")] 2

/-- java/io/Serializable -/
def k2 : Class := { plain "java/io/Serializable" (some 0) with
  accessFlags := 1537
  interfaces := #[]
  cf := some (fileOf pool2 1 #[] #[] 1537 3 #[] #[])
  fields := #[]
  methods := #[]
  instanceTypes := #[]
  staticTypes := #[]
  resolved := Array.replicate 7 none
  statics := none }

def pool3 : Array CpInfo := pool [(1, .class_ 2), (0, u "java/lang/Comparable"), (0, .class_ 4), (0, u "java/lang/Object")] 7

/-- java/lang/Comparable -/
def k3 : Class := { plain "java/lang/Comparable" (some 0) with
  accessFlags := 1537
  interfaces := #[]
  cf := some (fileOf pool3 1 #[] #[] 1537 3 #[] #[])
  fields := #[]
  methods := #[]
  instanceTypes := #[]
  staticTypes := #[]
  resolved := Array.replicate 12 none
  statics := none }

def pool4 : Array CpInfo := pool [(2, .class_ 4), (1, u "java/lang/CharSequence"), (42, .class_ 48), (0, u "java/lang/CharSequence$1CodePointIterator"), (10, .class_ 60), (0, u "java/lang/CharSequence$1CharIterator"), (5, .class_ 67), (0, u "java/lang/Object")] 63

/-- java/lang/CharSequence -/
def k4 : Class := { plain "java/lang/CharSequence" (some 0) with
  accessFlags := 1537
  interfaces := #[]
  cf := some (fileOf pool4 2 #[.nestMembers #[47, 59]] #[] 1537 66 #[] #[])
  fields := #[]
  methods := #[]
  instanceTypes := #[]
  staticTypes := #[]
  resolved := Array.replicate 131 none
  statics := none }

def pool5 : Array CpInfo := pool [(1, .class_ 2), (0, u "java/lang/constant/Constable"), (0, .class_ 4), (0, u "java/lang/Object")] 6

/-- java/lang/constant/Constable -/
def k5 : Class := { plain "java/lang/constant/Constable" (some 0) with
  accessFlags := 1537
  interfaces := #[]
  cf := some (fileOf pool5 1 #[] #[] 1537 3 #[] #[])
  fields := #[]
  methods := #[]
  instanceTypes := #[]
  staticTypes := #[]
  resolved := Array.replicate 11 none
  statics := none }

def pool6 : Array CpInfo := pool [(1, .class_ 2), (0, u "java/lang/constant/ConstantDesc"), (0, .class_ 4), (0, u "java/lang/Object")] 32

/-- java/lang/constant/ConstantDesc -/
def k6 : Class := { plain "java/lang/constant/ConstantDesc" (some 0) with
  accessFlags := 1537
  interfaces := #[]
  cf := some (fileOf pool6 1 #[] #[] 1537 3 #[] #[])
  fields := #[]
  methods := #[]
  instanceTypes := #[]
  staticTypes := #[]
  resolved := Array.replicate 37 none
  statics := none }

def pool7 : Array CpInfo := pool [(1, .methodref 2 3), (0, .class_ 4), (0, .nameAndType 5 6), (0, u "java/lang/Object"), (0, u "<init>"), (0, u "()V"), (2, .fieldref 10 11), (0, .class_ 12), (0, .nameAndType 13 14), (0, u "java/lang/String"), (0, u "value"), (0, u "[B"), (0, .fieldref 10 16), (0, .nameAndType 17 18), (0, u "coder"), (0, u "B"), (2, u "hash"), (0, u "I"), (2, u "hashIsZero"), (0, u "Z"), (11, .fieldref 10 39), (0, .nameAndType 40 26), (0, u "COMPACT_STRINGS"), (12, u "toBytes"), (53, .class_ 109), (1, u "java/lang/StringLatin1"), (99, .methodref 10 210), (0, .nameAndType 5 211), (0, u "([BB)V"), (157, u "(C)Z"), (205, .class_ 576), (0, u "java/lang/CharSequence"), (22, u "CASE_INSENSITIVE_ORDER"), (0, u "Ljava/util/Comparator;"), (181, u "valueOf"), (0, u "(C)Ljava/lang/String;"), (231, .methodref 107 1016), (0, .nameAndType 1017 369), (0, u "canEncode"), (0, .methodref 107 1019), (0, .nameAndType 53 1020), (0, u "(C)[B"), (80, u "serialPersistentFields"), (0, u "[Ljava/io/ObjectStreamField;"), (0, .class_ 1104), (0, u "java/lang/String$CaseInsensitiveComparator"), (1, .class_ 1107), (0, u "java/io/Serializable"), (0, .class_ 1109), (0, u "java/lang/Comparable"), (0, .class_ 1111), (0, u "java/lang/constant/Constable"), (0, .class_ 1113), (0, u "java/lang/constant/ConstantDesc"), (2, u "serialVersionUID"), (0, u "J"), (3, u "REPL"), (0, u "C"), (2, u "LATIN1"), (1, u "UTF16")] 323

def k7m0 : Method := { name := "<init>", desc := "()V", sig := { parameters := [], returnType := none }, accessFlags := 1, code := none }
def k7c1 : Code := { maxStack := 4, maxLocals := 1, code := jdk_42_method_139_code, exceptionTable := #[], attributes := #[] }
def k7m1 : Method := { name := "valueOf", desc := "(C)Ljava/lang/String;", sig := { parameters := [.char], returnType := some (.object "java/lang/String") }, accessFlags := 9, code := some k7c1 }
def k7c2 : Code := { maxStack := 2, maxLocals := 3, code := jdk_42_method_151_code, exceptionTable := #[], attributes := #[] }
def k7m2 : Method := { name := "<init>", desc := "([BB)V", sig := { parameters := [(.array .byte), .byte], returnType := none }, accessFlags := 0, code := some k7c2 }
/-- java/lang/String -/
def k7 : Class := { plain "java/lang/String" (some 0) with
  accessFlags := 49
  interfaces := #[2, 3, 4, 5, 6]
  cf := some (fileOf pool7 10 #[.nestMembers #[1103]] #[{ accessFlags := 1, nameIndex := 5, descriptorIndex := 6, attributes := #[] }, { accessFlags := 9, nameIndex := 782, descriptorIndex := 783, attributes := #[] }, { accessFlags := 0, nameIndex := 5, descriptorIndex := 211, attributes := #[] }] 49 2 #[1106, 1108, 575, 1110, 1112] #[{ accessFlags := 18, nameIndex := 13, descriptorIndex := 14, attributes := #[] }, { accessFlags := 18, nameIndex := 17, descriptorIndex := 18, attributes := #[] }, { accessFlags := 2, nameIndex := 21, descriptorIndex := 22, attributes := #[] }, { accessFlags := 2, nameIndex := 25, descriptorIndex := 26, attributes := #[] }, { accessFlags := 26, nameIndex := 1116, descriptorIndex := 1117, attributes := #[] }, { accessFlags := 24, nameIndex := 40, descriptorIndex := 26, attributes := #[] }, { accessFlags := 26, nameIndex := 1101, descriptorIndex := 1102, attributes := #[] }, { accessFlags := 26, nameIndex := 1121, descriptorIndex := 1122, attributes := #[] }, { accessFlags := 25, nameIndex := 599, descriptorIndex := 600, attributes := #[] }, { accessFlags := 24, nameIndex := 1125, descriptorIndex := 18, attributes := #[] }, { accessFlags := 24, nameIndex := 1127, descriptorIndex := 18, attributes := #[] }])
  fields := #[{ name := "value", type := (.array .byte), accessFlags := 18, slot := 0, constantValue := 0 }, { name := "coder", type := .byte, accessFlags := 18, slot := 1, constantValue := 0 }, { name := "hash", type := .int, accessFlags := 2, slot := 2, constantValue := 0 }, { name := "hashIsZero", type := .boolean, accessFlags := 2, slot := 3, constantValue := 0 }, { name := "serialVersionUID", type := .long, accessFlags := 26, slot := 0, constantValue := 0 }, { name := "COMPACT_STRINGS", type := .boolean, accessFlags := 24, slot := 1, constantValue := 0 }, { name := "serialPersistentFields", type := (.array (.object "java/io/ObjectStreamField")), accessFlags := 26, slot := 2, constantValue := 0 }, { name := "REPL", type := .char, accessFlags := 26, slot := 3, constantValue := 0 }, { name := "CASE_INSENSITIVE_ORDER", type := (.object "java/util/Comparator"), accessFlags := 25, slot := 4, constantValue := 0 }, { name := "LATIN1", type := .byte, accessFlags := 24, slot := 5, constantValue := 0 }, { name := "UTF16", type := .byte, accessFlags := 24, slot := 6, constantValue := 0 }]
  methods := #[k7m0, k7m1, k7m2]
  instanceTypes := #[(.array .byte), .byte, .int, .boolean]
  staticTypes := #[.long, .boolean, (.array (.object "java/io/ObjectStreamField")), .char, (.object "java/util/Comparator"), .byte, .byte]
  resolved := Array.replicate 1451 none
  statics := some 0 }

def pool8 : Array CpInfo := pool [(4, .class_ 6), (1, u "java/lang/Object"), (0, u "<init>"), (0, u "()V"), (5, .class_ 16), (1, u "java/lang/StringLatin1"), (73, u "canEncode"), (14, u "(C)Z"), (15, u "$assertionsDisabled"), (0, u "Z"), (98, .class_ 223), (1, u "java/lang/StringLatin1$LinesSpliterator"), (156, u "toBytes"), (1, u "(C)[B"), (7, .class_ 391), (0, u "java/lang/StringLatin1$CharsSpliterator")] 3

def k8m0 : Method := { name := "<init>", desc := "()V", sig := { parameters := [], returnType := none }, accessFlags := 0, code := none }
def k8c1 : Code := { maxStack := 2, maxLocals := 1, code := jdk_43_method_3_code, exceptionTable := #[], attributes := #[] }
def k8m1 : Method := { name := "canEncode", desc := "(C)Z", sig := { parameters := [.char], returnType := some .boolean }, accessFlags := 9, code := some k8c1 }
def k8c2 : Code := { maxStack := 4, maxLocals := 1, code := jdk_43_method_46_code, exceptionTable := #[], attributes := #[] }
def k8m2 : Method := { name := "toBytes", desc := "(C)[B", sig := { parameters := [.char], returnType := some (.array .byte) }, accessFlags := 9, code := some k8c2 }
/-- java/lang/StringLatin1 -/
def k8 : Class := { plain "java/lang/StringLatin1" (some 0) with
  accessFlags := 48
  interfaces := #[]
  cf := some (fileOf pool8 14 #[.nestMembers #[390, 221]] #[{ accessFlags := 0, nameIndex := 7, descriptorIndex := 8, attributes := #[] }, { accessFlags := 9, nameIndex := 90, descriptorIndex := 105, attributes := #[] }, { accessFlags := 9, nameIndex := 380, descriptorIndex := 382, attributes := #[] }] 48 4 #[] #[{ accessFlags := 4120, nameIndex := 121, descriptorIndex := 122, attributes := #[] }])
  fields := #[{ name := "$assertionsDisabled", type := .boolean, accessFlags := 4120, slot := 0, constantValue := 0 }]
  methods := #[k8m0, k8m1, k8m2]
  instanceTypes := #[]
  staticTypes := #[.boolean]
  resolved := Array.replicate 395 none
  statics := none }

def pool9 : Array CpInfo := pool [(1, .methodref 2 3), (0, .class_ 4), (0, .nameAndType 5 6), (0, u "java/lang/Object"), (0, u "<init>"), (0, u "()V"), (0, .class_ 8), (0, u "java/lang/Record")] 13

def k9c0 : Code := { maxStack := 1, maxLocals := 1, code := jdk_30_method_1_code, exceptionTable := #[], attributes := #[] }
def k9m0 : Method := { name := "<init>", desc := "()V", sig := { parameters := [], returnType := none }, accessFlags := 4, code := some k9c0 }
/-- java/lang/Record -/
def k9 : Class := { plain "java/lang/Record" (some 0) with
  accessFlags := 1057
  interfaces := #[]
  cf := some (fileOf pool9 7 #[] #[{ accessFlags := 4, nameIndex := 5, descriptorIndex := 6, attributes := #[] }] 1057 2 #[] #[])
  fields := #[]
  methods := #[k9m0]
  instanceTypes := #[]
  staticTypes := #[]
  resolved := Array.replicate 22 none
  statics := none }

def pool10 : Array CpInfo := pool [(1, .methodref 2 3), (0, .class_ 4), (0, .nameAndType 5 6), (0, u "java/lang/Record"), (0, u "<init>"), (0, u "()V"), (0, .fieldref 8 9), (0, .class_ 10), (0, .nameAndType 11 12), (0, u "com/example/limpet/limpet/protocol/JoinGroup$Protocol"), (0, u "name"), (0, u "Ljava/lang/String;"), (0, .fieldref 8 14), (0, .nameAndType 15 16), (0, u "metadata"), (0, u "[B"), (22, u "(Ljava/lang/String;[B)V"), (9, .class_ 50), (0, u "com/example/limpet/limpet/protocol/JoinGroup")] 20

def k10c0 : Code := { maxStack := 2, maxLocals := 3, code := prog_32_method_1_code, exceptionTable := #[], attributes := #[] }
def k10m0 : Method := { name := "<init>", desc := "(Ljava/lang/String;[B)V", sig := { parameters := [(.object "java/lang/String"), (.array .byte)], returnType := none }, accessFlags := 1, code := some k10c0 }
/-- com/example/limpet/limpet/protocol/JoinGroup$Protocol -/
def k10 : Class := { plain "com/example/limpet/limpet/protocol/JoinGroup$Protocol" (some 9) with
  accessFlags := 49
  interfaces := #[]
  cf := some (fileOf pool10 8 #[.nestHost 49] #[{ accessFlags := 1, nameIndex := 5, descriptorIndex := 39, attributes := #[] }] 49 2 #[] #[{ accessFlags := 18, nameIndex := 11, descriptorIndex := 12, attributes := #[] }, { accessFlags := 18, nameIndex := 15, descriptorIndex := 16, attributes := #[] }])
  fields := #[{ name := "name", type := (.object "java/lang/String"), accessFlags := 18, slot := 0, constantValue := 0 }, { name := "metadata", type := (.array .byte), accessFlags := 18, slot := 1, constantValue := 0 }]
  methods := #[k10m0]
  instanceTypes := #[(.object "java/lang/String"), (.array .byte)]
  staticTypes := #[]
  resolved := Array.replicate 71 none
  statics := none }

def pool11 : Array CpInfo := pool [(8, .class_ 10), (1, u "java/lang/Iterable"), (24, .class_ 36), (0, u "java/lang/Object")] 25

/-- java/lang/Iterable -/
def k11 : Class := { plain "java/lang/Iterable" (some 0) with
  accessFlags := 1537
  interfaces := #[]
  cf := some (fileOf pool11 8 #[] #[] 1537 35 #[] #[])
  fields := #[]
  methods := #[]
  instanceTypes := #[]
  staticTypes := #[]
  resolved := Array.replicate 62 none
  statics := none }

def pool12 : Array CpInfo := pool [(10, .class_ 12), (1, u "java/util/Collection"), (47, .class_ 61), (0, u "java/lang/Object"), (0, .class_ 63), (0, u "java/lang/Iterable")] 51

/-- java/util/Collection -/
def k12 : Class := { plain "java/util/Collection" (some 0) with
  accessFlags := 1537
  interfaces := #[11]
  cf := some (fileOf pool12 10 #[] #[] 1537 60 #[62] #[])
  fields := #[]
  methods := #[]
  instanceTypes := #[]
  staticTypes := #[]
  resolved := Array.replicate 115 none
  statics := none }

def pool13 : Array CpInfo := pool [(1, .methodref 2 3), (0, .class_ 4), (0, .nameAndType 5 6), (0, u "java/lang/Object"), (0, u "<init>"), (0, u "()V"), (1, .class_ 10), (1, u "java/util/AbstractCollection"), (66, .class_ 78), (0, u "java/util/Collection")] 81

def k13c0 : Code := { maxStack := 1, maxLocals := 1, code := jdk_22_method_1_code, exceptionTable := #[], attributes := #[] }
def k13m0 : Method := { name := "<init>", desc := "()V", sig := { parameters := [], returnType := none }, accessFlags := 4, code := some k13c0 }
/-- java/util/AbstractCollection -/
def k13 : Class := { plain "java/util/AbstractCollection" (some 0) with
  accessFlags := 1057
  interfaces := #[12]
  cf := some (fileOf pool13 8 #[] #[{ accessFlags := 4, nameIndex := 5, descriptorIndex := 6, attributes := #[] }] 1057 2 #[77] #[])
  fields := #[]
  methods := #[k13m0]
  instanceTypes := #[]
  staticTypes := #[]
  resolved := Array.replicate 160 none
  statics := none }

def pool14 : Array CpInfo := pool [(8, .class_ 10), (1, u "java/util/SequencedCollection"), (15, .class_ 27), (0, u "java/lang/Object"), (0, .class_ 29), (0, u "java/util/Collection")] 27

/-- java/util/SequencedCollection -/
def k14 : Class := { plain "java/util/SequencedCollection" (some 0) with
  accessFlags := 1537
  interfaces := #[12]
  cf := some (fileOf pool14 8 #[] #[] 1537 26 #[28] #[])
  fields := #[]
  methods := #[]
  instanceTypes := #[]
  staticTypes := #[]
  resolved := Array.replicate 57 none
  statics := none }

def pool15 : Array CpInfo := pool [(8, .class_ 10), (1, u "java/util/List"), (49, u "add"), (3, u "(Ljava/lang/Object;)Z"), (10, u "get"), (0, u "(I)Ljava/lang/Object;"), (2, u "size"), (0, u "()I"), (22, .class_ 104), (0, u "java/lang/Object"), (15, .class_ 121), (0, u "java/util/SequencedCollection")] 129

def k15m0 : Method := { name := "size", desc := "()I", sig := { parameters := [], returnType := some .int }, accessFlags := 1025, code := none }
def k15m1 : Method := { name := "add", desc := "(Ljava/lang/Object;)Z", sig := { parameters := [(.object "java/lang/Object")], returnType := some .boolean }, accessFlags := 1025, code := none }
def k15m2 : Method := { name := "get", desc := "(I)Ljava/lang/Object;", sig := { parameters := [.int], returnType := some (.object "java/lang/Object") }, accessFlags := 1025, code := none }
/-- java/util/List -/
def k15 : Class := { plain "java/util/List" (some 0) with
  accessFlags := 1537
  interfaces := #[14]
  cf := some (fileOf pool15 8 #[] #[{ accessFlags := 1025, nameIndex := 79, descriptorIndex := 80, attributes := #[] }, { accessFlags := 1025, nameIndex := 60, descriptorIndex := 64, attributes := #[] }, { accessFlags := 1025, nameIndex := 75, descriptorIndex := 76, attributes := #[] }] 1537 103 #[120] #[])
  fields := #[]
  methods := #[k15m0, k15m1, k15m2]
  instanceTypes := #[]
  staticTypes := #[]
  resolved := Array.replicate 251 none
  statics := none }

def pool16 : Array CpInfo := pool [(1, .methodref 2 3), (0, .class_ 4), (0, .nameAndType 5 6), (0, u "java/util/AbstractCollection"), (0, u "<init>"), (0, u "()V"), (0, .fieldref 8 9), (0, .class_ 10), (0, .nameAndType 11 12), (0, u "java/util/AbstractList"), (0, u "modCount"), (0, u "I"), (64, .class_ 78), (0, u "java/util/AbstractList$Itr"), (3, .class_ 83), (0, u "java/util/AbstractList$ListItr"), (9, .class_ 94), (0, u "java/util/AbstractList$RandomAccessSubList"), (3, .class_ 99), (0, u "java/util/AbstractList$SubList"), (33, .class_ 134), (0, u "java/util/List"), (73, .class_ 209), (0, u "java/util/AbstractList$SubList$1"), (0, .class_ 211), (0, u "java/util/AbstractList$RandomAccessSpliterator")] 6

def k16c0 : Code := { maxStack := 2, maxLocals := 1, code := jdk_39_method_1_code, exceptionTable := #[], attributes := #[] }
def k16m0 : Method := { name := "<init>", desc := "()V", sig := { parameters := [], returnType := none }, accessFlags := 4, code := some k16c0 }
/-- java/util/AbstractList -/
def k16 : Class := { plain "java/util/AbstractList" (some 13) with
  accessFlags := 1057
  interfaces := #[15]
  cf := some (fileOf pool16 8 #[.nestMembers #[93, 98, 208, 210, 82, 77]] #[{ accessFlags := 4, nameIndex := 5, descriptorIndex := 6, attributes := #[] }] 1057 2 #[133] #[{ accessFlags := 132, nameIndex := 11, descriptorIndex := 12, attributes := #[] }])
  fields := #[{ name := "modCount", type := .int, accessFlags := 132, slot := 0, constantValue := 0 }]
  methods := #[k16m0]
  instanceTypes := #[.int]
  staticTypes := #[]
  resolved := Array.replicate 218 none
  statics := none }

def pool17 : Array CpInfo := pool [(1, .class_ 2), (0, u "java/util/RandomAccess"), (0, .class_ 4), (0, u "java/lang/Object")] 2

/-- java/util/RandomAccess -/
def k17 : Class := { plain "java/util/RandomAccess" (some 0) with
  accessFlags := 1537
  interfaces := #[]
  cf := some (fileOf pool17 1 #[] #[] 1537 3 #[] #[])
  fields := #[]
  methods := #[]
  instanceTypes := #[]
  staticTypes := #[]
  resolved := Array.replicate 7 none
  statics := none }

def pool18 : Array CpInfo := pool [(1, .class_ 2), (0, u "java/lang/Cloneable"), (0, .class_ 4), (0, u "java/lang/Object")] 2

/-- java/lang/Cloneable -/
def k18 : Class := { plain "java/lang/Cloneable" (some 0) with
  accessFlags := 1537
  interfaces := #[]
  cf := some (fileOf pool18 1 #[] #[] 1537 3 #[] #[])
  fields := #[]
  methods := #[]
  instanceTypes := #[]
  staticTypes := #[]
  resolved := Array.replicate 7 none
  statics := none }

def pool19 : Array CpInfo := pool [(1, .methodref 2 3), (0, .class_ 4), (0, .nameAndType 5 6), (0, u "java/util/AbstractList"), (0, u "<init>"), (0, u "()V"), (0, .class_ 8), (0, u "java/lang/Object"), (0, .fieldref 10 11), (0, .class_ 12), (0, .nameAndType 13 14), (0, u "java/util/ArrayList"), (0, u "elementData"), (0, u "[Ljava/lang/Object;"), (2, u "EMPTY_ELEMENTDATA"), (21, .fieldref 10 40), (0, .nameAndType 41 14), (0, u "DEFAULTCAPACITY_EMPTY_ELEMENTDATA"), (5, u "()[Ljava/lang/Object;"), (0, .fieldref 10 49), (0, .nameAndType 50 51), (0, u "size"), (0, u "I"), (11, .fieldref 10 64), (0, .nameAndType 65 51), (0, u "modCount"), (3, .methodref 10 70), (0, .nameAndType 71 72), (0, u "grow"), (0, u "(I)[Ljava/lang/Object;"), (6, .methodref 80 81), (0, .class_ 82), (0, .nameAndType 83 84), (0, u "java/lang/Math"), (0, u "max"), (0, u "(II)I"), (11, u "(Ljava/lang/Object;)Z"), (21, .methodref 119 120), (0, .class_ 121), (0, .nameAndType 122 84), (0, u "java/util/Objects"), (0, u "checkIndex"), (0, .methodref 10 124), (0, .nameAndType 13 125), (0, u "(I)Ljava/lang/Object;"), (3, .methodref 10 130), (0, .nameAndType 71 47), (0, .methodref 10 132), (0, .nameAndType 133 134), (0, u "add"), (0, u "(Ljava/lang/Object;[Ljava/lang/Object;I)V"), (13, .class_ 149), (0, u "java/util/List"), (36, u "()I"), (75, .class_ 263), (0, u "java/util/ArrayList$ListItr"), (3, .class_ 268), (0, u "java/util/ArrayList$Itr"), (7, .class_ 277), (0, u "java/util/ArrayList$SubList"), (12, .class_ 291), (0, u "java/util/ArrayList$ArrayListSpliterator"), (37, .class_ 330), (0, u "java/util/RandomAccess"), (0, .class_ 332), (0, u "java/lang/Cloneable"), (0, .class_ 334), (0, u "java/io/Serializable"), (0, u "serialVersionUID"), (0, u "J"), (3, u "DEFAULT_CAPACITY"), (40, u "get"), (118, .class_ 501), (0, u "java/util/ArrayList$SubList$2"), (0, .class_ 503), (0, u "java/util/ArrayList$SubList$1")] 5

def k19c0 : Code := { maxStack := 2, maxLocals := 1, code := jdk_38_method_2_code, exceptionTable := #[], attributes := #[] }
def k19m0 : Method := { name := "<init>", desc := "()V", sig := { parameters := [], returnType := none }, accessFlags := 1, code := some k19c0 }
def k19c1 : Code := { maxStack := 4, maxLocals := 4, code := jdk_38_method_6_code, exceptionTable := #[], attributes := #[] }
def k19m1 : Method := { name := "grow", desc := "(I)[Ljava/lang/Object;", sig := { parameters := [.int], returnType := some (.array (.object "java/lang/Object")) }, accessFlags := 2, code := some k19c1 }
def k19c2 : Code := { maxStack := 3, maxLocals := 1, code := jdk_38_method_7_code, exceptionTable := #[], attributes := #[] }
def k19m2 : Method := { name := "grow", desc := "()[Ljava/lang/Object;", sig := { parameters := [], returnType := some (.array (.object "java/lang/Object")) }, accessFlags := 2, code := some k19c2 }
def k19c3 : Code := { maxStack := 1, maxLocals := 1, code := jdk_38_method_8_code, exceptionTable := #[], attributes := #[] }
def k19m3 : Method := { name := "size", desc := "()I", sig := { parameters := [], returnType := some .int }, accessFlags := 1, code := some k19c3 }
def k19c4 : Code := { maxStack := 2, maxLocals := 2, code := jdk_38_method_18_code, exceptionTable := #[], attributes := #[] }
def k19m4 : Method := { name := "elementData", desc := "(I)Ljava/lang/Object;", sig := { parameters := [.int], returnType := some (.object "java/lang/Object") }, accessFlags := 0, code := some k19c4 }
def k19c5 : Code := { maxStack := 2, maxLocals := 2, code := jdk_38_method_20_code, exceptionTable := #[], attributes := #[] }
def k19m5 : Method := { name := "get", desc := "(I)Ljava/lang/Object;", sig := { parameters := [.int], returnType := some (.object "java/lang/Object") }, accessFlags := 1, code := some k19c5 }
def k19c6 : Code := { maxStack := 3, maxLocals := 4, code := jdk_38_method_24_code, exceptionTable := #[], attributes := #[] }
def k19m6 : Method := { name := "add", desc := "(Ljava/lang/Object;[Ljava/lang/Object;I)V", sig := { parameters := [(.object "java/lang/Object"), (.array (.object "java/lang/Object")), .int], returnType := none }, accessFlags := 2, code := some k19c6 }
def k19c7 : Code := { maxStack := 4, maxLocals := 2, code := jdk_38_method_25_code, exceptionTable := #[], attributes := #[] }
def k19m7 : Method := { name := "add", desc := "(Ljava/lang/Object;)Z", sig := { parameters := [(.object "java/lang/Object")], returnType := some .boolean }, accessFlags := 1, code := some k19c7 }
/-- java/util/ArrayList -/
def k19 : Class := { plain "java/util/ArrayList" (some 16) with
  accessFlags := 33
  interfaces := #[15, 17, 18, 2]
  cf := some (fileOf pool19 10 #[.nestMembers #[290, 276, 500, 502, 262, 267]] #[{ accessFlags := 1, nameIndex := 5, descriptorIndex := 6, attributes := #[] }, { accessFlags := 2, nameIndex := 71, descriptorIndex := 72, attributes := #[] }, { accessFlags := 2, nameIndex := 71, descriptorIndex := 47, attributes := #[] }, { accessFlags := 1, nameIndex := 50, descriptorIndex := 186, attributes := #[] }, { accessFlags := 0, nameIndex := 13, descriptorIndex := 125, attributes := #[] }, { accessFlags := 1, nameIndex := 381, descriptorIndex := 125, attributes := #[] }, { accessFlags := 2, nameIndex := 133, descriptorIndex := 134, attributes := #[] }, { accessFlags := 1, nameIndex := 133, descriptorIndex := 96, attributes := #[] }] 33 2 #[148, 329, 331, 333] #[{ accessFlags := 26, nameIndex := 335, descriptorIndex := 336, attributes := #[] }, { accessFlags := 26, nameIndex := 340, descriptorIndex := 51, attributes := #[] }, { accessFlags := 26, nameIndex := 17, descriptorIndex := 14, attributes := #[] }, { accessFlags := 26, nameIndex := 41, descriptorIndex := 14, attributes := #[] }, { accessFlags := 128, nameIndex := 13, descriptorIndex := 14, attributes := #[] }, { accessFlags := 2, nameIndex := 50, descriptorIndex := 51, attributes := #[] }])
  fields := #[{ name := "serialVersionUID", type := .long, accessFlags := 26, slot := 0, constantValue := 0 }, { name := "DEFAULT_CAPACITY", type := .int, accessFlags := 26, slot := 1, constantValue := 0 }, { name := "EMPTY_ELEMENTDATA", type := (.array (.object "java/lang/Object")), accessFlags := 26, slot := 2, constantValue := 0 }, { name := "DEFAULTCAPACITY_EMPTY_ELEMENTDATA", type := (.array (.object "java/lang/Object")), accessFlags := 26, slot := 3, constantValue := 0 }, { name := "elementData", type := (.array (.object "java/lang/Object")), accessFlags := 128, slot := 1, constantValue := 0 }, { name := "size", type := .int, accessFlags := 2, slot := 2, constantValue := 0 }]
  methods := #[k19m0, k19m1, k19m2, k19m3, k19m4, k19m5, k19m6, k19m7]
  instanceTypes := #[.int, (.array (.object "java/lang/Object")), .int]
  staticTypes := #[.long, .int, (.array (.object "java/lang/Object")), (.array (.object "java/lang/Object"))]
  resolved := Array.replicate 509 none
  statics := some 1 }

def pool20 : Array CpInfo := pool [(1, .class_ 2), (0, u "java/lang/Math"), (1, .class_ 6), (1, u "java/lang/Object"), (0, u "<init>"), (0, u "()V"), (89, .class_ 100), (1, u "java/lang/Math$RandomNumberGeneratorHolder"), (71, u "negativeZeroFloatBits"), (0, u "J"), (2, u "negativeZeroDoubleBits"), (21, u "max"), (46, u "$assertionsDisabled"), (0, u "Z"), (88, u "(II)I"), (2, u "twoToTheDoubleScaleDown"), (0, u "D"), (4, u "twoToTheDoubleScaleUp"), (9, u "E"), (3, u "PI"), (2, u "TAU"), (2, u "DEGREES_TO_RADIANS"), (0, u "RADIANS_TO_DEGREES")] 94

def k20m0 : Method := { name := "<init>", desc := "()V", sig := { parameters := [], returnType := none }, accessFlags := 2, code := none }
def k20c1 : Code := { maxStack := 2, maxLocals := 2, code := jdk_29_method_65_code, exceptionTable := #[], attributes := #[] }
def k20m1 : Method := { name := "max", desc := "(II)I", sig := { parameters := [.int, .int], returnType := some .int }, accessFlags := 9, code := some k20c1 }
/-- java/lang/Math -/
def k20 : Class := { plain "java/lang/Math" (some 0) with
  accessFlags := 49
  interfaces := #[]
  cf := some (fileOf pool20 1 #[.nestMembers #[98]] #[{ accessFlags := 2, nameIndex := 7, descriptorIndex := 8, attributes := #[] }, { accessFlags := 9, nameIndex := 198, descriptorIndex := 335, attributes := #[] }] 49 4 #[] #[{ accessFlags := 25, nameIndex := 354, descriptorIndex := 339, attributes := #[] }, { accessFlags := 25, nameIndex := 358, descriptorIndex := 339, attributes := #[] }, { accessFlags := 25, nameIndex := 361, descriptorIndex := 339, attributes := #[] }, { accessFlags := 26, nameIndex := 364, descriptorIndex := 339, attributes := #[] }, { accessFlags := 26, nameIndex := 365, descriptorIndex := 339, attributes := #[] }, { accessFlags := 26, nameIndex := 172, descriptorIndex := 173, attributes := #[] }, { accessFlags := 26, nameIndex := 176, descriptorIndex := 173, attributes := #[] }, { accessFlags := 8, nameIndex := 344, descriptorIndex := 339, attributes := #[] }, { accessFlags := 8, nameIndex := 338, descriptorIndex := 339, attributes := #[] }, { accessFlags := 4120, nameIndex := 245, descriptorIndex := 246, attributes := #[] }])
  fields := #[{ name := "E", type := .double, accessFlags := 25, slot := 0, constantValue := 0 }, { name := "PI", type := .double, accessFlags := 25, slot := 1, constantValue := 0 }, { name := "TAU", type := .double, accessFlags := 25, slot := 2, constantValue := 0 }, { name := "DEGREES_TO_RADIANS", type := .double, accessFlags := 26, slot := 3, constantValue := 0 }, { name := "RADIANS_TO_DEGREES", type := .double, accessFlags := 26, slot := 4, constantValue := 0 }, { name := "negativeZeroFloatBits", type := .long, accessFlags := 26, slot := 5, constantValue := 0 }, { name := "negativeZeroDoubleBits", type := .long, accessFlags := 26, slot := 6, constantValue := 0 }, { name := "twoToTheDoubleScaleUp", type := .double, accessFlags := 8, slot := 7, constantValue := 0 }, { name := "twoToTheDoubleScaleDown", type := .double, accessFlags := 8, slot := 8, constantValue := 0 }, { name := "$assertionsDisabled", type := .boolean, accessFlags := 4120, slot := 9, constantValue := 0 }]
  methods := #[k20m0, k20m1]
  instanceTypes := #[]
  staticTypes := #[.double, .double, .double, .double, .double, .long, .long, .double, .double, .boolean]
  resolved := Array.replicate 460 none
  statics := none }

def pool21 : Array CpInfo := pool [(1, .methodref 2 3), (0, .class_ 4), (0, .nameAndType 5 6), (0, u "java/lang/Object"), (0, u "<init>"), (0, u "()V"), (0, .fieldref 8 9), (0, .class_ 10), (0, .nameAndType 11 12), (0, u "com/example/limpet/limpet/group/Member"), (0, u "assignment"), (0, u "[B"), (0, .fieldref 8 14), (0, .nameAndType 15 16), (0, u "id"), (0, u "Ljava/lang/String;"), (0, .fieldref 8 18), (0, .nameAndType 19 16), (0, u "instanceId"), (0, .fieldref 8 21), (0, .nameAndType 22 23), (0, u "protocols"), (0, u "Ljava/util/List;"), (0, .fieldref 8 25), (0, .nameAndType 26 27), (0, u "generation"), (0, u "I"), (11, u "sessionTimeoutMs"), (5, u "rebalanceTimeoutMs"), (41, u "sessionDeadline"), (0, u "J"), (0, .fieldref 8 90), (0, .nameAndType 91 92), (0, u "pendingJoin"), (0, u "Ljava/util/function/Consumer;"), (0, .fieldref 8 94), (0, .nameAndType 95 92), (0, u "pendingSync"), (49, u "(Ljava/lang/String;Ljava/lang/String;)V"), (2, u "takeOver"), (0, u "(Lcom/example/limpet/limpet/group/Member;)V"), (4, u "isWaiting"), (0, u "()Z")] 44

def k21c0 : Code := { maxStack := 2, maxLocals := 3, code := prog_8_method_1_code, exceptionTable := #[], attributes := #[] }
def k21m0 : Method := { name := "<init>", desc := "(Ljava/lang/String;Ljava/lang/String;)V", sig := { parameters := [(.object "java/lang/String"), (.object "java/lang/String")], returnType := none }, accessFlags := 0, code := some k21c0 }
def k21c1 : Code := { maxStack := 2, maxLocals := 2, code := prog_8_method_2_code, exceptionTable := #[], attributes := #[] }
def k21m1 : Method := { name := "takeOver", desc := "(Lcom/example/limpet/limpet/group/Member;)V", sig := { parameters := [(.object "com/example/limpet/limpet/group/Member")], returnType := none }, accessFlags := 0, code := some k21c1 }
def k21c2 : Code := { maxStack := 1, maxLocals := 1, code := prog_8_method_8_code, exceptionTable := #[], attributes := #[] }
def k21m2 : Method := { name := "isWaiting", desc := "()Z", sig := { parameters := [], returnType := some .boolean }, accessFlags := 0, code := some k21c2 }
/-- com/example/limpet/limpet/group/Member -/
def k21 : Class := { plain "com/example/limpet/limpet/group/Member" (some 0) with
  accessFlags := 48
  interfaces := #[]
  cf := some (fileOf pool21 8 #[] #[{ accessFlags := 0, nameIndex := 5, descriptorIndex := 145, attributes := #[] }, { accessFlags := 0, nameIndex := 148, descriptorIndex := 149, attributes := #[] }, { accessFlags := 0, nameIndex := 154, descriptorIndex := 155, attributes := #[] }] 48 2 #[] #[{ accessFlags := 16, nameIndex := 15, descriptorIndex := 16, attributes := #[] }, { accessFlags := 16, nameIndex := 19, descriptorIndex := 16, attributes := #[] }, { accessFlags := 0, nameIndex := 39, descriptorIndex := 27, attributes := #[] }, { accessFlags := 0, nameIndex := 45, descriptorIndex := 27, attributes := #[] }, { accessFlags := 0, nameIndex := 22, descriptorIndex := 23, attributes := #[] }, { accessFlags := 0, nameIndex := 11, descriptorIndex := 12, attributes := #[] }, { accessFlags := 0, nameIndex := 26, descriptorIndex := 27, attributes := #[] }, { accessFlags := 0, nameIndex := 87, descriptorIndex := 88, attributes := #[] }, { accessFlags := 2, nameIndex := 91, descriptorIndex := 92, attributes := #[] }, { accessFlags := 2, nameIndex := 95, descriptorIndex := 92, attributes := #[] }])
  fields := #[{ name := "id", type := (.object "java/lang/String"), accessFlags := 16, slot := 0, constantValue := 0 }, { name := "instanceId", type := (.object "java/lang/String"), accessFlags := 16, slot := 1, constantValue := 0 }, { name := "sessionTimeoutMs", type := .int, accessFlags := 0, slot := 2, constantValue := 0 }, { name := "rebalanceTimeoutMs", type := .int, accessFlags := 0, slot := 3, constantValue := 0 }, { name := "protocols", type := (.object "java/util/List"), accessFlags := 0, slot := 4, constantValue := 0 }, { name := "assignment", type := (.array .byte), accessFlags := 0, slot := 5, constantValue := 0 }, { name := "generation", type := .int, accessFlags := 0, slot := 6, constantValue := 0 }, { name := "sessionDeadline", type := .long, accessFlags := 0, slot := 7, constantValue := 0 }, { name := "pendingJoin", type := (.object "java/util/function/Consumer"), accessFlags := 2, slot := 8, constantValue := 0 }, { name := "pendingSync", type := (.object "java/util/function/Consumer"), accessFlags := 2, slot := 9, constantValue := 0 }]
  methods := #[k21m0, k21m1, k21m2]
  instanceTypes := #[(.object "java/lang/String"), (.object "java/lang/String"), .int, .int, (.object "java/util/List"), (.array .byte), .int, .long, (.object "java/util/function/Consumer"), (.object "java/util/function/Consumer")]
  staticTypes := #[]
  resolved := Array.replicate 200 none
  statics := none }

def pool22 : Array CpInfo := pool [(2, .class_ 4), (1, u "java/lang/Object"), (0, u "<init>"), (0, u "()V"), (35, .class_ 44), (1, u "java/util/Objects"), (60, .methodref 106 107), (0, .class_ 108), (0, .nameAndType 109 110), (0, u "jdk/internal/util/Preconditions"), (0, u "checkIndex"), (0, u "(IILjava/util/function/BiFunction;)I"), (60, u "(II)I")] 12

def k22m0 : Method := { name := "<init>", desc := "()V", sig := { parameters := [], returnType := none }, accessFlags := 2, code := none }
def k22c1 : Code := { maxStack := 3, maxLocals := 2, code := jdk_31_method_17_code, exceptionTable := #[], attributes := #[] }
def k22m1 : Method := { name := "checkIndex", desc := "(II)I", sig := { parameters := [.int, .int], returnType := some .int }, accessFlags := 9, code := some k22c1 }
/-- java/util/Objects -/
def k22 : Class := { plain "java/util/Objects" (some 0) with
  accessFlags := 49
  interfaces := #[]
  cf := some (fileOf pool22 42 #[] #[{ accessFlags := 2, nameIndex := 5, descriptorIndex := 6, attributes := #[] }, { accessFlags := 9, nameIndex := 109, descriptorIndex := 171, attributes := #[] }] 49 2 #[] #[])
  fields := #[]
  methods := #[k22m0, k22m1]
  instanceTypes := #[]
  staticTypes := #[]
  resolved := Array.replicate 184 none
  statics := none }

def pool23 : Array CpInfo := pool [(2, .class_ 4), (1, u "java/lang/Object"), (0, u "<init>"), (0, u "()V"), (17, .class_ 26), (1, u "jdk/internal/util/Preconditions"), (6, u "checkIndex"), (21, .class_ 56), (0, u "jdk/internal/util/Preconditions$4"), (57, .class_ 115), (0, u "jdk/internal/util/Preconditions$1"), (7, u "SIOOBE_FORMATTER"), (0, u "Ljava/util/function/BiFunction;"), (0, .class_ 126), (0, u "jdk/internal/util/Preconditions$2"), (3, u "AIOOBE_FORMATTER"), (0, .class_ 132), (0, u "jdk/internal/util/Preconditions$3"), (3, u "IOOBE_FORMATTER"), (41, u "(IILjava/util/function/BiFunction;)I")] 15

def k23m0 : Method := { name := "<init>", desc := "()V", sig := { parameters := [], returnType := none }, accessFlags := 1, code := none }
def k23c1 : Code := { maxStack := 3, maxLocals := 3, code := jdk_41_method_11_code, exceptionTable := #[], attributes := #[] }
def k23m1 : Method := { name := "checkIndex", desc := "(IILjava/util/function/BiFunction;)I", sig := { parameters := [.int, .int, (.object "java/util/function/BiFunction")], returnType := some .int }, accessFlags := 9, code := some k23c1 }
/-- jdk/internal/util/Preconditions -/
def k23 : Class := { plain "jdk/internal/util/Preconditions" (some 0) with
  accessFlags := 33
  interfaces := #[]
  cf := some (fileOf pool23 24 #[.nestMembers #[55, 131, 125, 114]] #[{ accessFlags := 1, nameIndex := 5, descriptorIndex := 6, attributes := #[] }, { accessFlags := 9, nameIndex := 33, descriptorIndex := 178, attributes := #[] }] 33 2 #[] #[{ accessFlags := 25, nameIndex := 123, descriptorIndex := 124, attributes := #[] }, { accessFlags := 25, nameIndex := 130, descriptorIndex := 124, attributes := #[] }, { accessFlags := 25, nameIndex := 136, descriptorIndex := 124, attributes := #[] }])
  fields := #[{ name := "SIOOBE_FORMATTER", type := (.object "java/util/function/BiFunction"), accessFlags := 25, slot := 0, constantValue := 0 }, { name := "AIOOBE_FORMATTER", type := (.object "java/util/function/BiFunction"), accessFlags := 25, slot := 1, constantValue := 0 }, { name := "IOOBE_FORMATTER", type := (.object "java/util/function/BiFunction"), accessFlags := 25, slot := 2, constantValue := 0 }]
  methods := #[k23m0, k23m1]
  instanceTypes := #[]
  staticTypes := #[(.object "java/util/function/BiFunction"), (.object "java/util/function/BiFunction"), (.object "java/util/function/BiFunction")]
  resolved := Array.replicate 194 none
  statics := some 2 }

def pool24 : Array CpInfo := pool [(9, u "<init>"), (6, .class_ 18), (1, u "java/lang/Object"), (0, u "()V"), (1, .class_ 23), (1, u "jdk/internal/util/ArraysSupport"), (0, u "LOG2_ARRAY_LONG_INDEX_SCALE"), (0, u "I"), (2, u "U"), (0, u "Ljdk/internal/misc/Unsafe;"), (8, u "BIG_ENDIAN"), (0, u "Z"), (8, u "LOG2_BYTE_BIT_SIZE"), (4, u "LOG2_ARRAY_INT_INDEX_SCALE"), (54, u "JLA"), (0, u "Ljdk/internal/access/JavaLangAccess;"), (11, u "LOG2_ARRAY_BOOLEAN_INDEX_SCALE"), (9, u "LOG2_ARRAY_BYTE_INDEX_SCALE"), (5, u "LOG2_ARRAY_CHAR_INDEX_SCALE"), (5, u "LOG2_ARRAY_SHORT_INDEX_SCALE"), (18, u "LOG2_ARRAY_FLOAT_INDEX_SCALE"), (24, u "LOG2_ARRAY_DOUBLE_INDEX_SCALE"), (89, u "T_BOOLEAN"), (2, u "T_CHAR"), (1, u "T_FLOAT"), (1, u "T_DOUBLE"), (1, u "T_BYTE"), (1, u "T_SHORT"), (1, u "T_INT"), (1, u "T_LONG"), (1, u "SOFT_MAX_ARRAY_LENGTH")] 83

def k24m0 : Method := { name := "<init>", desc := "()V", sig := { parameters := [], returnType := none }, accessFlags := 2, code := none }
/-- jdk/internal/util/ArraysSupport -/
def k24 : Class := { plain "jdk/internal/util/ArraysSupport" (some 0) with
  accessFlags := 33
  interfaces := #[]
  cf := some (fileOf pool24 21 #[] #[{ accessFlags := 2, nameIndex := 9, descriptorIndex := 19, attributes := #[] }] 33 16 #[] #[{ accessFlags := 24, nameIndex := 28, descriptorIndex := 29, attributes := #[] }, { accessFlags := 26, nameIndex := 38, descriptorIndex := 39, attributes := #[] }, { accessFlags := 25, nameIndex := 121, descriptorIndex := 25, attributes := #[] }, { accessFlags := 25, nameIndex := 131, descriptorIndex := 25, attributes := #[] }, { accessFlags := 25, nameIndex := 137, descriptorIndex := 25, attributes := #[] }, { accessFlags := 25, nameIndex := 143, descriptorIndex := 25, attributes := #[] }, { accessFlags := 25, nameIndex := 53, descriptorIndex := 25, attributes := #[] }, { accessFlags := 25, nameIndex := 24, descriptorIndex := 25, attributes := #[] }, { accessFlags := 25, nameIndex := 162, descriptorIndex := 25, attributes := #[] }, { accessFlags := 25, nameIndex := 187, descriptorIndex := 25, attributes := #[] }, { accessFlags := 26, nameIndex := 48, descriptorIndex := 25, attributes := #[] }, { accessFlags := 25, nameIndex := 277, descriptorIndex := 25, attributes := #[] }, { accessFlags := 25, nameIndex := 280, descriptorIndex := 25, attributes := #[] }, { accessFlags := 25, nameIndex := 282, descriptorIndex := 25, attributes := #[] }, { accessFlags := 25, nameIndex := 284, descriptorIndex := 25, attributes := #[] }, { accessFlags := 25, nameIndex := 286, descriptorIndex := 25, attributes := #[] }, { accessFlags := 25, nameIndex := 288, descriptorIndex := 25, attributes := #[] }, { accessFlags := 25, nameIndex := 290, descriptorIndex := 25, attributes := #[] }, { accessFlags := 25, nameIndex := 292, descriptorIndex := 25, attributes := #[] }, { accessFlags := 26, nameIndex := 108, descriptorIndex := 109, attributes := #[] }, { accessFlags := 25, nameIndex := 294, descriptorIndex := 25, attributes := #[] }])
  fields := #[{ name := "U", type := (.object "jdk/internal/misc/Unsafe"), accessFlags := 24, slot := 0, constantValue := 0 }, { name := "BIG_ENDIAN", type := .boolean, accessFlags := 26, slot := 1, constantValue := 0 }, { name := "LOG2_ARRAY_BOOLEAN_INDEX_SCALE", type := .int, accessFlags := 25, slot := 2, constantValue := 0 }, { name := "LOG2_ARRAY_BYTE_INDEX_SCALE", type := .int, accessFlags := 25, slot := 3, constantValue := 0 }, { name := "LOG2_ARRAY_CHAR_INDEX_SCALE", type := .int, accessFlags := 25, slot := 4, constantValue := 0 }, { name := "LOG2_ARRAY_SHORT_INDEX_SCALE", type := .int, accessFlags := 25, slot := 5, constantValue := 0 }, { name := "LOG2_ARRAY_INT_INDEX_SCALE", type := .int, accessFlags := 25, slot := 6, constantValue := 0 }, { name := "LOG2_ARRAY_LONG_INDEX_SCALE", type := .int, accessFlags := 25, slot := 7, constantValue := 0 }, { name := "LOG2_ARRAY_FLOAT_INDEX_SCALE", type := .int, accessFlags := 25, slot := 8, constantValue := 0 }, { name := "LOG2_ARRAY_DOUBLE_INDEX_SCALE", type := .int, accessFlags := 25, slot := 9, constantValue := 0 }, { name := "LOG2_BYTE_BIT_SIZE", type := .int, accessFlags := 26, slot := 10, constantValue := 0 }, { name := "T_BOOLEAN", type := .int, accessFlags := 25, slot := 11, constantValue := 0 }, { name := "T_CHAR", type := .int, accessFlags := 25, slot := 12, constantValue := 0 }, { name := "T_FLOAT", type := .int, accessFlags := 25, slot := 13, constantValue := 0 }, { name := "T_DOUBLE", type := .int, accessFlags := 25, slot := 14, constantValue := 0 }, { name := "T_BYTE", type := .int, accessFlags := 25, slot := 15, constantValue := 0 }, { name := "T_SHORT", type := .int, accessFlags := 25, slot := 16, constantValue := 0 }, { name := "T_INT", type := .int, accessFlags := 25, slot := 17, constantValue := 0 }, { name := "T_LONG", type := .int, accessFlags := 25, slot := 18, constantValue := 0 }, { name := "JLA", type := (.object "jdk/internal/access/JavaLangAccess"), accessFlags := 26, slot := 19, constantValue := 0 }, { name := "SOFT_MAX_ARRAY_LENGTH", type := .int, accessFlags := 25, slot := 20, constantValue := 0 }]
  methods := #[k24m0]
  instanceTypes := #[]
  staticTypes := #[(.object "jdk/internal/misc/Unsafe"), .boolean, .int, .int, .int, .int, .int, .int, .int, .int, .int, .int, .int, .int, .int, .int, .int, .int, .int, (.object "jdk/internal/access/JavaLangAccess"), .int]
  resolved := Array.replicate 378 none
  statics := none }

/-- the primitive byte -/
def k25 : Class := { plain "byte" none with kind := .primitive 'B', accessFlags := 0x411 }
/-- [B -/
def k26 : Class := { plain "[B" (some 0) with kind := .array 25 .byte, interfaces := #[18, 2], accessFlags := 1041 }

/-- the primitive int -/
def k27 : Class := { plain "int" none with kind := .primitive 'I', accessFlags := 0x411 }
/-- [I -/
def k28 : Class := { plain "[I" (some 0) with kind := .array 27 .int, interfaces := #[18, 2], accessFlags := 1041 }

/-- [Ljava/lang/Object; -/
def k29 : Class := { plain "[Ljava/lang/Object;" (some 0) with kind := .array 0 (.object "java/lang/Object"), interfaces := #[18, 2], accessFlags := 1041 }

def heap : Heap := #[{ cls := 7, slots := #[.long 0, .int 1, .null, .int 0, .null, .int 0, .int 0], vm := .statics 7 },
  { cls := 19, slots := #[.long 0, .int 0, .ref 3, .ref 4], vm := .statics 19 },
  { cls := 23, slots := #[.null, .null, .null], vm := .statics 23 },
  { cls := 29, slots := #[], vm := .none },
  { cls := 29, slots := #[], vm := .none }]
def classes : Array Class := #[k0, k1, k2, k3, k4, k5, k6, k7, k8, k9, k10, k11, k12, k13, k14, k15, k16, k17, k18, k19, k20, k21, k22, k23, k24, k25, k26, k27, k28, k29]
def interned : List (Array UInt16 × Addr) := []
def slotsUsed : Nat := 14
def theMethod : MethodId := ⟨1, 2⟩
def args0 : Array Value := #[.int 5, .int 5, .int 5, .int 5, .long 5, .int 5]
def aboutOver (below : List Frame) : State where
  vm := { classes := classes, interned := interned.toArray }
  heap := heap
  slotsUsed := slotsUsed
  threads := #[{ frames := .invoking theMethod args0 :: below }]
def below0 : List Frame := [.native { method := ⟨0, 0⟩, args := #[] }]
def about1 : State := aboutOver below0
def p0 : Program := .bare "" "" ""
def e0 : Env := launch0.env 0 0 0
theorem w_frames : about1.frames = Frame.invoking theMethod args0 :: below0 := rfl
set_option maxRecDepth 65536 in
theorem w_args : argsFit about1.vm theMethod args0 = true := by decide +kernel
set_option maxRecDepth 65536 in
theorem w_heap : heapFits about1 = true := by decide +kernel
set_option maxRecDepth 65536 in
theorem w_runnable : about1.curStatus? = some .runnable := by decide +kernel
set_option maxRecDepth 65536 in
theorem w_alone : about1.alone = true := by decide +kernel
set_option maxRecDepth 65536 in
theorem w_named : about1.methodNamed? x = some theMethod := by decide +kernel
set_option maxRecDepth 65536 in
theorem w_hears : about1.hears theMethod below0 = true := by decide +kernel
set_option maxRecDepth 65536 in
theorem w_ripe : about1.ripe theMethod args0 below0 = true := by decide +kernel
theorem w_running : about1.status = .running := rfl
set_option maxRecDepth 65536 in
theorem w_room : about1.hasRoom e0.platform room_1 = true :=
  launch0.hasRoom_least _ room_1 (by decide +kernel) (by decide +kernel) (by decide +kernel) (by decide +kernel) (by decide +kernel) (by decide +kernel)
theorem allAtoms_all (ts : List Jvm.Cond) (a : Array Jvm.Value) (st : Jvm.State) : (allAtoms ts).before a st = ts.all (fun c => c.before a st) := by
  induction ts with
  | nil => rfl
  | cons c t ih =>
    show (Jvm.Cond.and c (allAtoms t)).before a st = _
    rw [Jvm.Cond.before_and, ih, List.all_cons]
def words1 : List Jvm.Cond := Jvm.Cond.code x code maxLocals ret :: tables_1
/-- a 'code' word, met by the world's own term for the bytes: nothing is compared byte by byte -/
theorem code_word {y : MethodName} {bytes : ByteArray} {mx : Nat} {rt : Option FieldType} {a : Array Value} {s : State} {m : MethodId} {meth : Method} {c : Code} (h1 : s.methodNamed? y = some m) (h2 : s.vm.method? m = some meth) (h3 : meth.code = some c) (h4 : c.code = bytes)
    (h5 : (c.maxLocals == mx && c.exceptionTable.isEmpty && decide (c.maxStack ≤ mostOperands) && decide (meth.sig.returnType = rt) && !meth.locks && decide (parseMethodDescriptor y.desc = some meth.sig)) = true) : (Jvm.Cond.code y bytes mx rt).before a s = true := by
  simp only [Bool.and_eq_true, beq_iff_eq, Bool.not_eq_true', decide_eq_true_eq] at h5
  obtain ⟨⟨⟨⟨⟨g1, g2⟩, g3⟩, g4⟩, g5⟩, g6⟩ := h5
  simp [Cond.before, Cond.holds, Cond.value, h1, h2, h3, h4, g1, g2, g3, g4, g5, g6]
def isCode : Jvm.Cond → Bool
  | .code _ _ _ _ => true
  | _ => false
theorem all_split {L : List Jvm.Cond} {P : Jvm.Cond → Bool} (h1 : L.all (fun c => isCode c || P c) = true) (h2 : ∀ c ∈ L.filter isCode, P c = true) : L.all P = true := by
  refine List.all_eq_true.mpr fun c hc => ?_
  have h := List.all_eq_true.mp h1 c hc
  rcases Bool.eq_false_or_eq_true (isCode c) with hi | hi
  · exact h2 c (List.mem_filter.mpr ⟨hc, hi⟩)
  · simpa [hi] using h
set_option maxRecDepth 65536 in
theorem w_c0 : (Jvm.Cond.code x code maxLocals ret).before args0 about1 = true := code_word (m := ⟨1, 2⟩) (meth := k1m2) (c := k1c2) (by decide +kernel) rfl rfl rfl (by decide +kernel)
set_option maxRecDepth 65536 in
theorem w_c1 : (Jvm.Cond.code ({ cls := "java/lang/String", name := "valueOf", desc := "(C)Ljava/lang/String;" } : Jvm.MethodName) jdk_42_method_139_code (1 : Nat) (Option.some (Jvm.ClassFile.FieldType.object "java/lang/String"))).before args0 about1 = true := code_word (m := ⟨7, 1⟩) (meth := k7m1) (c := k7c1) (by decide +kernel) rfl rfl rfl (by decide +kernel)
set_option maxRecDepth 65536 in
theorem w_c2 : (Jvm.Cond.code ({ cls := "java/lang/StringLatin1", name := "canEncode", desc := "(C)Z" } : Jvm.MethodName) jdk_43_method_3_code (1 : Nat) (Option.some Jvm.ClassFile.FieldType.boolean)).before args0 about1 = true := code_word (m := ⟨8, 1⟩) (meth := k8m1) (c := k8c1) (by decide +kernel) rfl rfl rfl (by decide +kernel)
set_option maxRecDepth 65536 in
theorem w_c3 : (Jvm.Cond.code ({ cls := "java/lang/StringLatin1", name := "toBytes", desc := "(C)[B" } : Jvm.MethodName) jdk_43_method_46_code (1 : Nat) (Option.some (Jvm.ClassFile.FieldType.array Jvm.ClassFile.FieldType.byte))).before args0 about1 = true := code_word (m := ⟨8, 2⟩) (meth := k8m2) (c := k8c2) (by decide +kernel) rfl rfl rfl (by decide +kernel)
set_option maxRecDepth 65536 in
theorem w_c4 : (Jvm.Cond.code ({ cls := "java/lang/String", name := "<init>", desc := "([BB)V" } : Jvm.MethodName) jdk_42_method_151_code (3 : Nat) (Option.none : Option Jvm.ClassFile.FieldType)).before args0 about1 = true := code_word (m := ⟨7, 2⟩) (meth := k7m2) (c := k7c2) (by decide +kernel) rfl rfl rfl (by decide +kernel)
set_option maxRecDepth 65536 in
theorem w_c5 : (Jvm.Cond.code ({ cls := "java/lang/Object", name := "<init>", desc := "()V" } : Jvm.MethodName) object_method_1_code (1 : Nat) (Option.none : Option Jvm.ClassFile.FieldType)).before args0 about1 = true := code_word (m := ⟨0, 0⟩) (meth := k0m0) (c := k0c0) (by decide +kernel) rfl rfl rfl (by decide +kernel)
set_option maxRecDepth 65536 in
theorem w_c6 : (Jvm.Cond.code ({ cls := "com/example/limpet/limpet/protocol/JoinGroup$Protocol", name := "<init>", desc := "(Ljava/lang/String;[B)V" } : Jvm.MethodName) prog_32_method_1_code (3 : Nat) (Option.none : Option Jvm.ClassFile.FieldType)).before args0 about1 = true := code_word (m := ⟨10, 0⟩) (meth := k10m0) (c := k10c0) (by decide +kernel) rfl rfl rfl (by decide +kernel)
set_option maxRecDepth 65536 in
theorem w_c7 : (Jvm.Cond.code ({ cls := "java/lang/Record", name := "<init>", desc := "()V" } : Jvm.MethodName) jdk_30_method_1_code (1 : Nat) (Option.none : Option Jvm.ClassFile.FieldType)).before args0 about1 = true := code_word (m := ⟨9, 0⟩) (meth := k9m0) (c := k9c0) (by decide +kernel) rfl rfl rfl (by decide +kernel)
set_option maxRecDepth 65536 in
theorem w_c8 : (Jvm.Cond.code ({ cls := "java/util/ArrayList", name := "<init>", desc := "()V" } : Jvm.MethodName) jdk_38_method_2_code (1 : Nat) (Option.none : Option Jvm.ClassFile.FieldType)).before args0 about1 = true := code_word (m := ⟨19, 0⟩) (meth := k19m0) (c := k19c0) (by decide +kernel) rfl rfl rfl (by decide +kernel)
set_option maxRecDepth 65536 in
theorem w_c9 : (Jvm.Cond.code ({ cls := "java/util/AbstractList", name := "<init>", desc := "()V" } : Jvm.MethodName) jdk_39_method_1_code (1 : Nat) (Option.none : Option Jvm.ClassFile.FieldType)).before args0 about1 = true := code_word (m := ⟨16, 0⟩) (meth := k16m0) (c := k16c0) (by decide +kernel) rfl rfl rfl (by decide +kernel)
set_option maxRecDepth 65536 in
theorem w_c10 : (Jvm.Cond.code ({ cls := "java/util/AbstractCollection", name := "<init>", desc := "()V" } : Jvm.MethodName) jdk_22_method_1_code (1 : Nat) (Option.none : Option Jvm.ClassFile.FieldType)).before args0 about1 = true := code_word (m := ⟨13, 0⟩) (meth := k13m0) (c := k13c0) (by decide +kernel) rfl rfl rfl (by decide +kernel)
set_option maxRecDepth 65536 in
theorem w_c11 : (Jvm.Cond.code ({ cls := "java/util/ArrayList", name := "add", desc := "(Ljava/lang/Object;)Z" } : Jvm.MethodName) jdk_38_method_25_code (2 : Nat) (Option.some Jvm.ClassFile.FieldType.boolean)).before args0 about1 = true := code_word (m := ⟨19, 7⟩) (meth := k19m7) (c := k19c7) (by decide +kernel) rfl rfl rfl (by decide +kernel)
set_option maxRecDepth 65536 in
theorem w_c12 : (Jvm.Cond.code ({ cls := "java/util/ArrayList", name := "add", desc := "(Ljava/lang/Object;[Ljava/lang/Object;I)V" } : Jvm.MethodName) jdk_38_method_24_code (4 : Nat) (Option.none : Option Jvm.ClassFile.FieldType)).before args0 about1 = true := code_word (m := ⟨19, 6⟩) (meth := k19m6) (c := k19c6) (by decide +kernel) rfl rfl rfl (by decide +kernel)
set_option maxRecDepth 65536 in
theorem w_c13 : (Jvm.Cond.code ({ cls := "java/util/ArrayList", name := "grow", desc := "()[Ljava/lang/Object;" } : Jvm.MethodName) jdk_38_method_7_code (1 : Nat) (Option.some (Jvm.ClassFile.FieldType.array (Jvm.ClassFile.FieldType.object "java/lang/Object")))).before args0 about1 = true := code_word (m := ⟨19, 2⟩) (meth := k19m2) (c := k19c2) (by decide +kernel) rfl rfl rfl (by decide +kernel)
set_option maxRecDepth 65536 in
theorem w_c14 : (Jvm.Cond.code ({ cls := "java/util/ArrayList", name := "grow", desc := "(I)[Ljava/lang/Object;" } : Jvm.MethodName) jdk_38_method_6_code (4 : Nat) (Option.some (Jvm.ClassFile.FieldType.array (Jvm.ClassFile.FieldType.object "java/lang/Object")))).before args0 about1 = true := code_word (m := ⟨19, 1⟩) (meth := k19m1) (c := k19c1) (by decide +kernel) rfl rfl rfl (by decide +kernel)
set_option maxRecDepth 65536 in
theorem w_c15 : (Jvm.Cond.code ({ cls := "java/lang/Math", name := "max", desc := "(II)I" } : Jvm.MethodName) jdk_29_method_65_code (2 : Nat) (Option.some Jvm.ClassFile.FieldType.int)).before args0 about1 = true := code_word (m := ⟨20, 1⟩) (meth := k20m1) (c := k20c1) (by decide +kernel) rfl rfl rfl (by decide +kernel)
set_option maxRecDepth 65536 in
theorem w_c16 : (Jvm.Cond.code ({ cls := "com/example/limpet/limpet/group/Member", name := "<init>", desc := "(Ljava/lang/String;Ljava/lang/String;)V" } : Jvm.MethodName) prog_8_method_1_code (3 : Nat) (Option.none : Option Jvm.ClassFile.FieldType)).before args0 about1 = true := code_word (m := ⟨21, 0⟩) (meth := k21m0) (c := k21c0) (by decide +kernel) rfl rfl rfl (by decide +kernel)
set_option maxRecDepth 65536 in
theorem w_c17 : (Jvm.Cond.code ({ cls := "com/example/limpet/limpet/group/Member", name := "takeOver", desc := "(Lcom/example/limpet/limpet/group/Member;)V" } : Jvm.MethodName) prog_8_method_2_code (2 : Nat) (Option.none : Option Jvm.ClassFile.FieldType)).before args0 about1 = true := code_word (m := ⟨21, 1⟩) (meth := k21m1) (c := k21c1) (by decide +kernel) rfl rfl rfl (by decide +kernel)
set_option maxRecDepth 65536 in
theorem w_c18 : (Jvm.Cond.code ({ cls := "com/example/limpet/limpet/group/MemberTakeOverPinLaw", name := "sameAssignment", desc := "([BZBB)Z" } : Jvm.MethodName) method_2_code (4 : Nat) (Option.some Jvm.ClassFile.FieldType.boolean)).before args0 about1 = true := code_word (m := ⟨1, 1⟩) (meth := k1m1) (c := k1c1) (by decide +kernel) rfl rfl rfl (by decide +kernel)
set_option maxRecDepth 65536 in
theorem w_c19 : (Jvm.Cond.code ({ cls := "java/util/ArrayList", name := "size", desc := "()I" } : Jvm.MethodName) jdk_38_method_8_code (1 : Nat) (Option.some Jvm.ClassFile.FieldType.int)).before args0 about1 = true := code_word (m := ⟨19, 3⟩) (meth := k19m3) (c := k19c3) (by decide +kernel) rfl rfl rfl (by decide +kernel)
set_option maxRecDepth 65536 in
theorem w_c20 : (Jvm.Cond.code ({ cls := "java/util/ArrayList", name := "get", desc := "(I)Ljava/lang/Object;" } : Jvm.MethodName) jdk_38_method_20_code (2 : Nat) (Option.some (Jvm.ClassFile.FieldType.object "java/lang/Object"))).before args0 about1 = true := code_word (m := ⟨19, 5⟩) (meth := k19m5) (c := k19c5) (by decide +kernel) rfl rfl rfl (by decide +kernel)
set_option maxRecDepth 65536 in
theorem w_c21 : (Jvm.Cond.code ({ cls := "java/util/Objects", name := "checkIndex", desc := "(II)I" } : Jvm.MethodName) jdk_31_method_17_code (2 : Nat) (Option.some Jvm.ClassFile.FieldType.int)).before args0 about1 = true := code_word (m := ⟨22, 1⟩) (meth := k22m1) (c := k22c1) (by decide +kernel) rfl rfl rfl (by decide +kernel)
set_option maxRecDepth 65536 in
theorem w_c22 : (Jvm.Cond.code ({ cls := "jdk/internal/util/Preconditions", name := "checkIndex", desc := "(IILjava/util/function/BiFunction;)I" } : Jvm.MethodName) jdk_41_method_11_code (3 : Nat) (Option.some Jvm.ClassFile.FieldType.int)).before args0 about1 = true := code_word (m := ⟨23, 1⟩) (meth := k23m1) (c := k23c1) (by decide +kernel) rfl rfl rfl (by decide +kernel)
set_option maxRecDepth 65536 in
theorem w_c23 : (Jvm.Cond.code ({ cls := "java/util/ArrayList", name := "elementData", desc := "(I)Ljava/lang/Object;" } : Jvm.MethodName) jdk_38_method_18_code (2 : Nat) (Option.some (Jvm.ClassFile.FieldType.object "java/lang/Object"))).before args0 about1 = true := code_word (m := ⟨19, 4⟩) (meth := k19m4) (c := k19c4) (by decide +kernel) rfl rfl rfl (by decide +kernel)
set_option maxRecDepth 65536 in
theorem w_c24 : (Jvm.Cond.code ({ cls := "com/example/limpet/limpet/group/Member", name := "isWaiting", desc := "()Z" } : Jvm.MethodName) prog_8_method_8_code (1 : Nat) (Option.some Jvm.ClassFile.FieldType.boolean)).before args0 about1 = true := code_word (m := ⟨21, 2⟩) (meth := k21m2) (c := k21c2) (by decide +kernel) rfl rfl rfl (by decide +kernel)
def codes1 : List Jvm.Cond := [Jvm.Cond.code x code maxLocals ret, Jvm.Cond.code ({ cls := "java/lang/String", name := "valueOf", desc := "(C)Ljava/lang/String;" } : Jvm.MethodName) jdk_42_method_139_code (1 : Nat) (Option.some (Jvm.ClassFile.FieldType.object "java/lang/String")), Jvm.Cond.code ({ cls := "java/lang/StringLatin1", name := "canEncode", desc := "(C)Z" } : Jvm.MethodName) jdk_43_method_3_code (1 : Nat) (Option.some Jvm.ClassFile.FieldType.boolean), Jvm.Cond.code ({ cls := "java/lang/StringLatin1", name := "toBytes", desc := "(C)[B" } : Jvm.MethodName) jdk_43_method_46_code (1 : Nat) (Option.some (Jvm.ClassFile.FieldType.array Jvm.ClassFile.FieldType.byte)), Jvm.Cond.code ({ cls := "java/lang/String", name := "<init>", desc := "([BB)V" } : Jvm.MethodName) jdk_42_method_151_code (3 : Nat) (Option.none : Option Jvm.ClassFile.FieldType), Jvm.Cond.code ({ cls := "java/lang/Object", name := "<init>", desc := "()V" } : Jvm.MethodName) object_method_1_code (1 : Nat) (Option.none : Option Jvm.ClassFile.FieldType), Jvm.Cond.code ({ cls := "com/example/limpet/limpet/protocol/JoinGroup$Protocol", name := "<init>", desc := "(Ljava/lang/String;[B)V" } : Jvm.MethodName) prog_32_method_1_code (3 : Nat) (Option.none : Option Jvm.ClassFile.FieldType), Jvm.Cond.code ({ cls := "java/lang/Record", name := "<init>", desc := "()V" } : Jvm.MethodName) jdk_30_method_1_code (1 : Nat) (Option.none : Option Jvm.ClassFile.FieldType), Jvm.Cond.code ({ cls := "java/util/ArrayList", name := "<init>", desc := "()V" } : Jvm.MethodName) jdk_38_method_2_code (1 : Nat) (Option.none : Option Jvm.ClassFile.FieldType), Jvm.Cond.code ({ cls := "java/util/AbstractList", name := "<init>", desc := "()V" } : Jvm.MethodName) jdk_39_method_1_code (1 : Nat) (Option.none : Option Jvm.ClassFile.FieldType), Jvm.Cond.code ({ cls := "java/util/AbstractCollection", name := "<init>", desc := "()V" } : Jvm.MethodName) jdk_22_method_1_code (1 : Nat) (Option.none : Option Jvm.ClassFile.FieldType), Jvm.Cond.code ({ cls := "java/util/ArrayList", name := "add", desc := "(Ljava/lang/Object;)Z" } : Jvm.MethodName) jdk_38_method_25_code (2 : Nat) (Option.some Jvm.ClassFile.FieldType.boolean), Jvm.Cond.code ({ cls := "java/util/ArrayList", name := "add", desc := "(Ljava/lang/Object;[Ljava/lang/Object;I)V" } : Jvm.MethodName) jdk_38_method_24_code (4 : Nat) (Option.none : Option Jvm.ClassFile.FieldType), Jvm.Cond.code ({ cls := "java/util/ArrayList", name := "grow", desc := "()[Ljava/lang/Object;" } : Jvm.MethodName) jdk_38_method_7_code (1 : Nat) (Option.some (Jvm.ClassFile.FieldType.array (Jvm.ClassFile.FieldType.object "java/lang/Object"))), Jvm.Cond.code ({ cls := "java/util/ArrayList", name := "grow", desc := "(I)[Ljava/lang/Object;" } : Jvm.MethodName) jdk_38_method_6_code (4 : Nat) (Option.some (Jvm.ClassFile.FieldType.array (Jvm.ClassFile.FieldType.object "java/lang/Object"))), Jvm.Cond.code ({ cls := "java/lang/Math", name := "max", desc := "(II)I" } : Jvm.MethodName) jdk_29_method_65_code (2 : Nat) (Option.some Jvm.ClassFile.FieldType.int), Jvm.Cond.code ({ cls := "com/example/limpet/limpet/group/Member", name := "<init>", desc := "(Ljava/lang/String;Ljava/lang/String;)V" } : Jvm.MethodName) prog_8_method_1_code (3 : Nat) (Option.none : Option Jvm.ClassFile.FieldType), Jvm.Cond.code ({ cls := "com/example/limpet/limpet/group/Member", name := "takeOver", desc := "(Lcom/example/limpet/limpet/group/Member;)V" } : Jvm.MethodName) prog_8_method_2_code (2 : Nat) (Option.none : Option Jvm.ClassFile.FieldType), Jvm.Cond.code ({ cls := "com/example/limpet/limpet/group/MemberTakeOverPinLaw", name := "sameAssignment", desc := "([BZBB)Z" } : Jvm.MethodName) method_2_code (4 : Nat) (Option.some Jvm.ClassFile.FieldType.boolean), Jvm.Cond.code ({ cls := "java/util/ArrayList", name := "size", desc := "()I" } : Jvm.MethodName) jdk_38_method_8_code (1 : Nat) (Option.some Jvm.ClassFile.FieldType.int), Jvm.Cond.code ({ cls := "java/util/ArrayList", name := "get", desc := "(I)Ljava/lang/Object;" } : Jvm.MethodName) jdk_38_method_20_code (2 : Nat) (Option.some (Jvm.ClassFile.FieldType.object "java/lang/Object")), Jvm.Cond.code ({ cls := "java/util/Objects", name := "checkIndex", desc := "(II)I" } : Jvm.MethodName) jdk_31_method_17_code (2 : Nat) (Option.some Jvm.ClassFile.FieldType.int), Jvm.Cond.code ({ cls := "jdk/internal/util/Preconditions", name := "checkIndex", desc := "(IILjava/util/function/BiFunction;)I" } : Jvm.MethodName) jdk_41_method_11_code (3 : Nat) (Option.some Jvm.ClassFile.FieldType.int), Jvm.Cond.code ({ cls := "java/util/ArrayList", name := "elementData", desc := "(I)Ljava/lang/Object;" } : Jvm.MethodName) jdk_38_method_18_code (2 : Nat) (Option.some (Jvm.ClassFile.FieldType.object "java/lang/Object")), Jvm.Cond.code ({ cls := "com/example/limpet/limpet/group/Member", name := "isWaiting", desc := "()Z" } : Jvm.MethodName) prog_8_method_8_code (1 : Nat) (Option.some Jvm.ClassFile.FieldType.boolean)]
set_option maxRecDepth 65536 in
theorem codes_eq : words1.filter isCode = codes1 := rfl
theorem w_codes : ∀ c ∈ words1.filter isCode, c.before args0 about1 = true := by
  rw [codes_eq]
  intro c hc
  simp only [codes1, List.mem_cons, List.not_mem_nil, or_false] at hc
  rcases hc with rfl | rfl | rfl | rfl | rfl | rfl | rfl | rfl | rfl | rfl | rfl | rfl | rfl | rfl | rfl | rfl | rfl | rfl | rfl | rfl | rfl | rfl | rfl | rfl | rfl
  · exact w_c0
  · exact w_c1
  · exact w_c2
  · exact w_c3
  · exact w_c4
  · exact w_c5
  · exact w_c6
  · exact w_c7
  · exact w_c8
  · exact w_c9
  · exact w_c10
  · exact w_c11
  · exact w_c12
  · exact w_c13
  · exact w_c14
  · exact w_c15
  · exact w_c16
  · exact w_c17
  · exact w_c18
  · exact w_c19
  · exact w_c20
  · exact w_c21
  · exact w_c22
  · exact w_c23
  · exact w_c24
set_option maxRecDepth 65536 in
theorem w_t1 : (words1.take 24).all (fun c => isCode c || c.before args0 about1) = true := by decide +kernel
set_option maxRecDepth 65536 in
theorem w_t2 : ((words1.drop 24).take 24).all (fun c => isCode c || c.before args0 about1) = true := by decide +kernel
set_option maxRecDepth 65536 in
theorem w_t3 : (((words1.drop 24).drop 24).take 24).all (fun c => isCode c || c.before args0 about1) = true := by decide +kernel
set_option maxRecDepth 65536 in
theorem w_t4 : ((((words1.drop 24).drop 24).drop 24).take 24).all (fun c => isCode c || c.before args0 about1) = true := by decide +kernel
set_option maxRecDepth 65536 in
theorem w_t5 : (((((words1.drop 24).drop 24).drop 24).drop 24).take 24).all (fun c => isCode c || c.before args0 about1) = true := by decide +kernel
set_option maxRecDepth 65536 in
theorem w_t6 : ((((((words1.drop 24).drop 24).drop 24).drop 24).drop 24).take 24).all (fun c => isCode c || c.before args0 about1) = true := by decide +kernel
set_option maxRecDepth 65536 in
theorem w_t7 : (((((((words1.drop 24).drop 24).drop 24).drop 24).drop 24).drop 24).take 24).all (fun c => isCode c || c.before args0 about1) = true := by decide +kernel
set_option maxRecDepth 65536 in
theorem w_t8 : (((((((words1.drop 24).drop 24).drop 24).drop 24).drop 24).drop 24).drop 24).all (fun c => isCode c || c.before args0 about1) = true := by decide +kernel
theorem w_tables : (allAtoms (Jvm.Cond.code x code maxLocals ret :: tables_1)).before args0 about1 = true := by
  rw [allAtoms_all]
  show words1.all (fun c => c.before args0 about1) = true
  refine all_split ?_ w_codes
  rw [← List.take_append_drop 24 words1, List.all_append, w_t1, ← List.take_append_drop 24 (words1.drop 24), List.all_append, w_t2, ← List.take_append_drop 24 ((words1.drop 24).drop 24), List.all_append, w_t3, ← List.take_append_drop 24 (((words1.drop 24).drop 24).drop 24), List.all_append, w_t4, ← List.take_append_drop 24 ((((words1.drop 24).drop 24).drop 24).drop 24), List.all_append, w_t5, ← List.take_append_drop 24 (((((words1.drop 24).drop 24).drop 24).drop 24).drop 24), List.all_append, w_t6, ← List.take_append_drop 24 ((((((words1.drop 24).drop 24).drop 24).drop 24).drop 24).drop 24), List.all_append, w_t7, w_t8]
  rfl
set_option maxRecDepth 65536 in
theorem w_rest : rest_1_c.before args0 about1 = true := by decide +kernel
set_option maxRecDepth 65536 in
theorem w_case : (Jvm.Cond.and given_1 narrow_1).before args0 about1 = true := by decide +kernel
theorem w_applies : (headSpec (Jvm.Cond.code x code maxLocals ret :: tables_1) room_1).applies x e0.platform about1 = true :=
  (Spec.applies_iff w_frames).mpr ⟨w_running, w_runnable, w_alone, w_named, w_hears, w_ripe, w_room, w_tables⟩
theorem atStart : AtStart classFile x code maxLocals ret World_1 tables_1 room_1 Calls_1 rest_1 Pre_1 launch0 p0 e0 about1 theMethod args0 below0 :=
  ⟨lists_1, trivial, launch0.admits_env _ _ _, launch0.least_env, fairChoices_fair.cas, fairChoices_fair.clock, w_frames, w_args, w_heap, w_applies, trivial, w_rest, w_case⟩
end start1
theorem witness_1 : WitnessClaimed_1 := ⟨start1.p0, start1.e0, start1.about1, start1.theMethod, start1.args0, start1.below0, start1.atStart⟩
end Jvm.Pilot.@@N@@
