import JvmDerived
import JvmDerived.Pilot.@@N@@Statement
import JvmDerived.Pilot.@@N@@Code
set_option linter.unusedVariables false
set_option linter.unusedSimpArgs false
namespace Jvm.RoadKit
open Sem ClassFile Op Lib Jvm.Stand Jvm.Free Jvm.LawKit
section New
variable {p : Program} {l : Launch} {e : Env} {R : Room} {s : State} {m : MethodId} {args : Array Value} {below : List Frame} {meth : Method} {c : Code} {T : State} {locs : List Loc} {cells slots : Nat}
theorem retI (X : Stand p l e R s m args below meth c T locs cells slots) (hx : p.tables.exec = Jvm.exec) {pc : Nat} {Ls : Array Slot} {z : Int32} {rest : List Value} (hret : meth.sig.returnType = some .int) (hd : decode c.code pc = .ok (.ireturn, 1)) {fs : List Frame}
    (hl : ∀ (f : JFrame) (acts : List Action), f.method = m → f.locked = none → f.entered = [] → (doReturn e (T.setTop f) acts (some (.int z))).1 = T.setFrames fs) : Steps p.tables e below (T.setTop (mkF m pc Ls (.int z :: rest))) (T.setFrames fs) := by
  have hm' : T.vm.method? m = some meth := X.method'
  have hn : narrow .int (.int z) = .int z := rfl
  show Steps p.tables e below (T.setTop { method := m, pc := pc, locals := Ls, stack := _ :: rest, locked := none }) _
  jvm_step X.here [X.here.top, hx, hd, hm', hret, hn]
  first | (intro acts; rw [hl _ acts rfl rfl rfl]) | rw [hl _ _ rfl rfl rfl]
  exact Steps.refl _
end New
end Jvm.RoadKit
namespace Jvm.Pilot.@@N@@
open Jvm Jvm.ClassFile Sem Op Lib Jvm.Free Jvm.Stand Jvm.LawKit Jvm.RoadKit Bundle Jvm.Pilot.@@N@@.Jvm.D
def Gl (p : Program) (e : Env) (below : List Frame) (Q : Outcome → State → Prop) (A : State) : Prop := ∃ t o, Steps p.tables e below A t ∧ t.status = .running ∧ Ended t below o ∧ Q o t
theorem Gl.st {p : Program} {e : Env} {below : List Frame} {Q : Outcome → State → Prop} {A B : State} (k : ∀ t, Steps p.tables e below B t → Steps p.tables e below A t) (h : Gl p e below Q B) : Gl p e below Q A := by
  obtain ⟨t, o, h1, r⟩ := h
  exact ⟨t, o, k t h1, r⟩
theorem Gl.cast {p : Program} {e : Env} {below : List Frame} {Q : Outcome → State → Prop} {A B : State} (k : A = B) (h : Gl p e below Q B) : Gl p e below Q A := k ▸ h
theorem Gl.join {p : Program} {e : Env} {below : List Frame} {Q : Outcome → State → Prop} {A B : State} (k : Gl p e below Q A → Gl p e below Q B) (h : Gl p e below Q A) : Gl p e below Q B := k h
theorem Gl.fin {p : Program} {e : Env} {below : List Frame} {Q : Outcome → State → Prop} {A t : State} {o : Outcome} (h1 : Steps p.tables e below A t) (h2 : t.status = .running) (h3 : Ended t below o) (h4 : Q o t) : Gl p e below Q A := ⟨t, o, h1, h2, h3, h4⟩
theorem tw {a0 : Array Value} {Z : State} (hw : ∀ d ∈ tables_1, d.before a0 Z = true) (i : Nat) {d : Jvm.Cond} (h : tables_1[i]? = some d) : d.before a0 Z = true := hw _ (List.mem_of_getElem? h)
theorem ldAt {L M : Array Slot} (h : L = M) {k : Nat} {v : Slot} (q : M[k]? = some v) : L[k]? = some v := h ▸ q
theorem stAt {L M L' M' : Array Slot} {k : Nat} {v w : Value} (h : L = M) (h' : L' = M') (e : w = v) (q : storeLocals M k v = some M') : storeLocals L k w = some L' := by subst h h' e; exact q
theorem stAt' {L M L' M' : Array Slot} {k : Nat} {v w : Value} (h : L = M) (h' : L' = M') (e : w = v) (q : storeLocals M k v = some M') : storeLocals L k w = some L' := by subst h h' e; exact q
theorem szAt {L M : Array Slot} {k n : Nat} (h : k = n) (h' : L = M) (q : M.size = n) : L.size = k := by subst h h'; exact q
theorem efAt {m : MethodId} {L M : Array Slot} {f : JFrame} (h : L = M) (q : f = mkF m 0 M []) : f = mkF m 0 L [] := h ▸ q
theorem own_nb {c : Prop} [Decidable c] {a b : Int32} (ha : nar .boolean a = a) (hb : nar .boolean b = b) : nar .boolean (if c then a else b) = if c then a else b := by split <;> assumption
theorem own_arr_keep {Z : State} {h h' : Heap} {a : Addr} {c : Cell} {ty : FieldType} {ws : List Addr} (F : Arr Z h a c ty) (K : Keep h h' ws) (q : a ∉ ws) : Arr Z h' a c ty := ⟨K.2.1 a c F.1 q, F.2⟩
theorem own_selp {s : State} {args : Array Value} {y : MethodName} {n : Nat} (wi : (Jvm.Cond.instantiable y.cls n).before args s = true) (wp : (Jvm.Cond.privateMethod y).before args s = true) (wn : (Jvm.Cond.instanceMethod y).before args s = true) (hy : y.cls ≠ "java/lang/invoke/MethodHandle" ∧ y.cls ≠ "java/lang/invoke/VarHandle") : (Jvm.Cond.selects y.cls y y).before args s = true := by
  obtain ⟨c, k, h1, h2, -, h4, -⟩ := Cond.instantiable_spec wi
  have h5 : k.isInterface = false := by
    cases hi : k.isInterface with
    | false => rfl
    | true => rw [hi] at h4; cases h4
  exact Jvm.Stand.selects_self_of_private h1 h2 h5 (Cond.privateMethod_at wp) wn hy
theorem own_push {Z : State} {h h' : Heap} {a : Addr} {k : ClassId} {ty : FieldType} {z j : Int32} {vs : List Value} {dv v : Value} {c : Cell} (A : Arr Z h a c ty) (q1 : c.cls = k) (S : c.slots.size = z.toNatClampNeg) (q3 : ¬ z < 0) (H : Has c vs dv) (G : ∀ i, i < c.slots.size → fits ty (vs.getD i dv) = true) (hv : fits ty v = true) (W : Wr h h' a j.toNatClampNeg v) (hj : j.toNatClampNeg = vs.length) : Arv Z h' a k ty z (vs ++ [v]) dv := by
  have q : ∀ i, (vs ++ [dv]).getD i dv = vs.getD i dv := pad_rep vs dv 1
  have r := Arv.set (vs := vs ++ [dv]) A q1 S q3 (fun i hi => by rw [q]; exact H i hi) (fun i hi => by rw [q]; exact G i hi) hv W vs.length hj (by simp)
  have e : (vs ++ [dv]).set vs.length v = vs ++ [v] := by simp
  rw [e] at r
  exact r
theorem own_eqL {args : Array Value} {s : State} {t : Term} {z : Int64} (h : (Jvm.Cond.eq t (.long z)).value args s none s [] = some true) : t.eval args s none [] s = some (.long z) := by
  obtain ⟨x, y, ha, hb, k1, k2⟩ := cmp_v (Or.inl h)
  obtain rfl : y = .long z := Option.some.inj (hb.symm.trans (long_at z))
  obtain ⟨w, rfl⟩ : ∃ w, x = .long w := k2
  rw [ha, gotT (eq_L ha hb) h]
theorem own_eqI {args : Array Value} {s : State} {t : Term} {z : Int32} (h : (Jvm.Cond.eq t (.int z)).value args s none s [] = some true) : t.eval args s none [] s = some (.int z) := by
  obtain ⟨x, y, ha, hb, k1, k2⟩ := cmp_v (Or.inl h)
  obtain rfl : y = .int z := Option.some.inj (hb.symm.trans (Term.int_eval z))
  obtain ⟨w, rfl⟩ : ∃ w, x = .int w := k2
  rw [ha, gotT (Cond.eq_ints ha hb) h]
theorem own_sta_keep {Z : State} {h h' : Heap} {C n d : String} {v : Value} {ws : List Addr} (F : Sta Z h C n d v) (K : Keep h h' ws) (q : ∀ x ∈ ws, ∀ cell : Cell, h[x]? = some cell → cell.vm.isStatics = false) : Sta Z h' C n d v := by
  obtain ⟨cf, i, k, f, a, cell, h1, h2, h3, h4, h5, h6, r⟩ := F
  exact ⟨cf, i, k, f, a, cell, h1, h2, h3, h4, K.2.1 a cell h5 (fun y => by have := q a y cell h5; rw [h6] at this; cases this), h6, r⟩
theorem own_exa_plain {Z : State} {h : Heap} {a : Addr} {C : String} (F : Exa Z h a C) : ∀ cell : Cell, h[a]? = some cell → cell.vm.isStatics = false := fun cell hc => by
  obtain ⟨c', k, h1, -, -, h4, -⟩ := F
  rw [h1] at hc; cases hc; exact h4
theorem own_arv_plain {Z : State} {h : Heap} {a : Addr} {k : ClassId} {ty : FieldType} {z : Int32} {vs : List Value} {dv : Value} (F : Arv Z h a k ty z vs dv) : ∀ cell : Cell, h[a]? = some cell → cell.vm.isStatics = false := fun cell hc => by
  obtain ⟨c', A, -⟩ := F
  have := A.1; rw [this] at hc; cases hc; exact A.plain
theorem own_V (k : Nat) (h : k < 2 ^ 53) : ∃ V : Jvm.FP.Core.Datum, Jvm.FP.Core.fits Jvm.FP.Core.b64 V ∧ V ≠ .nan ∧ Jvm.FP.Core.zmag Jvm.FP.Core.b64 V = k * 2 ^ 1066 := by
  obtain ⟨c', q', hr, hu⟩ := Jvm.FP.Core.round_exact Jvm.FP.Core.good_b64 false (c := k) (q := -8) h (by decide) (by decide)
  refine ⟨_, Jvm.FP.Core.round_fits Jvm.FP.Core.good_b64 (.fin false k (-8)), ?_, ?_⟩
  · rw [hr]
    exact Jvm.FP.Core.Datum.noConfusion
  · rw [hr]
    show Jvm.FP.Core.inUnits c' q' Jvm.FP.Core.b64.qmin = _
    rw [hu]
    rfl
theorem own_lo (s : Bool) (n k : Nat) (h : n * 256 ≤ k * 100) (hk : k < 2 ^ 53) : Jvm.FP.Core.zmag Jvm.FP.Core.b64 (Jvm.FP.Core.roundRatio Jvm.FP.Core.b64 s n 100 0) ≤ k * 2 ^ 1066 := by
  obtain ⟨V, hV, hn, hz⟩ := own_V k hk
  have q := Jvm.FP.Core.zmag_roundRatio_le Jvm.FP.Core.good_b64 (s := s) (A := n) (B := 100) (e := 0) (e0 := Jvm.FP.Core.b64.qmin) (V := V) (by decide) hV hn (Int.le_refl _) (by decide) ?_
  · rw [hz] at q
    exact q
  · rw [hz, Int.sub_self]
    show n * 2 ^ 1074 ≤ k * 2 ^ 1066 * 2 ^ 0 * 100
    have e : (2 : Nat) ^ 1074 = 256 * 2 ^ 1066 := by rw [show (1074 : Nat) = 8 + 1066 from rfl, Nat.pow_add]
    rw [e, Nat.pow_zero, Nat.mul_one]
    generalize (2 : Nat) ^ 1066 = P
    calc n * (256 * P) = (n * 256) * P := by rw [Nat.mul_assoc]
      _ ≤ (k * 100) * P := Nat.mul_le_mul_right _ h
      _ = k * P * 100 := by rw [Nat.mul_right_comm]
theorem own_hi (s : Bool) (n k : Nat) (h : k * 100 ≤ n * 256) (hk : k < 2 ^ 53) : k * 2 ^ 1066 ≤ Jvm.FP.Core.zmag Jvm.FP.Core.b64 (Jvm.FP.Core.roundRatio Jvm.FP.Core.b64 s n 100 0) := by
  obtain ⟨V, hV, hn, hz⟩ := own_V k hk
  have q := Jvm.FP.Core.zmag_roundRatio_ge Jvm.FP.Core.good_b64 (s := s) (A := n) (B := 100) (e := 0) (e0 := Jvm.FP.Core.b64.qmin) (V := V) (by decide) hV (Int.le_refl _) (by decide) ?_
  · rw [hz] at q
    exact q
  · rw [hz, Int.sub_self]
    show k * 2 ^ 1066 * 2 ^ 0 * 100 ≤ n * 2 ^ 1074
    have e : (2 : Nat) ^ 1074 = 256 * 2 ^ 1066 := by rw [show (1074 : Nat) = 8 + 1066 from rfl, Nat.pow_add]
    rw [e, Nat.pow_zero, Nat.mul_one]
    generalize (2 : Nat) ^ 1066 = P
    calc k * P * 100 = (k * 100) * P := by rw [Nat.mul_right_comm]
      _ ≤ (n * 256) * P := Nat.mul_le_mul_right _ h
      _ = n * (256 * P) := by rw [Nat.mul_assoc]
theorem own_mono (s t : Bool) (n m : Nat) (h : n < m) (hm : m ≤ 2147483648) : Jvm.FP.Core.zmag Jvm.FP.Core.b64 (Jvm.FP.Core.roundRatio Jvm.FP.Core.b64 s n 100 0) < Jvm.FP.Core.zmag Jvm.FP.Core.b64 (Jvm.FP.Core.roundRatio Jvm.FP.Core.b64 t m 100 0) := by
  have a := own_lo s n ((256 * n + 99) / 100) (by omega) (by omega)
  have b := own_hi t m ((256 * n + 99) / 100 + 1) (by omega) (by omega)
  have p : 0 < (2 : Nat) ^ 1066 := Nat.two_pow_pos _
  rw [Nat.succ_mul] at b
  generalize (2 : Nat) ^ 1066 = P at *
  omega
theorem own_val100 : Jvm.FP.Core.val64 (4636737291354636288 : UInt64) = .fin false (100 * 2 ^ 46) (-46) := by decide +kernel
theorem own_q (a : Int32) : ∃ s, Jvm.FP.Core.val64 (Jvm.FP.ddiv (Jvm.FP.i2d a) (4636737291354636288 : UInt64)) = Jvm.FP.Core.roundRatio Jvm.FP.Core.b64 s a.toInt.natAbs 100 0 ∧ (a.toInt ≠ 0 → s = decide (a.toInt < 0)) := by
  have hI : Jvm.FP.Core.Whole a.toInt (Jvm.FP.Core.val64 (Jvm.FP.Core.i2d a)) := Jvm.FP.Core.i2d_int a
  obtain ⟨s, c, q, he⟩ := Jvm.FP.Core.i2d_fin a
  rw [he] at hI
  have hw := Jvm.FP.Core.whole_natAbs hI
  refine ⟨s, ?_, fun hz => Jvm.FP.Core.whole_sign hI hz⟩
  have e1 : Jvm.FP.Core.val64 (Jvm.FP.ddiv (Jvm.FP.i2d a) (4636737291354636288 : UInt64)) = Jvm.FP.Core.quotient Jvm.FP.Core.b64 (Jvm.FP.Core.val64 (Jvm.FP.Core.i2d a)) (Jvm.FP.Core.val64 (4636737291354636288 : UInt64)) := Jvm.FP.Core.val64_ddiv _ _
  rw [e1, he, own_val100]
  have e2 : Jvm.FP.Core.quotient Jvm.FP.Core.b64 (.fin s c q) (.fin false (100 * 2 ^ 46) (-46)) = Jvm.FP.Core.roundRatio Jvm.FP.Core.b64 (s != false) c (100 * 2 ^ 46) (q - -46) := by rw [Jvm.FP.Core.quotient, if_neg (by decide)]
  rw [e2, Bool.bne_false]
  refine Jvm.FP.Core.roundRatio_congr (by decide) (by decide) ?_
  have hx : (q - -46 - 0).toNat + (-q).toNat = q.toNat + 46 + (0 - (q - -46)).toNat := by omega
  apply Nat.eq_of_mul_eq_mul_right (Nat.two_pow_pos (-q).toNat)
  rw [Nat.mul_assoc (c * 100), ← Nat.pow_add, hx, Nat.pow_add, Nat.pow_add]
  generalize (2 : Nat) ^ (0 - (q - -46)).toNat = P1
  generalize (2 : Nat) ^ (-q).toNat = P2 at *
  generalize (2 : Nat) ^ q.toNat = P3 at *
  generalize (2 : Nat) ^ 46 = P4
  generalize a.toInt.natAbs = N at *
  calc c * 100 * (P3 * P4 * P1) = (c * P3) * (100 * P4 * P1) := by ac_rfl
    _ = (N * P2) * (100 * P4 * P1) := by rw [hw]
    _ = N * (100 * P4) * P1 * P2 := by ac_rfl
theorem own_zero (s : Bool) : Jvm.FP.Core.zmag Jvm.FP.Core.b64 (Jvm.FP.Core.roundRatio Jvm.FP.Core.b64 s 0 100 0) = 0 := by
  show Jvm.FP.Core.inUnits 0 _ _ = 0
  exact Nat.zero_mul _
theorem own_sg (s : Bool) (x : Int) (h : x ≠ 0 → s = decide (x < 0)) : (s = true ∧ x ≤ 0) ∨ (s = false ∧ 0 ≤ x) := by
  rcases Int.lt_trichotomy x 0 with q | q | q
  · exact Or.inl ⟨(h (by omega)).trans (decide_eq_true q), by omega⟩
  · cases s
    · exact Or.inr ⟨rfl, by omega⟩
    · exact Or.inl ⟨rfl, by omega⟩
  · exact Or.inr ⟨(h (by omega)).trans (decide_eq_false (by omega)), by omega⟩
theorem own_dcmp (a b : Int32) : Jvm.FP.dcmp (Jvm.FP.ddiv (Jvm.FP.i2d a) (4636737291354636288 : UInt64)) (Jvm.FP.ddiv (Jvm.FP.i2d b) (4636737291354636288 : UInt64)) = some (compare a.toInt b.toInt) := by
  obtain ⟨s, ha, hs⟩ := own_q a
  obtain ⟨t, hb, ht⟩ := own_q b
  have z := rng32 a
  have z' := rng32 b
  refine (Jvm.FP.Core.dcmp_zval (by rw [ha]; exact Jvm.FP.Core.roundRatio_ne_nan _ _ _ _ _) (by rw [hb]; exact Jvm.FP.Core.roundRatio_ne_nan _ _ _ _ _)).trans ?_
  rw [ha, hb]
  unfold Jvm.FP.Core.zval
  rw [Jvm.FP.Core.sgn_roundRatio, Jvm.FP.Core.sgn_roundRatio]
  have m1 := own_mono s t a.toInt.natAbs b.toInt.natAbs
  have m2 := own_mono t s b.toInt.natAbs a.toInt.natAbs
  have m3 := own_mono s s 0 a.toInt.natAbs
  have m4 := own_mono t t 0 b.toInt.natAbs
  rw [own_zero] at m3 m4
  have m5 : a.toInt = 0 → Jvm.FP.Core.zmag Jvm.FP.Core.b64 (Jvm.FP.Core.roundRatio Jvm.FP.Core.b64 s a.toInt.natAbs 100 0) = 0 := fun q => by rw [q]; exact own_zero s
  have m6 : b.toInt = 0 → Jvm.FP.Core.zmag Jvm.FP.Core.b64 (Jvm.FP.Core.roundRatio Jvm.FP.Core.b64 t b.toInt.natAbs 100 0) = 0 := fun q => by rw [q]; exact own_zero t
  have m7 : s = t → a.toInt.natAbs = b.toInt.natAbs → Jvm.FP.Core.zmag Jvm.FP.Core.b64 (Jvm.FP.Core.roundRatio Jvm.FP.Core.b64 s a.toInt.natAbs 100 0) = Jvm.FP.Core.zmag Jvm.FP.Core.b64 (Jvm.FP.Core.roundRatio Jvm.FP.Core.b64 t b.toInt.natAbs 100 0) := fun q r => by rw [q, r]
  generalize Jvm.FP.Core.zmag Jvm.FP.Core.b64 (Jvm.FP.Core.roundRatio Jvm.FP.Core.b64 s a.toInt.natAbs 100 0) = A at *
  generalize Jvm.FP.Core.zmag Jvm.FP.Core.b64 (Jvm.FP.Core.roundRatio Jvm.FP.Core.b64 t b.toInt.natAbs 100 0) = B at *
  clear ha hb
  generalize a.toInt = x at *
  generalize b.toInt = y at *
  have k1 : (s = true ∧ x ≤ 0) ∨ (s = false ∧ 0 ≤ x) := own_sg s x hs
  have k2 : (t = true ∧ y ≤ 0) ∨ (t = false ∧ 0 ≤ y) := own_sg t y ht
  clear hs ht
  congr 1
  rcases k1 with ⟨rfl, k1⟩ | ⟨rfl, k1⟩ <;> rcases k2 with ⟨rfl, k2⟩ | ⟨rfl, k2⟩ <;> first | have m7 := m7 rfl | skip
  all_goals
    refine Jvm.FP.Core.compare_congr ?_ ?_ <;> simp only [Jvm.FP.Core.signed, if_true, Bool.false_eq_true, if_false] <;> omega
theorem own_no (a : Int32) : Jvm.Free.Fl.NoNaN64 (Jvm.FP.ddiv (Jvm.FP.i2d a) (4636737291354636288 : UInt64)) := by
  obtain ⟨s, ha, hs⟩ := own_q a
  rw [Jvm.Free.Fl.noNaN64_no]
  exact (Jvm.FP.Core.notNaN_iff _).mpr (by rw [ha]; exact Jvm.FP.Core.roundRatio_ne_nan _ _ _ _ _)
theorem own_101 : Jvm.FP.ddiv (Jvm.FP.i2d (101 : Int32)) (4636737291354636288 : UInt64) = (4607227454796291113 : UInt64) := by decide +kernel
theorem own_clt (a b : Int32) : (Jvm.Op.cmpValue (some (compare a.toInt b.toInt)) .l) < (0 : Int32) ↔ a < b := by
  rw [Int32.lt_iff_toInt_lt (x := a)]
  cases h : compare a.toInt b.toInt with
  | lt => have q := (Jvm.FP.Core.compare_lt_iff _ _).mp h; exact ⟨fun _ => q, fun _ => by decide⟩
  | eq => have q := (Jvm.FP.Core.compare_eq_iff _ _).mp h; exact ⟨fun z => absurd z (by decide), fun z => by omega⟩
  | gt => have q := (Jvm.FP.Core.compare_gt_iff _ _).mp h; exact ⟨fun z => absurd z (by decide), fun z => by omega⟩
theorem own_cgt (a b : Int32) : (0 : Int32) < (Jvm.Op.cmpValue (some (compare a.toInt b.toInt)) .g) ↔ b < a := by
  rw [Int32.lt_iff_toInt_lt (x := b)]
  cases h : compare a.toInt b.toInt with
  | lt => have q := (Jvm.FP.Core.compare_lt_iff _ _).mp h; exact ⟨fun z => absurd z (by decide), fun z => by omega⟩
  | eq => have q := (Jvm.FP.Core.compare_eq_iff _ _).mp h; exact ⟨fun z => absurd z (by decide), fun z => by omega⟩
  | gt => have q := (Jvm.FP.Core.compare_gt_iff _ _).mp h; exact ⟨fun _ => q, fun _ => by decide⟩
theorem own_eqRef {args : Array Value} {s : State} {t u : Term} {z : Addr} (hu : u.eval args s none [] s = some (.ref z)) (h : (Jvm.Cond.eq t u).value args s none s [] = some true) : t.eval args s none [] s = some (.ref z) := by
  obtain ⟨x, y, ha, hb, k1, k2⟩ := cmp_v (Or.inl h)
  obtain rfl : y = .ref z := Option.some.inj (hb.symm.trans hu)
  have hx : x.isRef = true := k2.2
  rw [ha, gotT (eq_R ha hb hx rfl) h]
theorem d2_0 : decode jdk_37_method_2_code 0 = .ok (.aload_n 0, 1) := by decide +kernel
theorem d2_1 : decode jdk_37_method_2_code 1 = .ok (.getfield 7, 3) := by decide +kernel
theorem d2_4 : decode jdk_37_method_2_code 4 = .ok (.ireturn, 1) := by decide +kernel
theorem pn_2 : plainName "java/lang/Enum" = true := by first | (simp [plainName, overriddenIn]; done) | decide +kernel
theorem ef_2 (m : MethodId) (a1 : Addr) : entryFrame m #[(.ref a1)] 1 = mkF m 0 #[.val (.ref a1)] [] := by first | (simp [entryFrame, mkF, argsToLocals, Value.category]; done) | rfl
def Q2 (Z : State) (a1 : Addr) (w_ordinal_a1 : Int32) (h0 : Heap) (n0 : Nat) (v : Option Value) (h : Heap) (L : List Loc) : Prop := v = some (.int w_ordinal_a1) ∧ Fr n0 L ∧ h = h0
set_option maxRecDepth 65536 in
set_option maxHeartbeats 40000000 in
theorem rm2 (l : Launch) (Z : State) (a0 : Array Value) (hw : ∀ d ∈ tables_1, d.before a0 Z = true) (ws : List Jvm.Cond) (a1 : Addr) (w_ordinal_a1 : Int32) (h0 : Heap) (n0 : Nat) (Z0 : n0 ≤ h0.size) (F_ordinal_a1 : Fld Z h0 a1 "java/lang/Enum" "ordinal" "I" (.int w_ordinal_a1)) :
    MetFree l (⟨"java/lang/Enum", "ordinal", "()I"⟩ : MethodName) (head1 (Jvm.Cond.code (⟨"java/lang/Enum", "ordinal", "()I"⟩ : MethodName) jdk_37_method_2_code 1 (some .int) :: ws) ({ frames := 0, cells := 0, slots := 0, locals := 0 } : Room)) (fun a U => a = #[(.ref a1)] ∧ Z.Warmed39 U.vm ∧ U.heap = h0) (fun _ _ _ _ _ => True) (fun _ U o U' => ∃ v L, o = .returned v ∧ Q2 Z a1 w_ordinal_a1 h0 n0 v U'.heap L ∧ FrameEnd U o U' L ({ frames := 0, cells := 0, slots := 0, locals := 0 } : Room).cells ({ frames := 0, cells := 0, slots := 0, locals := 0 } : Room).slots) := by
  refine MetFree.of_bodySF (plainFor_of_name pn_2) hisR ?_
  intro p e s m args below meth c s₁ Bd hml0 hP hK
  obtain ⟨rfl, hZ, hh⟩ := hP
  have hx := Bd.exec
  have hby := Bd.bytes
  have hml : c.maxLocals = 1 := hml0
  have hown : s.vm.findClass "java/lang/Enum" = some m.cls := findClass_of_methodNamed Bd.named
  have hnm := (name_of_methodNamed Bd.named Bd.method).1
  have X0 : Stand p l e ({ frames := 0, cells := 0, slots := 0, locals := 0 } : Room) s m #[(.ref a1)] below meth c s₁ [] 0 0 := Stand.of_body Bd
  have e0 : s₁.heap = h0 := by rw [← hh, Bd.state]; rfl
  have N0 := Fr.nil n0
  have K0 : Keep h0 h0 [] := Keep.refl h0 _
  refine (show Gl p e below (fun o U' => ∃ v L, o = .returned v ∧ Q2 Z a1 w_ordinal_a1 h0 n0 v U'.heap L ∧ FrameEnd s o U' L ({ frames := 0, cells := 0, slots := 0, locals := 0 } : Room).cells ({ frames := 0, cells := 0, slots := 0, locals := 0 } : Room).slots) (s₁.setTop (entryFrame m #[(.ref a1)] 1)) from ?_)
  obtain ⟨L0, hL0⟩ : ∃ z : Array Slot, z = #[.val (.ref a1)] := ⟨_, rfl⟩
  refine Gl.st (B := (s₁.setTop (mkF m 0 L0 []))) (fun t k => castTop (efAt hL0 (ef_2 m a1)) k) ?_
  refine Gl.st (B := (s₁.setTop (mkF m 1 L0 [(.ref a1)]))) (fun t k => XS.aloadN X0.here hx rfl (hb hby d2_0) (ldAt hL0 rfl) rfl k) ?_
  obtain ⟨T1, X1, e1, st1⟩ := getF X0 hx hZ hown (host := "") (Or.inl (tw hw 20 rfl)) Via.refl e0 F_ordinal_a1 (g := (mkF m 1 L0 [(.ref a1)])) rfl rfl (hb hby d2_1)
  refine Gl.st (B := (T1.setTop (mkF m 4 L0 [(.int w_ordinal_a1)]))) st1 ?_
  obtain ⟨fs, hr, hrun, hended, hW, hsame⟩ := X1.leave (v := some (.int w_ordinal_a1)) (fun h => by rw [Bd.returns] at h; cases h)
  refine Gl.fin (retI X1 hx Bd.returns (hb hby d2_4) hr) hrun hended ⟨_, _, rfl, ?_, ⟨_, rfl⟩, hW, hsame.mono (by decide) (by decide)⟩
  show Q2 Z a1 w_ordinal_a1 h0 n0 _ T1.heap _
  rw [e1]
  exact ⟨rfl, N0, rfl⟩
theorem d1_0 : decode prog_2_method_7_code 0 = .ok (.aload_n 0, 1) := by decide +kernel
theorem d1_1 : decode prog_2_method_7_code 1 = .ok (.getfield 42, 3) := by decide +kernel
theorem d1_4 : decode prog_2_method_7_code 4 = .ok (.invokevirtual 72, 3) := by decide +kernel
theorem d1_7 : decode prog_2_method_7_code 7 = .ok (.tableswitch 25 0 2 #[35, 49, 63], 25) := by decide +kernel
theorem d1_42 : decode prog_2_method_7_code 42 = .ok (.dload_n 1, 1) := by decide +kernel
theorem d1_43 : decode prog_2_method_7_code 43 = .ok (.dload_n 3, 1) := by decide +kernel
theorem d1_44 : decode prog_2_method_7_code 44 = .ok (.dcmp .l, 1) := by decide +kernel
theorem d1_45 : decode prog_2_method_7_code 45 = .ok (.ifCond .lt 7, 3) := by decide +kernel
theorem d1_48 : decode prog_2_method_7_code 48 = .ok (.iconst 1, 1) := by decide +kernel
theorem d1_49 : decode prog_2_method_7_code 49 = .ok (.goto 34, 3) := by decide +kernel
theorem d1_52 : decode prog_2_method_7_code 52 = .ok (.iconst 0, 1) := by decide +kernel
theorem d1_53 : decode prog_2_method_7_code 53 = .ok (.goto 30, 3) := by decide +kernel
theorem d1_83 : decode prog_2_method_7_code 83 = .ok (.istore 5, 2) := by decide +kernel
theorem d1_85 : decode prog_2_method_7_code 85 = .ok (.iload 5, 2) := by decide +kernel
theorem d1_87 : decode prog_2_method_7_code 87 = .ok (.ireturn, 1) := by decide +kernel
theorem pn_1 : plainName "com/example/tokenpail/tokenpail/bench/Metric" = true := by first | (simp [plainName, overriddenIn]; done) | decide +kernel
theorem pd_10_0 : parseMethodDescriptor "()I" = some ⟨[], some .int⟩ := by decide +kernel
theorem ef_10 (m : MethodId) (a1 : Addr) (d2 : UInt64) (d3 : UInt64) : entryFrame m #[(.ref a1), (.double d2), (.double d3)] 6 = mkF m 0 #[.val (.ref a1), .val (.double d2), .second, .val (.double d3), .second, .unset] [] := by first | (simp [entryFrame, mkF, argsToLocals, Value.category]; done) | rfl
def Q10 (Z : State) (a1 : Addr) (d2 : UInt64) (d3 : UInt64) (w_target_a1 : Addr) (h0 : Heap) (n0 : Nat) (v : Option Value) (h : Heap) (L : List Loc) : Prop := v = some (.int ((if ((Jvm.Op.cmpValue (Jvm.FP.dcmp d2 d3) .l)) < (0 : Int32) then (0 : Int32) else (1 : Int32)))) ∧ Fr n0 L ∧ h = h0
set_option maxRecDepth 65536 in
set_option maxHeartbeats 40000000 in
theorem rm10 (l : Launch) (Z : State) (a0 : Array Value) (hw : ∀ d ∈ tables_1, d.before a0 Z = true) (ws : List Jvm.Cond) (a1 : Addr) (d2 : UInt64) (d3 : UInt64) (w_target_a1 : Addr) (h0 : Heap) (n0 : Nat) (Z0 : n0 ≤ h0.size) (F_target_a1 : Fld Z h0 a1 "com/example/tokenpail/tokenpail/bench/Metric" "target" "Lcom/example/tokenpail/tokenpail/bench/Metric$Target;" (.ref w_target_a1)) (F_ordinal_w_target_a1 : Fld Z h0 w_target_a1 "java/lang/Enum" "ordinal" "I" (.int (0 : Int32))) (E_w_target_a1 : Exa Z h0 w_target_a1 "com/example/tokenpail/tokenpail/bench/Metric$Target") :
    MetFree l (⟨"com/example/tokenpail/tokenpail/bench/Metric", "met", "(DD)Z"⟩ : MethodName) (head1 (Jvm.Cond.code (⟨"com/example/tokenpail/tokenpail/bench/Metric", "met", "(DD)Z"⟩ : MethodName) prog_2_method_7_code 6 (some .boolean) :: ws) ({ frames := 1, cells := 0, slots := 0, locals := 12 } : Room)) (fun a U => a = #[(.ref a1), (.double d2), (.double d3)] ∧ Z.Warmed39 U.vm ∧ U.heap = h0) (fun _ _ _ _ _ => True) (fun _ U o U' => ∃ v L, o = .returned v ∧ Q10 Z a1 d2 d3 w_target_a1 h0 n0 v U'.heap L ∧ FrameEnd U o U' L ({ frames := 1, cells := 0, slots := 0, locals := 12 } : Room).cells ({ frames := 1, cells := 0, slots := 0, locals := 12 } : Room).slots) := by
  refine MetFree.of_bodySF (plainFor_of_name pn_1) hisR ?_
  intro p e s m args below meth c s₁ Bd hml0 hP hK
  obtain ⟨rfl, hZ, hh⟩ := hP
  have hx := Bd.exec
  have hby := Bd.bytes
  have hml : c.maxLocals = 6 := hml0
  have hown : s.vm.findClass "com/example/tokenpail/tokenpail/bench/Metric" = some m.cls := findClass_of_methodNamed Bd.named
  have hnm := (name_of_methodNamed Bd.named Bd.method).1
  have X0 : Stand p l e ({ frames := 1, cells := 0, slots := 0, locals := 12 } : Room) s m #[(.ref a1), (.double d2), (.double d3)] below meth c s₁ [] 0 0 := Stand.of_body Bd
  have e0 : s₁.heap = h0 := by rw [← hh, Bd.state]; rfl
  have N0 := Fr.nil n0
  have K0 : Keep h0 h0 [] := Keep.refl h0 _
  refine (show Gl p e below (fun o U' => ∃ v L, o = .returned v ∧ Q10 Z a1 d2 d3 w_target_a1 h0 n0 v U'.heap L ∧ FrameEnd s o U' L ({ frames := 1, cells := 0, slots := 0, locals := 12 } : Room).cells ({ frames := 1, cells := 0, slots := 0, locals := 12 } : Room).slots) (s₁.setTop (entryFrame m #[(.ref a1), (.double d2), (.double d3)] 6)) from ?_)
  obtain ⟨L0, hL0⟩ : ∃ z : Array Slot, z = #[.val (.ref a1), .val (.double d2), .second, .val (.double d3), .second, .unset] := ⟨_, rfl⟩
  refine Gl.st (B := (s₁.setTop (mkF m 0 L0 []))) (fun t k => castTop (efAt hL0 (ef_10 m a1 d2 d3)) k) ?_
  refine Gl.st (B := (s₁.setTop (mkF m 1 L0 [(.ref a1)]))) (fun t k => XS.aloadN X0.here hx rfl (hb hby d1_0) (ldAt hL0 rfl) rfl k) ?_
  obtain ⟨T1, X1, e1, st1⟩ := getF X0 hx hZ hown (host := "") (Or.inl (tw hw 9 rfl)) Via.refl e0 F_target_a1 (g := (mkF m 1 L0 [(.ref a1)])) rfl rfl (hb hby d1_1)
  refine Gl.st (B := (T1.setTop (mkF m 4 L0 [(.ref w_target_a1)]))) st1 ?_
  obtain ⟨cq2, kq2, q2a, q2b, q2c⟩ := isOf hZ e1 E_w_target_a1
  obtain ⟨_, _, ⟨T2, L2q, k2, n2⟩, -, X2, ⟨Lc2, hQ2, l2, y2, z2⟩, st2⟩ := X1.virtualBackUp hx (x := (⟨"com/example/tokenpail/tokenpail/bench/Metric$Target", "ordinal", "()I"⟩ : MethodName)) (y := (⟨"java/lang/Enum", "ordinal", "()I"⟩ : MethodName)) hown (mvT hZ (tw hw 13 rfl)) (mvT hZ (tw hw 14 rfl)) (mvT hZ (tw hw 15 rfl)) (by decide) (mvT hZ (tw hw 17 rfl)) (mvT hZ (tw hw 16 rfl)) (backOf (W := 0) (rm2 l Z a0 hw [] w_target_a1 (0 : Int32) h0 n0 Z0 F_ordinal_w_target_a1) hZ (tw hw 19 rfl) (tw hw 18 rfl) (by decide) (by decide)) q2a q2c (g := (mkF m 4 L0 [(.ref w_target_a1)])) rfl (szAt hml hL0 rfl) (Steps.refl _) (argsL := []) (rest := []) (lenOf pd_10_0 rfl) rfl (by show 2 * 0 + _ ≤ _; exact Nat.le_of_eq rfl) (hb hby d1_4) (fun _ _ => ⟨rfl, e1, (by decide : 0 + 0 ≤ _), (by decide : 0 + 0 ≤ _)⟩)
  dsimp only [Pt.U, Pt.locs, Pt.cells, Pt.slots] at X2 l2 y2 z2 st2 hQ2
  subst l2 y2 z2
  obtain ⟨rfl, N2q, eh2⟩ := hQ2
  have N2 := Fr.app N0 N2q
  refine Gl.st (B := (T2.setTop (mkF m 7 L0 [(.int (0 : Int32))]))) (fun t k => st2.trans k) ?_
  refine Gl.st (B := (T2.setTop (mkF m 42 L0 []))) (fun t k => XS.tswIn X2.here hx rfl (o := 35) (pc0 := 7) (pc' := 42) rfl (hb hby d1_7) rfl (by decide) rfl (by decide) (by decide) k) ?_
  refine Gl.st (B := (T2.setTop (mkF m 43 L0 [(.double d2)]))) (fun t k => XS.dloadN X2.here hx rfl (hb hby d1_42) (ldAt hL0 rfl) k) ?_
  refine Gl.st (B := (T2.setTop (mkF m 44 L0 [(.double d3), (.double d2)]))) (fun t k => XS.dloadN X2.here hx rfl (hb hby d1_43) (ldAt hL0 rfl) k) ?_
  refine Gl.st (B := (T2.setTop (mkF m 45 L0 [(.int (Jvm.Op.cmpValue (Jvm.FP.dcmp d2 d3) .l))]))) (fun t k => XS.dcmpS X2.here hx rfl (hb hby d1_44) rfl rfl k) ?_
  obtain ⟨x45_3, hx45_3⟩ : ∃ z : Int32, z = (Jvm.Op.cmpValue (Jvm.FP.dcmp d2 d3) .l) := ⟨_, rfl⟩
  refine Gl.cast (B := (T2.setTop (mkF m 45 L0 [(.int x45_3)]))) (by rw [hx45_3]) ?_
  obtain ⟨v83_s0_5, hv83_s0_5⟩ : ∃ z : Int32, z = (if x45_3 < (0 : Int32) then (0 : Int32) else (1 : Int32)) := ⟨_, rfl⟩
  refine Gl.join (A := (T2.setTop (mkF m 83 L0 [(.int v83_s0_5)]))) (fun J45_5 => ?_) ?_
  · by_cases hc45_4 : x45_3 < (0 : Int32)
    · skip
      refine Gl.st (B := (T2.setTop (mkF m 52 L0 []))) (fun t k => XS.ifYes X2.here hx rfl (pc0 := 45) (pc' := 52) rfl (hb hby d1_45) rfl ((if0 _ _).trans (tlt hc45_4).1) (by decide) (by decide) k) ?_
      refine Gl.st (B := (T2.setTop (mkF m 53 L0 [(.int (0 : Int32))]))) (fun t k => XS.iconst X2.here hx rfl (hb hby d1_52) k) ?_
      refine Gl.st (B := (T2.setTop (mkF m 83 L0 [(.int (0 : Int32))]))) (fun t k => XS.goto X2.here hx rfl (pc0 := 53) (pc' := 83) rfl (hb hby d1_53) (by decide) (by decide) k) ?_
      have ev83_s0_5 : v83_s0_5 = (0 : Int32) := by rw [hv83_s0_5, if_pos hc45_4]
      rw [ev83_s0_5] at J45_5
      exact J45_5
    · skip
      refine Gl.st (B := (T2.setTop (mkF m 48 L0 []))) (fun t k => XS.ifNo X2.here hx rfl (hb hby d1_45) rfl ((if0 _ _).trans (flt hc45_4).1) k) ?_
      refine Gl.st (B := (T2.setTop (mkF m 49 L0 [(.int (1 : Int32))]))) (fun t k => XS.iconst X2.here hx rfl (hb hby d1_48) k) ?_
      refine Gl.st (B := (T2.setTop (mkF m 83 L0 [(.int (1 : Int32))]))) (fun t k => XS.goto X2.here hx rfl (pc0 := 49) (pc' := 83) rfl (hb hby d1_49) (by decide) (by decide) k) ?_
      have ev83_s0_5 : v83_s0_5 = (1 : Int32) := by rw [hv83_s0_5, if_neg hc45_4]
      rw [ev83_s0_5] at J45_5
      exact J45_5
  obtain ⟨L6, hL6⟩ : ∃ z : Array Slot, z = #[.val (.ref a1), .val (.double d2), .second, .val (.double d3), .second, .val (.int v83_s0_5)] := ⟨_, rfl⟩
  refine Gl.st (B := (T2.setTop (mkF m 85 L6 []))) (fun t k => XS.istore X2.here hx rfl (hb hby d1_83) rfl (l' := L6) (stAt hL0 hL6 rfl rfl) k) ?_
  refine Gl.st (B := (T2.setTop (mkF m 87 L6 [(.int v83_s0_5)]))) (fun t k => XS.iload X2.here hx rfl (hb hby d1_85) (ldAt hL6 rfl) k) ?_
  obtain ⟨fs, hr, hrun, hended, hW, hsame⟩ := X2.leave (v := some (.int (nar .boolean v83_s0_5))) (fun h => by rw [Bd.returns] at h; cases h)
  refine Gl.fin (retN X2 hx (t := .boolean) Bd.returns (by simp) (hb hby d1_87) hr) hrun hended ⟨_, _, rfl, ?_, ⟨_, rfl⟩, hW, hsame.mono (by decide) (by decide)⟩
  show Q10 Z a1 d2 d3 w_target_a1 h0 n0 _ T2.heap _
  rw [eh2]
  exact ⟨(by subst hv83_s0_5; subst hx45_3; exact congrArg (fun z => some (Value.int z)) (own_nb rfl rfl)), N2, rfl⟩
theorem d1_56 : decode prog_2_method_7_code 56 = .ok (.dload_n 1, 1) := by decide +kernel
theorem d1_57 : decode prog_2_method_7_code 57 = .ok (.dload_n 3, 1) := by decide +kernel
theorem d1_58 : decode prog_2_method_7_code 58 = .ok (.dcmp .g, 1) := by decide +kernel
theorem d1_59 : decode prog_2_method_7_code 59 = .ok (.ifCond .gt 7, 3) := by decide +kernel
theorem d1_62 : decode prog_2_method_7_code 62 = .ok (.iconst 1, 1) := by decide +kernel
theorem d1_63 : decode prog_2_method_7_code 63 = .ok (.goto 20, 3) := by decide +kernel
theorem d1_66 : decode prog_2_method_7_code 66 = .ok (.iconst 0, 1) := by decide +kernel
theorem d1_67 : decode prog_2_method_7_code 67 = .ok (.goto 16, 3) := by decide +kernel
theorem pd_11_0 : parseMethodDescriptor "()I" = some ⟨[], some .int⟩ := by decide +kernel
theorem ef_11 (m : MethodId) (a1 : Addr) (d2 : UInt64) (d3 : UInt64) : entryFrame m #[(.ref a1), (.double d2), (.double d3)] 6 = mkF m 0 #[.val (.ref a1), .val (.double d2), .second, .val (.double d3), .second, .unset] [] := by first | (simp [entryFrame, mkF, argsToLocals, Value.category]; done) | rfl
def Q11 (Z : State) (a1 : Addr) (d2 : UInt64) (d3 : UInt64) (w_target_a1 : Addr) (h0 : Heap) (n0 : Nat) (v : Option Value) (h : Heap) (L : List Loc) : Prop := v = some (.int ((if (0 : Int32) < ((Jvm.Op.cmpValue (Jvm.FP.dcmp d2 d3) .g)) then (0 : Int32) else (1 : Int32)))) ∧ Fr n0 L ∧ h = h0
set_option maxRecDepth 65536 in
set_option maxHeartbeats 40000000 in
theorem rm11 (l : Launch) (Z : State) (a0 : Array Value) (hw : ∀ d ∈ tables_1, d.before a0 Z = true) (ws : List Jvm.Cond) (a1 : Addr) (d2 : UInt64) (d3 : UInt64) (w_target_a1 : Addr) (h0 : Heap) (n0 : Nat) (Z0 : n0 ≤ h0.size) (F_target_a1 : Fld Z h0 a1 "com/example/tokenpail/tokenpail/bench/Metric" "target" "Lcom/example/tokenpail/tokenpail/bench/Metric$Target;" (.ref w_target_a1)) (F_ordinal_w_target_a1 : Fld Z h0 w_target_a1 "java/lang/Enum" "ordinal" "I" (.int (1 : Int32))) (E_w_target_a1 : Exa Z h0 w_target_a1 "com/example/tokenpail/tokenpail/bench/Metric$Target") :
    MetFree l (⟨"com/example/tokenpail/tokenpail/bench/Metric", "met", "(DD)Z"⟩ : MethodName) (head1 (Jvm.Cond.code (⟨"com/example/tokenpail/tokenpail/bench/Metric", "met", "(DD)Z"⟩ : MethodName) prog_2_method_7_code 6 (some .boolean) :: ws) ({ frames := 1, cells := 0, slots := 0, locals := 12 } : Room)) (fun a U => a = #[(.ref a1), (.double d2), (.double d3)] ∧ Z.Warmed39 U.vm ∧ U.heap = h0) (fun _ _ _ _ _ => True) (fun _ U o U' => ∃ v L, o = .returned v ∧ Q11 Z a1 d2 d3 w_target_a1 h0 n0 v U'.heap L ∧ FrameEnd U o U' L ({ frames := 1, cells := 0, slots := 0, locals := 12 } : Room).cells ({ frames := 1, cells := 0, slots := 0, locals := 12 } : Room).slots) := by
  refine MetFree.of_bodySF (plainFor_of_name pn_1) hisR ?_
  intro p e s m args below meth c s₁ Bd hml0 hP hK
  obtain ⟨rfl, hZ, hh⟩ := hP
  have hx := Bd.exec
  have hby := Bd.bytes
  have hml : c.maxLocals = 6 := hml0
  have hown : s.vm.findClass "com/example/tokenpail/tokenpail/bench/Metric" = some m.cls := findClass_of_methodNamed Bd.named
  have hnm := (name_of_methodNamed Bd.named Bd.method).1
  have X0 : Stand p l e ({ frames := 1, cells := 0, slots := 0, locals := 12 } : Room) s m #[(.ref a1), (.double d2), (.double d3)] below meth c s₁ [] 0 0 := Stand.of_body Bd
  have e0 : s₁.heap = h0 := by rw [← hh, Bd.state]; rfl
  have N0 := Fr.nil n0
  have K0 : Keep h0 h0 [] := Keep.refl h0 _
  refine (show Gl p e below (fun o U' => ∃ v L, o = .returned v ∧ Q11 Z a1 d2 d3 w_target_a1 h0 n0 v U'.heap L ∧ FrameEnd s o U' L ({ frames := 1, cells := 0, slots := 0, locals := 12 } : Room).cells ({ frames := 1, cells := 0, slots := 0, locals := 12 } : Room).slots) (s₁.setTop (entryFrame m #[(.ref a1), (.double d2), (.double d3)] 6)) from ?_)
  obtain ⟨L0, hL0⟩ : ∃ z : Array Slot, z = #[.val (.ref a1), .val (.double d2), .second, .val (.double d3), .second, .unset] := ⟨_, rfl⟩
  refine Gl.st (B := (s₁.setTop (mkF m 0 L0 []))) (fun t k => castTop (efAt hL0 (ef_11 m a1 d2 d3)) k) ?_
  refine Gl.st (B := (s₁.setTop (mkF m 1 L0 [(.ref a1)]))) (fun t k => XS.aloadN X0.here hx rfl (hb hby d1_0) (ldAt hL0 rfl) rfl k) ?_
  obtain ⟨T1, X1, e1, st1⟩ := getF X0 hx hZ hown (host := "") (Or.inl (tw hw 9 rfl)) Via.refl e0 F_target_a1 (g := (mkF m 1 L0 [(.ref a1)])) rfl rfl (hb hby d1_1)
  refine Gl.st (B := (T1.setTop (mkF m 4 L0 [(.ref w_target_a1)]))) st1 ?_
  obtain ⟨cq2, kq2, q2a, q2b, q2c⟩ := isOf hZ e1 E_w_target_a1
  obtain ⟨_, _, ⟨T2, L2q, k2, n2⟩, -, X2, ⟨Lc2, hQ2, l2, y2, z2⟩, st2⟩ := X1.virtualBackUp hx (x := (⟨"com/example/tokenpail/tokenpail/bench/Metric$Target", "ordinal", "()I"⟩ : MethodName)) (y := (⟨"java/lang/Enum", "ordinal", "()I"⟩ : MethodName)) hown (mvT hZ (tw hw 13 rfl)) (mvT hZ (tw hw 14 rfl)) (mvT hZ (tw hw 15 rfl)) (by decide) (mvT hZ (tw hw 17 rfl)) (mvT hZ (tw hw 16 rfl)) (backOf (W := 0) (rm2 l Z a0 hw [] w_target_a1 (1 : Int32) h0 n0 Z0 F_ordinal_w_target_a1) hZ (tw hw 19 rfl) (tw hw 18 rfl) (by decide) (by decide)) q2a q2c (g := (mkF m 4 L0 [(.ref w_target_a1)])) rfl (szAt hml hL0 rfl) (Steps.refl _) (argsL := []) (rest := []) (lenOf pd_11_0 rfl) rfl (by show 2 * 0 + _ ≤ _; exact Nat.le_of_eq rfl) (hb hby d1_4) (fun _ _ => ⟨rfl, e1, (by decide : 0 + 0 ≤ _), (by decide : 0 + 0 ≤ _)⟩)
  dsimp only [Pt.U, Pt.locs, Pt.cells, Pt.slots] at X2 l2 y2 z2 st2 hQ2
  subst l2 y2 z2
  obtain ⟨rfl, N2q, eh2⟩ := hQ2
  have N2 := Fr.app N0 N2q
  refine Gl.st (B := (T2.setTop (mkF m 7 L0 [(.int (1 : Int32))]))) (fun t k => st2.trans k) ?_
  refine Gl.st (B := (T2.setTop (mkF m 56 L0 []))) (fun t k => XS.tswIn X2.here hx rfl (o := 49) (pc0 := 7) (pc' := 56) rfl (hb hby d1_7) rfl (by decide) rfl (by decide) (by decide) k) ?_
  refine Gl.st (B := (T2.setTop (mkF m 57 L0 [(.double d2)]))) (fun t k => XS.dloadN X2.here hx rfl (hb hby d1_56) (ldAt hL0 rfl) k) ?_
  refine Gl.st (B := (T2.setTop (mkF m 58 L0 [(.double d3), (.double d2)]))) (fun t k => XS.dloadN X2.here hx rfl (hb hby d1_57) (ldAt hL0 rfl) k) ?_
  refine Gl.st (B := (T2.setTop (mkF m 59 L0 [(.int (Jvm.Op.cmpValue (Jvm.FP.dcmp d2 d3) .g))]))) (fun t k => XS.dcmpS X2.here hx rfl (hb hby d1_58) rfl rfl k) ?_
  obtain ⟨x59_3, hx59_3⟩ : ∃ z : Int32, z = (Jvm.Op.cmpValue (Jvm.FP.dcmp d2 d3) .g) := ⟨_, rfl⟩
  refine Gl.cast (B := (T2.setTop (mkF m 59 L0 [(.int x59_3)]))) (by rw [hx59_3]) ?_
  obtain ⟨v83_s0_5, hv83_s0_5⟩ : ∃ z : Int32, z = (if (0 : Int32) < x59_3 then (0 : Int32) else (1 : Int32)) := ⟨_, rfl⟩
  refine Gl.join (A := (T2.setTop (mkF m 83 L0 [(.int v83_s0_5)]))) (fun J59_5 => ?_) ?_
  · by_cases hc59_4 : (0 : Int32) < x59_3
    · skip
      refine Gl.st (B := (T2.setTop (mkF m 66 L0 []))) (fun t k => XS.ifYes X2.here hx rfl (pc0 := 59) (pc' := 66) rfl (hb hby d1_59) rfl ((if0 _ _).trans (tlt hc59_4).2.2.1) (by decide) (by decide) k) ?_
      refine Gl.st (B := (T2.setTop (mkF m 67 L0 [(.int (0 : Int32))]))) (fun t k => XS.iconst X2.here hx rfl (hb hby d1_66) k) ?_
      refine Gl.st (B := (T2.setTop (mkF m 83 L0 [(.int (0 : Int32))]))) (fun t k => XS.goto X2.here hx rfl (pc0 := 67) (pc' := 83) rfl (hb hby d1_67) (by decide) (by decide) k) ?_
      have ev83_s0_5 : v83_s0_5 = (0 : Int32) := by rw [hv83_s0_5, if_pos hc59_4]
      rw [ev83_s0_5] at J59_5
      exact J59_5
    · skip
      refine Gl.st (B := (T2.setTop (mkF m 62 L0 []))) (fun t k => XS.ifNo X2.here hx rfl (hb hby d1_59) rfl ((if0 _ _).trans (flt hc59_4).2.2.1) k) ?_
      refine Gl.st (B := (T2.setTop (mkF m 63 L0 [(.int (1 : Int32))]))) (fun t k => XS.iconst X2.here hx rfl (hb hby d1_62) k) ?_
      refine Gl.st (B := (T2.setTop (mkF m 83 L0 [(.int (1 : Int32))]))) (fun t k => XS.goto X2.here hx rfl (pc0 := 63) (pc' := 83) rfl (hb hby d1_63) (by decide) (by decide) k) ?_
      have ev83_s0_5 : v83_s0_5 = (1 : Int32) := by rw [hv83_s0_5, if_neg hc59_4]
      rw [ev83_s0_5] at J59_5
      exact J59_5
  obtain ⟨L6, hL6⟩ : ∃ z : Array Slot, z = #[.val (.ref a1), .val (.double d2), .second, .val (.double d3), .second, .val (.int v83_s0_5)] := ⟨_, rfl⟩
  refine Gl.st (B := (T2.setTop (mkF m 85 L6 []))) (fun t k => XS.istore X2.here hx rfl (hb hby d1_83) rfl (l' := L6) (stAt hL0 hL6 rfl rfl) k) ?_
  refine Gl.st (B := (T2.setTop (mkF m 87 L6 [(.int v83_s0_5)]))) (fun t k => XS.iload X2.here hx rfl (hb hby d1_85) (ldAt hL6 rfl) k) ?_
  obtain ⟨fs, hr, hrun, hended, hW, hsame⟩ := X2.leave (v := some (.int (nar .boolean v83_s0_5))) (fun h => by rw [Bd.returns] at h; cases h)
  refine Gl.fin (retN X2 hx (t := .boolean) Bd.returns (by simp) (hb hby d1_87) hr) hrun hended ⟨_, _, rfl, ?_, ⟨_, rfl⟩, hW, hsame.mono (by decide) (by decide)⟩
  show Q11 Z a1 d2 d3 w_target_a1 h0 n0 _ T2.heap _
  rw [eh2]
  exact ⟨(by subst hv83_s0_5; subst hx59_3; exact congrArg (fun z => some (Value.int z)) (own_nb rfl rfl)), N2, rfl⟩
theorem d1_70 : decode prog_2_method_7_code 70 = .ok (.dload_n 1, 1) := by decide +kernel
theorem d1_71 : decode prog_2_method_7_code 71 = .ok (.ldc2_w 81, 3) := by decide +kernel
theorem d1_74 : decode prog_2_method_7_code 74 = .ok (.dcmp .g, 1) := by decide +kernel
theorem d1_75 : decode prog_2_method_7_code 75 = .ok (.ifCond .gt 7, 3) := by decide +kernel
theorem d1_78 : decode prog_2_method_7_code 78 = .ok (.iconst 1, 1) := by decide +kernel
theorem d1_79 : decode prog_2_method_7_code 79 = .ok (.goto 4, 3) := by decide +kernel
theorem d1_82 : decode prog_2_method_7_code 82 = .ok (.iconst 0, 1) := by decide +kernel
theorem pd_12_0 : parseMethodDescriptor "()I" = some ⟨[], some .int⟩ := by decide +kernel
theorem ef_12 (m : MethodId) (a1 : Addr) (d2 : UInt64) (d3 : UInt64) : entryFrame m #[(.ref a1), (.double d2), (.double d3)] 6 = mkF m 0 #[.val (.ref a1), .val (.double d2), .second, .val (.double d3), .second, .unset] [] := by first | (simp [entryFrame, mkF, argsToLocals, Value.category]; done) | rfl
def Q12 (Z : State) (a1 : Addr) (d2 : UInt64) (d3 : UInt64) (w_target_a1 : Addr) (h0 : Heap) (n0 : Nat) (v : Option Value) (h : Heap) (L : List Loc) : Prop := v = some (.int ((if (0 : Int32) < ((Jvm.Op.cmpValue (Jvm.FP.dcmp d2 (4607227454796291113 : UInt64)) .g)) then (0 : Int32) else (1 : Int32)))) ∧ Fr n0 L ∧ h = h0
set_option maxRecDepth 65536 in
set_option maxHeartbeats 40000000 in
theorem rm12 (l : Launch) (Z : State) (a0 : Array Value) (hw : ∀ d ∈ tables_1, d.before a0 Z = true) (ws : List Jvm.Cond) (a1 : Addr) (d2 : UInt64) (d3 : UInt64) (w_target_a1 : Addr) (h0 : Heap) (n0 : Nat) (Z0 : n0 ≤ h0.size) (F_target_a1 : Fld Z h0 a1 "com/example/tokenpail/tokenpail/bench/Metric" "target" "Lcom/example/tokenpail/tokenpail/bench/Metric$Target;" (.ref w_target_a1)) (F_ordinal_w_target_a1 : Fld Z h0 w_target_a1 "java/lang/Enum" "ordinal" "I" (.int (2 : Int32))) (E_w_target_a1 : Exa Z h0 w_target_a1 "com/example/tokenpail/tokenpail/bench/Metric$Target") :
    MetFree l (⟨"com/example/tokenpail/tokenpail/bench/Metric", "met", "(DD)Z"⟩ : MethodName) (head1 (Jvm.Cond.code (⟨"com/example/tokenpail/tokenpail/bench/Metric", "met", "(DD)Z"⟩ : MethodName) prog_2_method_7_code 6 (some .boolean) :: ws) ({ frames := 1, cells := 0, slots := 0, locals := 12 } : Room)) (fun a U => a = #[(.ref a1), (.double d2), (.double d3)] ∧ Z.Warmed39 U.vm ∧ U.heap = h0) (fun _ _ _ _ _ => True) (fun _ U o U' => ∃ v L, o = .returned v ∧ Q12 Z a1 d2 d3 w_target_a1 h0 n0 v U'.heap L ∧ FrameEnd U o U' L ({ frames := 1, cells := 0, slots := 0, locals := 12 } : Room).cells ({ frames := 1, cells := 0, slots := 0, locals := 12 } : Room).slots) := by
  refine MetFree.of_bodySF (plainFor_of_name pn_1) hisR ?_
  intro p e s m args below meth c s₁ Bd hml0 hP hK
  obtain ⟨rfl, hZ, hh⟩ := hP
  have hx := Bd.exec
  have hby := Bd.bytes
  have hml : c.maxLocals = 6 := hml0
  have hown : s.vm.findClass "com/example/tokenpail/tokenpail/bench/Metric" = some m.cls := findClass_of_methodNamed Bd.named
  have hnm := (name_of_methodNamed Bd.named Bd.method).1
  have X0 : Stand p l e ({ frames := 1, cells := 0, slots := 0, locals := 12 } : Room) s m #[(.ref a1), (.double d2), (.double d3)] below meth c s₁ [] 0 0 := Stand.of_body Bd
  have e0 : s₁.heap = h0 := by rw [← hh, Bd.state]; rfl
  have N0 := Fr.nil n0
  have K0 : Keep h0 h0 [] := Keep.refl h0 _
  refine (show Gl p e below (fun o U' => ∃ v L, o = .returned v ∧ Q12 Z a1 d2 d3 w_target_a1 h0 n0 v U'.heap L ∧ FrameEnd s o U' L ({ frames := 1, cells := 0, slots := 0, locals := 12 } : Room).cells ({ frames := 1, cells := 0, slots := 0, locals := 12 } : Room).slots) (s₁.setTop (entryFrame m #[(.ref a1), (.double d2), (.double d3)] 6)) from ?_)
  obtain ⟨L0, hL0⟩ : ∃ z : Array Slot, z = #[.val (.ref a1), .val (.double d2), .second, .val (.double d3), .second, .unset] := ⟨_, rfl⟩
  refine Gl.st (B := (s₁.setTop (mkF m 0 L0 []))) (fun t k => castTop (efAt hL0 (ef_12 m a1 d2 d3)) k) ?_
  refine Gl.st (B := (s₁.setTop (mkF m 1 L0 [(.ref a1)]))) (fun t k => XS.aloadN X0.here hx rfl (hb hby d1_0) (ldAt hL0 rfl) rfl k) ?_
  obtain ⟨T1, X1, e1, st1⟩ := getF X0 hx hZ hown (host := "") (Or.inl (tw hw 9 rfl)) Via.refl e0 F_target_a1 (g := (mkF m 1 L0 [(.ref a1)])) rfl rfl (hb hby d1_1)
  refine Gl.st (B := (T1.setTop (mkF m 4 L0 [(.ref w_target_a1)]))) st1 ?_
  obtain ⟨cq2, kq2, q2a, q2b, q2c⟩ := isOf hZ e1 E_w_target_a1
  obtain ⟨_, _, ⟨T2, L2q, k2, n2⟩, -, X2, ⟨Lc2, hQ2, l2, y2, z2⟩, st2⟩ := X1.virtualBackUp hx (x := (⟨"com/example/tokenpail/tokenpail/bench/Metric$Target", "ordinal", "()I"⟩ : MethodName)) (y := (⟨"java/lang/Enum", "ordinal", "()I"⟩ : MethodName)) hown (mvT hZ (tw hw 13 rfl)) (mvT hZ (tw hw 14 rfl)) (mvT hZ (tw hw 15 rfl)) (by decide) (mvT hZ (tw hw 17 rfl)) (mvT hZ (tw hw 16 rfl)) (backOf (W := 0) (rm2 l Z a0 hw [] w_target_a1 (2 : Int32) h0 n0 Z0 F_ordinal_w_target_a1) hZ (tw hw 19 rfl) (tw hw 18 rfl) (by decide) (by decide)) q2a q2c (g := (mkF m 4 L0 [(.ref w_target_a1)])) rfl (szAt hml hL0 rfl) (Steps.refl _) (argsL := []) (rest := []) (lenOf pd_12_0 rfl) rfl (by show 2 * 0 + _ ≤ _; exact Nat.le_of_eq rfl) (hb hby d1_4) (fun _ _ => ⟨rfl, e1, (by decide : 0 + 0 ≤ _), (by decide : 0 + 0 ≤ _)⟩)
  dsimp only [Pt.U, Pt.locs, Pt.cells, Pt.slots] at X2 l2 y2 z2 st2 hQ2
  subst l2 y2 z2
  obtain ⟨rfl, N2q, eh2⟩ := hQ2
  have N2 := Fr.app N0 N2q
  refine Gl.st (B := (T2.setTop (mkF m 7 L0 [(.int (2 : Int32))]))) (fun t k => st2.trans k) ?_
  refine Gl.st (B := (T2.setTop (mkF m 70 L0 []))) (fun t k => XS.tswIn X2.here hx rfl (o := 63) (pc0 := 7) (pc' := 70) rfl (hb hby d1_7) rfl (by decide) rfl (by decide) (by decide) k) ?_
  refine Gl.st (B := (T2.setTop (mkF m 71 L0 [(.double d2)]))) (fun t k => XS.dloadN X2.here hx rfl (hb hby d1_70) (ldAt hL0 rfl) k) ?_
  refine Gl.st (B := (T2.setTop (mkF m 74 L0 [(.double (4607227454796291113 : UInt64)), (.double d2)]))) (fun t k => X2.ldc2DoubleC hx hown (mvT hZ (tw hw 28 rfl)) (g := (mkF m 71 L0 [(.double d2)])) rfl (hb hby d1_71) _ k) ?_
  refine Gl.st (B := (T2.setTop (mkF m 75 L0 [(.int (Jvm.Op.cmpValue (Jvm.FP.dcmp d2 (4607227454796291113 : UInt64)) .g))]))) (fun t k => XS.dcmpS X2.here hx rfl (hb hby d1_74) rfl rfl k) ?_
  obtain ⟨x75_3, hx75_3⟩ : ∃ z : Int32, z = (Jvm.Op.cmpValue (Jvm.FP.dcmp d2 (4607227454796291113 : UInt64)) .g) := ⟨_, rfl⟩
  refine Gl.cast (B := (T2.setTop (mkF m 75 L0 [(.int x75_3)]))) (by rw [hx75_3]) ?_
  obtain ⟨v83_s0_5, hv83_s0_5⟩ : ∃ z : Int32, z = (if (0 : Int32) < x75_3 then (0 : Int32) else (1 : Int32)) := ⟨_, rfl⟩
  refine Gl.join (A := (T2.setTop (mkF m 83 L0 [(.int v83_s0_5)]))) (fun J75_5 => ?_) ?_
  · by_cases hc75_4 : (0 : Int32) < x75_3
    · skip
      refine Gl.st (B := (T2.setTop (mkF m 82 L0 []))) (fun t k => XS.ifYes X2.here hx rfl (pc0 := 75) (pc' := 82) rfl (hb hby d1_75) rfl ((if0 _ _).trans (tlt hc75_4).2.2.1) (by decide) (by decide) k) ?_
      refine Gl.st (B := (T2.setTop (mkF m 83 L0 [(.int (0 : Int32))]))) (fun t k => XS.iconst X2.here hx rfl (hb hby d1_82) k) ?_
      have ev83_s0_5 : v83_s0_5 = (0 : Int32) := by rw [hv83_s0_5, if_pos hc75_4]
      rw [ev83_s0_5] at J75_5
      exact J75_5
    · skip
      refine Gl.st (B := (T2.setTop (mkF m 78 L0 []))) (fun t k => XS.ifNo X2.here hx rfl (hb hby d1_75) rfl ((if0 _ _).trans (flt hc75_4).2.2.1) k) ?_
      refine Gl.st (B := (T2.setTop (mkF m 79 L0 [(.int (1 : Int32))]))) (fun t k => XS.iconst X2.here hx rfl (hb hby d1_78) k) ?_
      refine Gl.st (B := (T2.setTop (mkF m 83 L0 [(.int (1 : Int32))]))) (fun t k => XS.goto X2.here hx rfl (pc0 := 79) (pc' := 83) rfl (hb hby d1_79) (by decide) (by decide) k) ?_
      have ev83_s0_5 : v83_s0_5 = (1 : Int32) := by rw [hv83_s0_5, if_neg hc75_4]
      rw [ev83_s0_5] at J75_5
      exact J75_5
  obtain ⟨L6, hL6⟩ : ∃ z : Array Slot, z = #[.val (.ref a1), .val (.double d2), .second, .val (.double d3), .second, .val (.int v83_s0_5)] := ⟨_, rfl⟩
  refine Gl.st (B := (T2.setTop (mkF m 85 L6 []))) (fun t k => XS.istore X2.here hx rfl (hb hby d1_83) rfl (l' := L6) (stAt hL0 hL6 rfl rfl) k) ?_
  refine Gl.st (B := (T2.setTop (mkF m 87 L6 [(.int v83_s0_5)]))) (fun t k => XS.iload X2.here hx rfl (hb hby d1_85) (ldAt hL6 rfl) k) ?_
  obtain ⟨fs, hr, hrun, hended, hW, hsame⟩ := X2.leave (v := some (.int (nar .boolean v83_s0_5))) (fun h => by rw [Bd.returns] at h; cases h)
  refine Gl.fin (retN X2 hx (t := .boolean) Bd.returns (by simp) (hb hby d1_87) hr) hrun hended ⟨_, _, rfl, ?_, ⟨_, rfl⟩, hW, hsame.mono (by decide) (by decide)⟩
  show Q12 Z a1 d2 d3 w_target_a1 h0 n0 _ T2.heap _
  rw [eh2]
  exact ⟨(by subst hv83_s0_5; subst hx75_3; exact congrArg (fun z => some (Value.int z)) (own_nb rfl rfl)), N2, rfl⟩
theorem pn_0 : plainName "com/example/tokenpail/tokenpail/bench/MetricMetPinLaw" = true := by first | (simp [plainName, overriddenIn]; done) | decide +kernel
theorem pd_0_0 : parseMethodDescriptor "(DD)Z" = some ⟨[.double, .double], some .boolean⟩ := by decide +kernel
theorem ef_0 (m : MethodId) (p1 : Int32) (p2 : Int32) (p3 : Int32) : entryFrame m #[(.int p1), (.int p2), (.int p3)] maxLocals = mkF m 0 #[.val (.int p1), .val (.int p2), .val (.int p3), .unset, .unset, .unset, .unset, .unset, .unset, .unset] [] := by first | (simp [entryFrame, mkF, argsToLocals, Value.category, maxLocals]; done) | rfl
theorem own_0_hc123_19 (p2 : Int32) (x6_3 : UInt64) (x10_5 : UInt64) (p3 : Int32) (x14_7 : UInt64) (x18_9 : UInt64) (r118_18 : Int32) (v39_s0_15 : Int32) (hx6_3 : x6_3 = (Jvm.FP.i2d p2)) (hx10_5 : x10_5 = (Jvm.FP.ddiv x6_3 (4636737291354636288 : UInt64))) (hx14_7 : x14_7 = (Jvm.FP.i2d p3)) (hx18_9 : x18_9 = (Jvm.FP.ddiv x14_7 (4636737291354636288 : UInt64))) (hr118_18 : r118_18 = ((if ((Jvm.Op.cmpValue (Jvm.FP.dcmp x10_5 x18_9) .l)) < (0 : Int32) then (0 : Int32) else (1 : Int32)))) (hv39_s0_15 : v39_s0_15 = (if p2 < p3 then (0 : Int32) else (1 : Int32)))  : r118_18 = v39_s0_15 := by
  rw [hr118_18, hv39_s0_15, hx10_5, hx6_3, hx18_9, hx14_7, own_dcmp]
  simp only [own_clt]
theorem own_0_hc123_28 (p2 : Int32) (x6_3 : UInt64) (x10_5 : UInt64) (p3 : Int32) (x14_7 : UInt64) (x18_9 : UInt64) (r118_27 : Int32) (v64_s0_24 : Int32) (hx6_3 : x6_3 = (Jvm.FP.i2d p2)) (hx10_5 : x10_5 = (Jvm.FP.ddiv x6_3 (4636737291354636288 : UInt64))) (hx14_7 : x14_7 = (Jvm.FP.i2d p3)) (hx18_9 : x18_9 = (Jvm.FP.ddiv x14_7 (4636737291354636288 : UInt64))) (hr118_27 : r118_27 = ((if (0 : Int32) < ((Jvm.Op.cmpValue (Jvm.FP.dcmp x10_5 x18_9) .g)) then (0 : Int32) else (1 : Int32)))) (hv64_s0_24 : v64_s0_24 = (if p3 < p2 then (0 : Int32) else (1 : Int32)))  : r118_27 = v64_s0_24 := by
  rw [hr118_27, hv64_s0_24, hx10_5, hx6_3, hx18_9, hx14_7, own_dcmp]
  simp only [own_cgt]
theorem own_0_hc123_37 (p2 : Int32) (x6_3 : UInt64) (x10_5 : UInt64) (p3 : Int32) (x14_7 : UInt64) (x18_9 : UInt64) (r118_36 : Int32) (v89_s0_33 : Int32) (hx6_3 : x6_3 = (Jvm.FP.i2d p2)) (hx10_5 : x10_5 = (Jvm.FP.ddiv x6_3 (4636737291354636288 : UInt64))) (hx14_7 : x14_7 = (Jvm.FP.i2d p3)) (hx18_9 : x18_9 = (Jvm.FP.ddiv x14_7 (4636737291354636288 : UInt64))) (hr118_36 : r118_36 = ((if (0 : Int32) < ((Jvm.Op.cmpValue (Jvm.FP.dcmp x10_5 x18_9) .g)) then (0 : Int32) else (1 : Int32)))) (hv89_s0_33 : v89_s0_33 = (if p3 < p2 then (0 : Int32) else (1 : Int32)))  : r118_36 = v89_s0_33 := by
  rw [hr118_36, hv89_s0_33, hx10_5, hx6_3, hx18_9, hx14_7, own_dcmp]
  simp only [own_cgt]
theorem own_0_hc123_45 (p2 : Int32) (x6_3 : UInt64) (x10_5 : UInt64) (r118_44 : Int32) (v110_s0_41 : Int32) (hx6_3 : x6_3 = (Jvm.FP.i2d p2)) (hx10_5 : x10_5 = (Jvm.FP.ddiv x6_3 (4636737291354636288 : UInt64))) (hr118_44 : r118_44 = ((if (0 : Int32) < ((Jvm.Op.cmpValue (Jvm.FP.dcmp x10_5 (4607227454796291113 : UInt64)) .g)) then (0 : Int32) else (1 : Int32)))) (hv110_s0_41 : v110_s0_41 = (if (101 : Int32) < p2 then (0 : Int32) else (1 : Int32)))  : r118_44 = v110_s0_41 := by
  rw [hr118_44, hv110_s0_41, hx10_5, hx6_3, ← own_101, own_dcmp]
  simp only [own_cgt]
def Q0 (Z : State) (p1 : Int32) (p2 : Int32) (p3 : Int32) (z_DECISIONS : Addr) (w_target_z_DECISIONS : Addr) (z_MEAN : Addr) (w_target_z_MEAN : Addr) (z_P99 : Addr) (w_target_z_P99 : Addr) (z_REQUESTS : Addr) (w_target_z_REQUESTS : Addr) (h0 : Heap) (n0 : Nat) (v : Option Value) (h : Heap) (L : List Loc) : Prop := v = some (.int (1 : Int32)) ∧ Fr n0 L
set_option maxRecDepth 65536 in
set_option maxHeartbeats 40000000 in
theorem rm0 (l : Launch) (Z : State) (a0 : Array Value) (hw : ∀ d ∈ tables_1, d.before a0 Z = true) (ws : List Jvm.Cond) (p1 : Int32) (p2 : Int32) (p3 : Int32) (z_DECISIONS : Addr) (w_target_z_DECISIONS : Addr) (z_MEAN : Addr) (w_target_z_MEAN : Addr) (z_P99 : Addr) (w_target_z_P99 : Addr) (z_REQUESTS : Addr) (w_target_z_REQUESTS : Addr) (h0 : Heap) (n0 : Nat) (Z0 : n0 ≤ h0.size) (S_DECISIONS : Sta Z h0 "com/example/tokenpail/tokenpail/bench/Metric" "DECISIONS" "Lcom/example/tokenpail/tokenpail/bench/Metric;" (.ref z_DECISIONS)) (F_target_z_DECISIONS : Fld Z h0 z_DECISIONS "com/example/tokenpail/tokenpail/bench/Metric" "target" "Lcom/example/tokenpail/tokenpail/bench/Metric$Target;" (.ref w_target_z_DECISIONS)) (F_ordinal_w_target_z_DECISIONS : Fld Z h0 w_target_z_DECISIONS "java/lang/Enum" "ordinal" "I" (.int (0 : Int32))) (E_w_target_z_DECISIONS : Exa Z h0 w_target_z_DECISIONS "com/example/tokenpail/tokenpail/bench/Metric$Target") (E_z_DECISIONS : Exa Z h0 z_DECISIONS "com/example/tokenpail/tokenpail/bench/Metric") (S_MEAN : Sta Z h0 "com/example/tokenpail/tokenpail/bench/Metric" "MEAN" "Lcom/example/tokenpail/tokenpail/bench/Metric;" (.ref z_MEAN)) (F_target_z_MEAN : Fld Z h0 z_MEAN "com/example/tokenpail/tokenpail/bench/Metric" "target" "Lcom/example/tokenpail/tokenpail/bench/Metric$Target;" (.ref w_target_z_MEAN)) (F_ordinal_w_target_z_MEAN : Fld Z h0 w_target_z_MEAN "java/lang/Enum" "ordinal" "I" (.int (1 : Int32))) (E_w_target_z_MEAN : Exa Z h0 w_target_z_MEAN "com/example/tokenpail/tokenpail/bench/Metric$Target") (E_z_MEAN : Exa Z h0 z_MEAN "com/example/tokenpail/tokenpail/bench/Metric") (S_P99 : Sta Z h0 "com/example/tokenpail/tokenpail/bench/Metric" "P99" "Lcom/example/tokenpail/tokenpail/bench/Metric;" (.ref z_P99)) (F_target_z_P99 : Fld Z h0 z_P99 "com/example/tokenpail/tokenpail/bench/Metric" "target" "Lcom/example/tokenpail/tokenpail/bench/Metric$Target;" (.ref w_target_z_P99)) (F_ordinal_w_target_z_P99 : Fld Z h0 w_target_z_P99 "java/lang/Enum" "ordinal" "I" (.int (1 : Int32))) (E_w_target_z_P99 : Exa Z h0 w_target_z_P99 "com/example/tokenpail/tokenpail/bench/Metric$Target") (E_z_P99 : Exa Z h0 z_P99 "com/example/tokenpail/tokenpail/bench/Metric") (S_REQUESTS : Sta Z h0 "com/example/tokenpail/tokenpail/bench/Metric" "REQUESTS" "Lcom/example/tokenpail/tokenpail/bench/Metric;" (.ref z_REQUESTS)) (F_target_z_REQUESTS : Fld Z h0 z_REQUESTS "com/example/tokenpail/tokenpail/bench/Metric" "target" "Lcom/example/tokenpail/tokenpail/bench/Metric$Target;" (.ref w_target_z_REQUESTS)) (F_ordinal_w_target_z_REQUESTS : Fld Z h0 w_target_z_REQUESTS "java/lang/Enum" "ordinal" "I" (.int (2 : Int32))) (E_w_target_z_REQUESTS : Exa Z h0 w_target_z_REQUESTS "com/example/tokenpail/tokenpail/bench/Metric$Target") (E_z_REQUESTS : Exa Z h0 z_REQUESTS "com/example/tokenpail/tokenpail/bench/Metric") :
    MetFree l x (head1 (Jvm.Cond.code x code maxLocals ret :: ws) room_1) (fun a U => a = #[(.int p1), (.int p2), (.int p3)] ∧ Z.Warmed39 U.vm ∧ U.heap = h0) (fun _ _ _ _ _ => True) (fun _ U o U' => ∃ v L, o = .returned v ∧ Q0 Z p1 p2 p3 z_DECISIONS w_target_z_DECISIONS z_MEAN w_target_z_MEAN z_P99 w_target_z_P99 z_REQUESTS w_target_z_REQUESTS h0 n0 v U'.heap L ∧ FrameEnd U o U' L room_1.cells room_1.slots) := by
  refine MetFree.of_bodySF (plainFor_of_name pn_0) hisR ?_
  intro p e s m args below meth c s₁ Bd hml0 hP hK
  obtain ⟨rfl, hZ, hh⟩ := hP
  have hx := Bd.exec
  have hby := Bd.bytes
  have hml : c.maxLocals = 10 := hml0
  have hown : s.vm.findClass "com/example/tokenpail/tokenpail/bench/MetricMetPinLaw" = some m.cls := findClass_of_methodNamed Bd.named
  have hnm := (name_of_methodNamed Bd.named Bd.method).1
  have X0 : Stand p l e room_1 s m #[(.int p1), (.int p2), (.int p3)] below meth c s₁ [] 0 0 := Stand.of_body Bd
  have e0 : s₁.heap = h0 := by rw [← hh, Bd.state]; rfl
  have N0 := Fr.nil n0
  refine (show Gl p e below (fun o U' => ∃ v L, o = .returned v ∧ Q0 Z p1 p2 p3 z_DECISIONS w_target_z_DECISIONS z_MEAN w_target_z_MEAN z_P99 w_target_z_P99 z_REQUESTS w_target_z_REQUESTS h0 n0 v U'.heap L ∧ FrameEnd s o U' L room_1.cells room_1.slots) (s₁.setTop (entryFrame m #[(.int p1), (.int p2), (.int p3)] maxLocals)) from ?_)
  obtain ⟨L0, hL0⟩ : ∃ z : Array Slot, z = #[.val (.int p1), .val (.int p2), .val (.int p3), .unset, .unset, .unset, .unset, .unset, .unset, .unset] := ⟨_, rfl⟩
  refine Gl.st (B := (s₁.setTop (mkF m 0 L0 []))) (fun t k => castTop (efAt hL0 (ef_0 m p1 p2 p3)) k) ?_
  refine Gl.st (B := (s₁.setTop (mkF m 1 L0 [(.int p1)]))) (fun t k => XS.iloadN X0.here hx rfl (hb hby at_0) (ldAt hL0 rfl) k) ?_
  refine Gl.st (B := (s₁.setTop (mkF m 2 L0 [(.int (3 : Int32)), (.int p1)]))) (fun t k => XS.iconst X0.here hx rfl (hb hby at_1) k) ?_
  refine Gl.st (B := (s₁.setTop (mkF m 3 L0 [(.int (p1 &&& (3 : Int32)))]))) (fun t k => XS.iand X0.here hx rfl (hb hby at_2) rfl k) ?_
  obtain ⟨y3_3_1, hy3_3_1⟩ : ∃ z : Int32, z = (p1 &&& (3 : Int32)) := ⟨_, rfl⟩
  refine Gl.cast (B := (s₁.setTop (mkF m 3 L0 [(.int y3_3_1)]))) (by rw [hy3_3_1]) ?_
  obtain ⟨L2, hL2⟩ : ∃ z : Array Slot, z = #[.val (.int p1), .val (.int p2), .val (.int p3), .val (.int y3_3_1), .unset, .unset, .unset, .unset, .unset, .unset] := ⟨_, rfl⟩
  refine Gl.st (B := (s₁.setTop (mkF m 4 L2 []))) (fun t k => XS.istoreN X0.here hx rfl (hb hby at_3) rfl (l' := L2) (stAt hL0 hL2 rfl rfl) k) ?_
  refine Gl.st (B := (s₁.setTop (mkF m 5 L2 [(.int p2)]))) (fun t k => XS.iloadN X0.here hx rfl (hb hby at_4) (ldAt hL2 rfl) k) ?_
  refine Gl.st (B := (s₁.setTop (mkF m 6 L2 [(.double (Jvm.FP.i2d p2))]))) (fun t k => XS.i2dS X0.here hx rfl (hb hby at_5) rfl rfl k) ?_
  obtain ⟨x6_3, hx6_3⟩ : ∃ z : UInt64, z = (Jvm.FP.i2d p2) := ⟨_, rfl⟩
  refine Gl.cast (B := (s₁.setTop (mkF m 6 L2 [(.double x6_3)]))) (by rw [hx6_3]) ?_
  refine Gl.st (B := (s₁.setTop (mkF m 9 L2 [(.double (4636737291354636288 : UInt64)), (.double x6_3)]))) (fun t k => X0.ldc2DoubleC hx hown (mvT hZ (tw hw 0 rfl)) (g := (mkF m 6 L2 [(.double x6_3)])) rfl (hb hby at_6) _ k) ?_
  have nn4 : Jvm.Free.Fl.NoNaN64 (Jvm.FP.ddiv x6_3 (4636737291354636288 : UInt64)) := by rw [hx6_3]; exact own_no p2
  refine Gl.st (B := (s₁.setTop (mkF m 10 L2 [(.double (Jvm.FP.ddiv x6_3 (4636737291354636288 : UInt64)))]))) (fun t k => XS.ddivS X0.here hx rfl (hb hby at_9) rfl nn4 rfl k) ?_
  obtain ⟨x10_5, hx10_5⟩ : ∃ z : UInt64, z = (Jvm.FP.ddiv x6_3 (4636737291354636288 : UInt64)) := ⟨_, rfl⟩
  refine Gl.cast (B := (s₁.setTop (mkF m 10 L2 [(.double x10_5)]))) (by rw [hx10_5]) ?_
  obtain ⟨L6, hL6⟩ : ∃ z : Array Slot, z = #[.val (.int p1), .val (.int p2), .val (.int p3), .val (.int y3_3_1), .val (.double x10_5), .second, .unset, .unset, .unset, .unset] := ⟨_, rfl⟩
  refine Gl.st (B := (s₁.setTop (mkF m 12 L6 []))) (fun t k => XS.dstore X0.here hx rfl (hb hby at_10) rfl (l' := L6) (stAt hL2 hL6 rfl rfl) k) ?_
  refine Gl.st (B := (s₁.setTop (mkF m 13 L6 [(.int p3)]))) (fun t k => XS.iloadN X0.here hx rfl (hb hby at_12) (ldAt hL6 rfl) k) ?_
  refine Gl.st (B := (s₁.setTop (mkF m 14 L6 [(.double (Jvm.FP.i2d p3))]))) (fun t k => XS.i2dS X0.here hx rfl (hb hby at_13) rfl rfl k) ?_
  obtain ⟨x14_7, hx14_7⟩ : ∃ z : UInt64, z = (Jvm.FP.i2d p3) := ⟨_, rfl⟩
  refine Gl.cast (B := (s₁.setTop (mkF m 14 L6 [(.double x14_7)]))) (by rw [hx14_7]) ?_
  refine Gl.st (B := (s₁.setTop (mkF m 17 L6 [(.double (4636737291354636288 : UInt64)), (.double x14_7)]))) (fun t k => X0.ldc2DoubleC hx hown (mvT hZ (tw hw 0 rfl)) (g := (mkF m 14 L6 [(.double x14_7)])) rfl (hb hby at_14) _ k) ?_
  have nn8 : Jvm.Free.Fl.NoNaN64 (Jvm.FP.ddiv x14_7 (4636737291354636288 : UInt64)) := by rw [hx14_7]; exact own_no p3
  refine Gl.st (B := (s₁.setTop (mkF m 18 L6 [(.double (Jvm.FP.ddiv x14_7 (4636737291354636288 : UInt64)))]))) (fun t k => XS.ddivS X0.here hx rfl (hb hby at_17) rfl nn8 rfl k) ?_
  obtain ⟨x18_9, hx18_9⟩ : ∃ z : UInt64, z = (Jvm.FP.ddiv x14_7 (4636737291354636288 : UInt64)) := ⟨_, rfl⟩
  refine Gl.cast (B := (s₁.setTop (mkF m 18 L6 [(.double x18_9)]))) (by rw [hx18_9]) ?_
  obtain ⟨L10, hL10⟩ : ∃ z : Array Slot, z = #[.val (.int p1), .val (.int p2), .val (.int p3), .val (.int y3_3_1), .val (.double x10_5), .second, .val (.double x18_9), .second, .unset, .unset] := ⟨_, rfl⟩
  refine Gl.st (B := (s₁.setTop (mkF m 20 L10 []))) (fun t k => XS.dstore X0.here hx rfl (hb hby at_18) rfl (l' := L10) (stAt hL6 hL10 rfl rfl) k) ?_
  refine Gl.st (B := (s₁.setTop (mkF m 21 L10 [(.int y3_3_1)]))) (fun t k => XS.iloadN X0.here hx rfl (hb hby at_20) (ldAt hL10 rfl) k) ?_
  by_cases hc21_11 : y3_3_1 = (0 : Int32)
  · skip
    refine Gl.st (B := (s₁.setTop (mkF m 24 L10 []))) (fun t k => XS.ifNo X0.here hx rfl (hb hby at_21) rfl ((if0 _ _).trans (teq hc21_11).2) k) ?_
    obtain ⟨T12, X12, e12, st12⟩ := getS2 X0 hx hZ hown (host := "") (Or.inl (tw hw 1 rfl)) Via.refl e0 S_DECISIONS (g := (mkF m 24 L10 [])) rfl (hb hby at_24)
    refine Gl.st (B := (T12.setTop (mkF m 27 L10 [(.ref z_DECISIONS)]))) st12 ?_
    obtain ⟨L13, hL13⟩ : ∃ z : Array Slot, z = #[.val (.int p1), .val (.int p2), .val (.int p3), .val (.int y3_3_1), .val (.double x10_5), .second, .val (.double x18_9), .second, .val (.ref z_DECISIONS), .unset] := ⟨_, rfl⟩
    refine Gl.st (B := (T12.setTop (mkF m 29 L13 []))) (fun t k => XS.astore X12.here hx rfl (hb hby at_27) rfl rfl (l' := L13) (stAt hL10 hL13 rfl rfl) k) ?_
    refine Gl.st (B := (T12.setTop (mkF m 30 L13 [(.int p2)]))) (fun t k => XS.iloadN X12.here hx rfl (hb hby at_29) (ldAt hL13 rfl) k) ?_
    refine Gl.st (B := (T12.setTop (mkF m 31 L13 [(.int p3), (.int p2)]))) (fun t k => XS.iloadN X12.here hx rfl (hb hby at_30) (ldAt hL13 rfl) k) ?_
    obtain ⟨v39_s0_15, hv39_s0_15⟩ : ∃ z : Int32, z = (if p2 < p3 then (0 : Int32) else (1 : Int32)) := ⟨_, rfl⟩
    refine Gl.join (A := (T12.setTop (mkF m 39 L13 [(.int v39_s0_15)]))) (fun J31_15 => ?_) ?_
    · by_cases hc31_14 : p2 < p3
      · skip
        refine Gl.st (B := (T12.setTop (mkF m 38 L13 []))) (fun t k => XS.icmpYes X12.here hx rfl (pc0 := 31) (pc' := 38) rfl (hb hby at_31) rfl (tlt hc31_14).1 (by decide) (by decide) k) ?_
        refine Gl.st (B := (T12.setTop (mkF m 39 L13 [(.int (0 : Int32))]))) (fun t k => XS.iconst X12.here hx rfl (hb hby at_38) k) ?_
        have ev39_s0_15 : v39_s0_15 = (0 : Int32) := by rw [hv39_s0_15, if_pos hc31_14]
        rw [ev39_s0_15] at J31_15
        exact J31_15
      · skip
        refine Gl.st (B := (T12.setTop (mkF m 34 L13 []))) (fun t k => XS.icmpNo X12.here hx rfl (hb hby at_31) rfl (flt hc31_14).1 k) ?_
        refine Gl.st (B := (T12.setTop (mkF m 35 L13 [(.int (1 : Int32))]))) (fun t k => XS.iconst X12.here hx rfl (hb hby at_34) k) ?_
        refine Gl.st (B := (T12.setTop (mkF m 39 L13 [(.int (1 : Int32))]))) (fun t k => XS.goto X12.here hx rfl (pc0 := 35) (pc' := 39) rfl (hb hby at_35) (by decide) (by decide) k) ?_
        have ev39_s0_15 : v39_s0_15 = (1 : Int32) := by rw [hv39_s0_15, if_neg hc31_14]
        rw [ev39_s0_15] at J31_15
        exact J31_15
    obtain ⟨L16, hL16⟩ : ∃ z : Array Slot, z = #[.val (.int p1), .val (.int p2), .val (.int p3), .val (.int y3_3_1), .val (.double x10_5), .second, .val (.double x18_9), .second, .val (.ref z_DECISIONS), .val (.int v39_s0_15)] := ⟨_, rfl⟩
    refine Gl.st (B := (T12.setTop (mkF m 41 L16 []))) (fun t k => XS.istore X12.here hx rfl (hb hby at_39) rfl (l' := L16) (stAt hL13 hL16 rfl rfl) k) ?_
    refine Gl.st (B := (T12.setTop (mkF m 112 L16 []))) (fun t k => XS.goto X12.here hx rfl (pc0 := 41) (pc' := 112) rfl (hb hby at_41) (by decide) (by decide) k) ?_
    refine Gl.st (B := (T12.setTop (mkF m 114 L16 [(.ref z_DECISIONS)]))) (fun t k => XS.aload X12.here hx rfl (hb hby at_112) (ldAt hL16 rfl) rfl k) ?_
    refine Gl.st (B := (T12.setTop (mkF m 116 L16 [(.double x10_5), (.ref z_DECISIONS)]))) (fun t k => XS.dload X12.here hx rfl (hb hby at_114) (ldAt hL16 rfl) k) ?_
    refine Gl.st (B := (T12.setTop (mkF m 118 L16 [(.double x18_9), (.double x10_5), (.ref z_DECISIONS)]))) (fun t k => XS.dload X12.here hx rfl (hb hby at_116) (ldAt hL16 rfl) k) ?_
    obtain ⟨cq17, kq17, q17a, q17b, q17c⟩ := isOf hZ e12 E_z_DECISIONS
    obtain ⟨_, _, ⟨T17, L17q, k17, n17⟩, -, X17, ⟨Lc17, hQ17, l17, y17, z17⟩, st17⟩ := X12.virtualBack hx (y := (⟨"com/example/tokenpail/tokenpail/bench/Metric", "met", "(DD)Z"⟩ : MethodName)) (z := (⟨"com/example/tokenpail/tokenpail/bench/Metric", "met", "(DD)Z"⟩ : MethodName)) hown (mvT hZ (tw hw 4 rfl)) (mvT hZ (tw hw 5 rfl)) (notFace_of_selects (args := #[]) (mvT hZ (tw hw 7 rfl))) (mvT hZ (tw hw 7 rfl)) (mvT hZ (tw hw 6 rfl)) (by decide) (backOf (W := 0) (rm10 l Z a0 hw [] z_DECISIONS x10_5 x18_9 w_target_z_DECISIONS h0 n0 Z0 F_target_z_DECISIONS F_ordinal_w_target_z_DECISIONS E_w_target_z_DECISIONS) hZ (tw hw 8 rfl) (tw hw 2 rfl) (by decide) (by decide)) q17a q17c (g := (mkF m 118 L16 [(.double x18_9), (.double x10_5), (.ref z_DECISIONS)])) rfl (szAt hml hL16 rfl) (Steps.refl _) (argsL := [(.double x10_5), (.double x18_9)]) (rest := []) (lenOf pd_0_0 rfl) rfl (by show 2 * 0 + _ ≤ _; exact Nat.le_of_eq rfl) (hb hby at_118) (fun _ _ => ⟨rfl, e12, (by decide : 0 + 0 ≤ _), (by decide : 0 + 0 ≤ _)⟩)
    dsimp only [Pt.U, Pt.locs, Pt.cells, Pt.slots] at X17 l17 y17 z17 st17 hQ17
    subst l17 y17 z17
    obtain ⟨rfl, N17q, eh17⟩ := hQ17
    have N17 := Fr.app N0 N17q
    refine Gl.st (B := (T17.setTop (mkF m 121 L16 [(.int ((if ((Jvm.Op.cmpValue (Jvm.FP.dcmp x10_5 x18_9) .l)) < (0 : Int32) then (0 : Int32) else (1 : Int32))))]))) (fun t k => st17.trans k) ?_
    obtain ⟨r118_18, hr118_18⟩ : ∃ z : Int32, z = ((if ((Jvm.Op.cmpValue (Jvm.FP.dcmp x10_5 x18_9) .l)) < (0 : Int32) then (0 : Int32) else (1 : Int32))) := ⟨_, rfl⟩
    refine Gl.cast (B := (T17.setTop (mkF m 121 L16 [(.int r118_18)]))) (by rw [hr118_18]) ?_
    refine Gl.st (B := (T17.setTop (mkF m 123 L16 [(.int v39_s0_15), (.int r118_18)]))) (fun t k => XS.iload X17.here hx rfl (hb hby at_121) (ldAt hL16 rfl) k) ?_
    have hc123_19 : r118_18 = v39_s0_15 := own_0_hc123_19 p2 x6_3 x10_5 p3 x14_7 x18_9 r118_18 v39_s0_15 hx6_3 hx10_5 hx14_7 hx18_9 hr118_18 hv39_s0_15 
    refine Gl.st (B := (T17.setTop (mkF m 126 L16 []))) (fun t k => XS.icmpNo X17.here hx rfl (hb hby at_123) rfl (teq hc123_19).2 k) ?_
    refine Gl.st (B := (T17.setTop (mkF m 127 L16 [(.int (1 : Int32))]))) (fun t k => XS.iconst X17.here hx rfl (hb hby at_126) k) ?_
    refine Gl.st (B := (T17.setTop (mkF m 131 L16 [(.int (1 : Int32))]))) (fun t k => XS.goto X17.here hx rfl (pc0 := 127) (pc' := 131) rfl (hb hby at_127) (by decide) (by decide) k) ?_
    obtain ⟨fs, hr, hrun, hended, hW, hsame⟩ := X17.leave (v := some (.int (nar .boolean (1 : Int32)))) (fun h => by rw [Bd.returns] at h; cases h)
    refine Gl.fin (retN X17 hx (t := .boolean) Bd.returns (by simp) (hb hby at_131) hr) hrun hended ⟨_, _, rfl, ?_, ⟨_, rfl⟩, hW, hsame.mono (by decide) (by decide)⟩
    show Q0 Z p1 p2 p3 z_DECISIONS w_target_z_DECISIONS z_MEAN w_target_z_MEAN z_P99 w_target_z_P99 z_REQUESTS w_target_z_REQUESTS h0 n0 _ T17.heap _
    rw [eh17]
    exact ⟨rfl, N17⟩
  · skip
    refine Gl.st (B := (s₁.setTop (mkF m 44 L10 []))) (fun t k => XS.ifYes X0.here hx rfl (pc0 := 21) (pc' := 44) rfl (hb hby at_21) rfl ((if0 _ _).trans (feq hc21_11).2) (by decide) (by decide) k) ?_
    refine Gl.st (B := (s₁.setTop (mkF m 45 L10 [(.int y3_3_1)]))) (fun t k => XS.iloadN X0.here hx rfl (hb hby at_44) (ldAt hL10 rfl) k) ?_
    refine Gl.st (B := (s₁.setTop (mkF m 46 L10 [(.int (1 : Int32)), (.int y3_3_1)]))) (fun t k => XS.iconst X0.here hx rfl (hb hby at_45) k) ?_
    by_cases hc46_20 : y3_3_1 = (1 : Int32)
    · skip
      refine Gl.st (B := (s₁.setTop (mkF m 49 L10 []))) (fun t k => XS.icmpNo X0.here hx rfl (hb hby at_46) rfl (teq hc46_20).2 k) ?_
      obtain ⟨T21, X21, e21, st21⟩ := getS2 X0 hx hZ hown (host := "") (Or.inl (tw hw 22 rfl)) Via.refl e0 S_MEAN (g := (mkF m 49 L10 [])) rfl (hb hby at_49)
      refine Gl.st (B := (T21.setTop (mkF m 52 L10 [(.ref z_MEAN)]))) st21 ?_
      obtain ⟨L22, hL22⟩ : ∃ z : Array Slot, z = #[.val (.int p1), .val (.int p2), .val (.int p3), .val (.int y3_3_1), .val (.double x10_5), .second, .val (.double x18_9), .second, .val (.ref z_MEAN), .unset] := ⟨_, rfl⟩
      refine Gl.st (B := (T21.setTop (mkF m 54 L22 []))) (fun t k => XS.astore X21.here hx rfl (hb hby at_52) rfl rfl (l' := L22) (stAt hL10 hL22 rfl rfl) k) ?_
      refine Gl.st (B := (T21.setTop (mkF m 55 L22 [(.int p2)]))) (fun t k => XS.iloadN X21.here hx rfl (hb hby at_54) (ldAt hL22 rfl) k) ?_
      refine Gl.st (B := (T21.setTop (mkF m 56 L22 [(.int p3), (.int p2)]))) (fun t k => XS.iloadN X21.here hx rfl (hb hby at_55) (ldAt hL22 rfl) k) ?_
      obtain ⟨v64_s0_24, hv64_s0_24⟩ : ∃ z : Int32, z = (if p3 < p2 then (0 : Int32) else (1 : Int32)) := ⟨_, rfl⟩
      refine Gl.join (A := (T21.setTop (mkF m 64 L22 [(.int v64_s0_24)]))) (fun J56_24 => ?_) ?_
      · by_cases hc56_23 : p3 < p2
        · skip
          refine Gl.st (B := (T21.setTop (mkF m 63 L22 []))) (fun t k => XS.icmpYes X21.here hx rfl (pc0 := 56) (pc' := 63) rfl (hb hby at_56) rfl (tlt hc56_23).2.2.1 (by decide) (by decide) k) ?_
          refine Gl.st (B := (T21.setTop (mkF m 64 L22 [(.int (0 : Int32))]))) (fun t k => XS.iconst X21.here hx rfl (hb hby at_63) k) ?_
          have ev64_s0_24 : v64_s0_24 = (0 : Int32) := by rw [hv64_s0_24, if_pos hc56_23]
          rw [ev64_s0_24] at J56_24
          exact J56_24
        · skip
          refine Gl.st (B := (T21.setTop (mkF m 59 L22 []))) (fun t k => XS.icmpNo X21.here hx rfl (hb hby at_56) rfl (flt hc56_23).2.2.1 k) ?_
          refine Gl.st (B := (T21.setTop (mkF m 60 L22 [(.int (1 : Int32))]))) (fun t k => XS.iconst X21.here hx rfl (hb hby at_59) k) ?_
          refine Gl.st (B := (T21.setTop (mkF m 64 L22 [(.int (1 : Int32))]))) (fun t k => XS.goto X21.here hx rfl (pc0 := 60) (pc' := 64) rfl (hb hby at_60) (by decide) (by decide) k) ?_
          have ev64_s0_24 : v64_s0_24 = (1 : Int32) := by rw [hv64_s0_24, if_neg hc56_23]
          rw [ev64_s0_24] at J56_24
          exact J56_24
      obtain ⟨L25, hL25⟩ : ∃ z : Array Slot, z = #[.val (.int p1), .val (.int p2), .val (.int p3), .val (.int y3_3_1), .val (.double x10_5), .second, .val (.double x18_9), .second, .val (.ref z_MEAN), .val (.int v64_s0_24)] := ⟨_, rfl⟩
      refine Gl.st (B := (T21.setTop (mkF m 66 L25 []))) (fun t k => XS.istore X21.here hx rfl (hb hby at_64) rfl (l' := L25) (stAt hL22 hL25 rfl rfl) k) ?_
      refine Gl.st (B := (T21.setTop (mkF m 112 L25 []))) (fun t k => XS.goto X21.here hx rfl (pc0 := 66) (pc' := 112) rfl (hb hby at_66) (by decide) (by decide) k) ?_
      refine Gl.st (B := (T21.setTop (mkF m 114 L25 [(.ref z_MEAN)]))) (fun t k => XS.aload X21.here hx rfl (hb hby at_112) (ldAt hL25 rfl) rfl k) ?_
      refine Gl.st (B := (T21.setTop (mkF m 116 L25 [(.double x10_5), (.ref z_MEAN)]))) (fun t k => XS.dload X21.here hx rfl (hb hby at_114) (ldAt hL25 rfl) k) ?_
      refine Gl.st (B := (T21.setTop (mkF m 118 L25 [(.double x18_9), (.double x10_5), (.ref z_MEAN)]))) (fun t k => XS.dload X21.here hx rfl (hb hby at_116) (ldAt hL25 rfl) k) ?_
      obtain ⟨cq26, kq26, q26a, q26b, q26c⟩ := isOf hZ e21 E_z_MEAN
      obtain ⟨_, _, ⟨T26, L26q, k26, n26⟩, -, X26, ⟨Lc26, hQ26, l26, y26, z26⟩, st26⟩ := X21.virtualBack hx (y := (⟨"com/example/tokenpail/tokenpail/bench/Metric", "met", "(DD)Z"⟩ : MethodName)) (z := (⟨"com/example/tokenpail/tokenpail/bench/Metric", "met", "(DD)Z"⟩ : MethodName)) hown (mvT hZ (tw hw 4 rfl)) (mvT hZ (tw hw 5 rfl)) (notFace_of_selects (args := #[]) (mvT hZ (tw hw 7 rfl))) (mvT hZ (tw hw 7 rfl)) (mvT hZ (tw hw 6 rfl)) (by decide) (backOf (W := 0) (rm11 l Z a0 hw [] z_MEAN x10_5 x18_9 w_target_z_MEAN h0 n0 Z0 F_target_z_MEAN F_ordinal_w_target_z_MEAN E_w_target_z_MEAN) hZ (tw hw 8 rfl) (tw hw 2 rfl) (by decide) (by decide)) q26a q26c (g := (mkF m 118 L25 [(.double x18_9), (.double x10_5), (.ref z_MEAN)])) rfl (szAt hml hL25 rfl) (Steps.refl _) (argsL := [(.double x10_5), (.double x18_9)]) (rest := []) (lenOf pd_0_0 rfl) rfl (by show 2 * 0 + _ ≤ _; exact Nat.le_of_eq rfl) (hb hby at_118) (fun _ _ => ⟨rfl, e21, (by decide : 0 + 0 ≤ _), (by decide : 0 + 0 ≤ _)⟩)
      dsimp only [Pt.U, Pt.locs, Pt.cells, Pt.slots] at X26 l26 y26 z26 st26 hQ26
      subst l26 y26 z26
      obtain ⟨rfl, N26q, eh26⟩ := hQ26
      have N26 := Fr.app N0 N26q
      refine Gl.st (B := (T26.setTop (mkF m 121 L25 [(.int ((if (0 : Int32) < ((Jvm.Op.cmpValue (Jvm.FP.dcmp x10_5 x18_9) .g)) then (0 : Int32) else (1 : Int32))))]))) (fun t k => st26.trans k) ?_
      obtain ⟨r118_27, hr118_27⟩ : ∃ z : Int32, z = ((if (0 : Int32) < ((Jvm.Op.cmpValue (Jvm.FP.dcmp x10_5 x18_9) .g)) then (0 : Int32) else (1 : Int32))) := ⟨_, rfl⟩
      refine Gl.cast (B := (T26.setTop (mkF m 121 L25 [(.int r118_27)]))) (by rw [hr118_27]) ?_
      refine Gl.st (B := (T26.setTop (mkF m 123 L25 [(.int v64_s0_24), (.int r118_27)]))) (fun t k => XS.iload X26.here hx rfl (hb hby at_121) (ldAt hL25 rfl) k) ?_
      have hc123_28 : r118_27 = v64_s0_24 := own_0_hc123_28 p2 x6_3 x10_5 p3 x14_7 x18_9 r118_27 v64_s0_24 hx6_3 hx10_5 hx14_7 hx18_9 hr118_27 hv64_s0_24 
      refine Gl.st (B := (T26.setTop (mkF m 126 L25 []))) (fun t k => XS.icmpNo X26.here hx rfl (hb hby at_123) rfl (teq hc123_28).2 k) ?_
      refine Gl.st (B := (T26.setTop (mkF m 127 L25 [(.int (1 : Int32))]))) (fun t k => XS.iconst X26.here hx rfl (hb hby at_126) k) ?_
      refine Gl.st (B := (T26.setTop (mkF m 131 L25 [(.int (1 : Int32))]))) (fun t k => XS.goto X26.here hx rfl (pc0 := 127) (pc' := 131) rfl (hb hby at_127) (by decide) (by decide) k) ?_
      obtain ⟨fs, hr, hrun, hended, hW, hsame⟩ := X26.leave (v := some (.int (nar .boolean (1 : Int32)))) (fun h => by rw [Bd.returns] at h; cases h)
      refine Gl.fin (retN X26 hx (t := .boolean) Bd.returns (by simp) (hb hby at_131) hr) hrun hended ⟨_, _, rfl, ?_, ⟨_, rfl⟩, hW, hsame.mono (by decide) (by decide)⟩
      show Q0 Z p1 p2 p3 z_DECISIONS w_target_z_DECISIONS z_MEAN w_target_z_MEAN z_P99 w_target_z_P99 z_REQUESTS w_target_z_REQUESTS h0 n0 _ T26.heap _
      rw [eh26]
      exact ⟨rfl, N26⟩
    · skip
      refine Gl.st (B := (s₁.setTop (mkF m 69 L10 []))) (fun t k => XS.icmpYes X0.here hx rfl (pc0 := 46) (pc' := 69) rfl (hb hby at_46) rfl (feq hc46_20).2 (by decide) (by decide) k) ?_
      refine Gl.st (B := (s₁.setTop (mkF m 70 L10 [(.int y3_3_1)]))) (fun t k => XS.iloadN X0.here hx rfl (hb hby at_69) (ldAt hL10 rfl) k) ?_
      refine Gl.st (B := (s₁.setTop (mkF m 71 L10 [(.int (2 : Int32)), (.int y3_3_1)]))) (fun t k => XS.iconst X0.here hx rfl (hb hby at_70) k) ?_
      by_cases hc71_29 : y3_3_1 = (2 : Int32)
      · skip
        refine Gl.st (B := (s₁.setTop (mkF m 74 L10 []))) (fun t k => XS.icmpNo X0.here hx rfl (hb hby at_71) rfl (teq hc71_29).2 k) ?_
        obtain ⟨T30, X30, e30, st30⟩ := getS2 X0 hx hZ hown (host := "") (Or.inl (tw hw 29 rfl)) Via.refl e0 S_P99 (g := (mkF m 74 L10 [])) rfl (hb hby at_74)
        refine Gl.st (B := (T30.setTop (mkF m 77 L10 [(.ref z_P99)]))) st30 ?_
        obtain ⟨L31, hL31⟩ : ∃ z : Array Slot, z = #[.val (.int p1), .val (.int p2), .val (.int p3), .val (.int y3_3_1), .val (.double x10_5), .second, .val (.double x18_9), .second, .val (.ref z_P99), .unset] := ⟨_, rfl⟩
        refine Gl.st (B := (T30.setTop (mkF m 79 L31 []))) (fun t k => XS.astore X30.here hx rfl (hb hby at_77) rfl rfl (l' := L31) (stAt hL10 hL31 rfl rfl) k) ?_
        refine Gl.st (B := (T30.setTop (mkF m 80 L31 [(.int p2)]))) (fun t k => XS.iloadN X30.here hx rfl (hb hby at_79) (ldAt hL31 rfl) k) ?_
        refine Gl.st (B := (T30.setTop (mkF m 81 L31 [(.int p3), (.int p2)]))) (fun t k => XS.iloadN X30.here hx rfl (hb hby at_80) (ldAt hL31 rfl) k) ?_
        obtain ⟨v89_s0_33, hv89_s0_33⟩ : ∃ z : Int32, z = (if p3 < p2 then (0 : Int32) else (1 : Int32)) := ⟨_, rfl⟩
        refine Gl.join (A := (T30.setTop (mkF m 89 L31 [(.int v89_s0_33)]))) (fun J81_33 => ?_) ?_
        · by_cases hc81_32 : p3 < p2
          · skip
            refine Gl.st (B := (T30.setTop (mkF m 88 L31 []))) (fun t k => XS.icmpYes X30.here hx rfl (pc0 := 81) (pc' := 88) rfl (hb hby at_81) rfl (tlt hc81_32).2.2.1 (by decide) (by decide) k) ?_
            refine Gl.st (B := (T30.setTop (mkF m 89 L31 [(.int (0 : Int32))]))) (fun t k => XS.iconst X30.here hx rfl (hb hby at_88) k) ?_
            have ev89_s0_33 : v89_s0_33 = (0 : Int32) := by rw [hv89_s0_33, if_pos hc81_32]
            rw [ev89_s0_33] at J81_33
            exact J81_33
          · skip
            refine Gl.st (B := (T30.setTop (mkF m 84 L31 []))) (fun t k => XS.icmpNo X30.here hx rfl (hb hby at_81) rfl (flt hc81_32).2.2.1 k) ?_
            refine Gl.st (B := (T30.setTop (mkF m 85 L31 [(.int (1 : Int32))]))) (fun t k => XS.iconst X30.here hx rfl (hb hby at_84) k) ?_
            refine Gl.st (B := (T30.setTop (mkF m 89 L31 [(.int (1 : Int32))]))) (fun t k => XS.goto X30.here hx rfl (pc0 := 85) (pc' := 89) rfl (hb hby at_85) (by decide) (by decide) k) ?_
            have ev89_s0_33 : v89_s0_33 = (1 : Int32) := by rw [hv89_s0_33, if_neg hc81_32]
            rw [ev89_s0_33] at J81_33
            exact J81_33
        obtain ⟨L34, hL34⟩ : ∃ z : Array Slot, z = #[.val (.int p1), .val (.int p2), .val (.int p3), .val (.int y3_3_1), .val (.double x10_5), .second, .val (.double x18_9), .second, .val (.ref z_P99), .val (.int v89_s0_33)] := ⟨_, rfl⟩
        refine Gl.st (B := (T30.setTop (mkF m 91 L34 []))) (fun t k => XS.istore X30.here hx rfl (hb hby at_89) rfl (l' := L34) (stAt hL31 hL34 rfl rfl) k) ?_
        refine Gl.st (B := (T30.setTop (mkF m 112 L34 []))) (fun t k => XS.goto X30.here hx rfl (pc0 := 91) (pc' := 112) rfl (hb hby at_91) (by decide) (by decide) k) ?_
        refine Gl.st (B := (T30.setTop (mkF m 114 L34 [(.ref z_P99)]))) (fun t k => XS.aload X30.here hx rfl (hb hby at_112) (ldAt hL34 rfl) rfl k) ?_
        refine Gl.st (B := (T30.setTop (mkF m 116 L34 [(.double x10_5), (.ref z_P99)]))) (fun t k => XS.dload X30.here hx rfl (hb hby at_114) (ldAt hL34 rfl) k) ?_
        refine Gl.st (B := (T30.setTop (mkF m 118 L34 [(.double x18_9), (.double x10_5), (.ref z_P99)]))) (fun t k => XS.dload X30.here hx rfl (hb hby at_116) (ldAt hL34 rfl) k) ?_
        obtain ⟨cq35, kq35, q35a, q35b, q35c⟩ := isOf hZ e30 E_z_P99
        obtain ⟨_, _, ⟨T35, L35q, k35, n35⟩, -, X35, ⟨Lc35, hQ35, l35, y35, z35⟩, st35⟩ := X30.virtualBack hx (y := (⟨"com/example/tokenpail/tokenpail/bench/Metric", "met", "(DD)Z"⟩ : MethodName)) (z := (⟨"com/example/tokenpail/tokenpail/bench/Metric", "met", "(DD)Z"⟩ : MethodName)) hown (mvT hZ (tw hw 4 rfl)) (mvT hZ (tw hw 5 rfl)) (notFace_of_selects (args := #[]) (mvT hZ (tw hw 7 rfl))) (mvT hZ (tw hw 7 rfl)) (mvT hZ (tw hw 6 rfl)) (by decide) (backOf (W := 0) (rm11 l Z a0 hw [] z_P99 x10_5 x18_9 w_target_z_P99 h0 n0 Z0 F_target_z_P99 F_ordinal_w_target_z_P99 E_w_target_z_P99) hZ (tw hw 8 rfl) (tw hw 2 rfl) (by decide) (by decide)) q35a q35c (g := (mkF m 118 L34 [(.double x18_9), (.double x10_5), (.ref z_P99)])) rfl (szAt hml hL34 rfl) (Steps.refl _) (argsL := [(.double x10_5), (.double x18_9)]) (rest := []) (lenOf pd_0_0 rfl) rfl (by show 2 * 0 + _ ≤ _; exact Nat.le_of_eq rfl) (hb hby at_118) (fun _ _ => ⟨rfl, e30, (by decide : 0 + 0 ≤ _), (by decide : 0 + 0 ≤ _)⟩)
        dsimp only [Pt.U, Pt.locs, Pt.cells, Pt.slots] at X35 l35 y35 z35 st35 hQ35
        subst l35 y35 z35
        obtain ⟨rfl, N35q, eh35⟩ := hQ35
        have N35 := Fr.app N0 N35q
        refine Gl.st (B := (T35.setTop (mkF m 121 L34 [(.int ((if (0 : Int32) < ((Jvm.Op.cmpValue (Jvm.FP.dcmp x10_5 x18_9) .g)) then (0 : Int32) else (1 : Int32))))]))) (fun t k => st35.trans k) ?_
        obtain ⟨r118_36, hr118_36⟩ : ∃ z : Int32, z = ((if (0 : Int32) < ((Jvm.Op.cmpValue (Jvm.FP.dcmp x10_5 x18_9) .g)) then (0 : Int32) else (1 : Int32))) := ⟨_, rfl⟩
        refine Gl.cast (B := (T35.setTop (mkF m 121 L34 [(.int r118_36)]))) (by rw [hr118_36]) ?_
        refine Gl.st (B := (T35.setTop (mkF m 123 L34 [(.int v89_s0_33), (.int r118_36)]))) (fun t k => XS.iload X35.here hx rfl (hb hby at_121) (ldAt hL34 rfl) k) ?_
        have hc123_37 : r118_36 = v89_s0_33 := own_0_hc123_37 p2 x6_3 x10_5 p3 x14_7 x18_9 r118_36 v89_s0_33 hx6_3 hx10_5 hx14_7 hx18_9 hr118_36 hv89_s0_33 
        refine Gl.st (B := (T35.setTop (mkF m 126 L34 []))) (fun t k => XS.icmpNo X35.here hx rfl (hb hby at_123) rfl (teq hc123_37).2 k) ?_
        refine Gl.st (B := (T35.setTop (mkF m 127 L34 [(.int (1 : Int32))]))) (fun t k => XS.iconst X35.here hx rfl (hb hby at_126) k) ?_
        refine Gl.st (B := (T35.setTop (mkF m 131 L34 [(.int (1 : Int32))]))) (fun t k => XS.goto X35.here hx rfl (pc0 := 127) (pc' := 131) rfl (hb hby at_127) (by decide) (by decide) k) ?_
        obtain ⟨fs, hr, hrun, hended, hW, hsame⟩ := X35.leave (v := some (.int (nar .boolean (1 : Int32)))) (fun h => by rw [Bd.returns] at h; cases h)
        refine Gl.fin (retN X35 hx (t := .boolean) Bd.returns (by simp) (hb hby at_131) hr) hrun hended ⟨_, _, rfl, ?_, ⟨_, rfl⟩, hW, hsame.mono (by decide) (by decide)⟩
        show Q0 Z p1 p2 p3 z_DECISIONS w_target_z_DECISIONS z_MEAN w_target_z_MEAN z_P99 w_target_z_P99 z_REQUESTS w_target_z_REQUESTS h0 n0 _ T35.heap _
        rw [eh35]
        exact ⟨rfl, N35⟩
      · skip
        refine Gl.st (B := (s₁.setTop (mkF m 94 L10 []))) (fun t k => XS.icmpYes X0.here hx rfl (pc0 := 71) (pc' := 94) rfl (hb hby at_71) rfl (feq hc71_29).2 (by decide) (by decide) k) ?_
        obtain ⟨T38, X38, e38, st38⟩ := getS2 X0 hx hZ hown (host := "") (Or.inl (tw hw 25 rfl)) Via.refl e0 S_REQUESTS (g := (mkF m 94 L10 [])) rfl (hb hby at_94)
        refine Gl.st (B := (T38.setTop (mkF m 97 L10 [(.ref z_REQUESTS)]))) st38 ?_
        obtain ⟨L39, hL39⟩ : ∃ z : Array Slot, z = #[.val (.int p1), .val (.int p2), .val (.int p3), .val (.int y3_3_1), .val (.double x10_5), .second, .val (.double x18_9), .second, .val (.ref z_REQUESTS), .unset] := ⟨_, rfl⟩
        refine Gl.st (B := (T38.setTop (mkF m 99 L39 []))) (fun t k => XS.astore X38.here hx rfl (hb hby at_97) rfl rfl (l' := L39) (stAt hL10 hL39 rfl rfl) k) ?_
        refine Gl.st (B := (T38.setTop (mkF m 100 L39 [(.int p2)]))) (fun t k => XS.iloadN X38.here hx rfl (hb hby at_99) (ldAt hL39 rfl) k) ?_
        refine Gl.st (B := (T38.setTop (mkF m 102 L39 [(.int (101 : Int32)), (.int p2)]))) (fun t k => XS.bipush X38.here hx rfl (hb hby at_100) k) ?_
        obtain ⟨v110_s0_41, hv110_s0_41⟩ : ∃ z : Int32, z = (if (101 : Int32) < p2 then (0 : Int32) else (1 : Int32)) := ⟨_, rfl⟩
        refine Gl.join (A := (T38.setTop (mkF m 110 L39 [(.int v110_s0_41)]))) (fun J102_41 => ?_) ?_
        · by_cases hc102_40 : (101 : Int32) < p2
          · skip
            refine Gl.st (B := (T38.setTop (mkF m 109 L39 []))) (fun t k => XS.icmpYes X38.here hx rfl (pc0 := 102) (pc' := 109) rfl (hb hby at_102) rfl (tlt hc102_40).2.2.1 (by decide) (by decide) k) ?_
            refine Gl.st (B := (T38.setTop (mkF m 110 L39 [(.int (0 : Int32))]))) (fun t k => XS.iconst X38.here hx rfl (hb hby at_109) k) ?_
            have ev110_s0_41 : v110_s0_41 = (0 : Int32) := by rw [hv110_s0_41, if_pos hc102_40]
            rw [ev110_s0_41] at J102_41
            exact J102_41
          · skip
            refine Gl.st (B := (T38.setTop (mkF m 105 L39 []))) (fun t k => XS.icmpNo X38.here hx rfl (hb hby at_102) rfl (flt hc102_40).2.2.1 k) ?_
            refine Gl.st (B := (T38.setTop (mkF m 106 L39 [(.int (1 : Int32))]))) (fun t k => XS.iconst X38.here hx rfl (hb hby at_105) k) ?_
            refine Gl.st (B := (T38.setTop (mkF m 110 L39 [(.int (1 : Int32))]))) (fun t k => XS.goto X38.here hx rfl (pc0 := 106) (pc' := 110) rfl (hb hby at_106) (by decide) (by decide) k) ?_
            have ev110_s0_41 : v110_s0_41 = (1 : Int32) := by rw [hv110_s0_41, if_neg hc102_40]
            rw [ev110_s0_41] at J102_41
            exact J102_41
        obtain ⟨L42, hL42⟩ : ∃ z : Array Slot, z = #[.val (.int p1), .val (.int p2), .val (.int p3), .val (.int y3_3_1), .val (.double x10_5), .second, .val (.double x18_9), .second, .val (.ref z_REQUESTS), .val (.int v110_s0_41)] := ⟨_, rfl⟩
        refine Gl.st (B := (T38.setTop (mkF m 112 L42 []))) (fun t k => XS.istore X38.here hx rfl (hb hby at_110) rfl (l' := L42) (stAt hL39 hL42 rfl rfl) k) ?_
        refine Gl.st (B := (T38.setTop (mkF m 114 L42 [(.ref z_REQUESTS)]))) (fun t k => XS.aload X38.here hx rfl (hb hby at_112) (ldAt hL42 rfl) rfl k) ?_
        refine Gl.st (B := (T38.setTop (mkF m 116 L42 [(.double x10_5), (.ref z_REQUESTS)]))) (fun t k => XS.dload X38.here hx rfl (hb hby at_114) (ldAt hL42 rfl) k) ?_
        refine Gl.st (B := (T38.setTop (mkF m 118 L42 [(.double x18_9), (.double x10_5), (.ref z_REQUESTS)]))) (fun t k => XS.dload X38.here hx rfl (hb hby at_116) (ldAt hL42 rfl) k) ?_
        obtain ⟨cq43, kq43, q43a, q43b, q43c⟩ := isOf hZ e38 E_z_REQUESTS
        obtain ⟨_, _, ⟨T43, L43q, k43, n43⟩, -, X43, ⟨Lc43, hQ43, l43, y43, z43⟩, st43⟩ := X38.virtualBack hx (y := (⟨"com/example/tokenpail/tokenpail/bench/Metric", "met", "(DD)Z"⟩ : MethodName)) (z := (⟨"com/example/tokenpail/tokenpail/bench/Metric", "met", "(DD)Z"⟩ : MethodName)) hown (mvT hZ (tw hw 4 rfl)) (mvT hZ (tw hw 5 rfl)) (notFace_of_selects (args := #[]) (mvT hZ (tw hw 7 rfl))) (mvT hZ (tw hw 7 rfl)) (mvT hZ (tw hw 6 rfl)) (by decide) (backOf (W := 0) (rm12 l Z a0 hw [] z_REQUESTS x10_5 x18_9 w_target_z_REQUESTS h0 n0 Z0 F_target_z_REQUESTS F_ordinal_w_target_z_REQUESTS E_w_target_z_REQUESTS) hZ (tw hw 8 rfl) (tw hw 2 rfl) (by decide) (by decide)) q43a q43c (g := (mkF m 118 L42 [(.double x18_9), (.double x10_5), (.ref z_REQUESTS)])) rfl (szAt hml hL42 rfl) (Steps.refl _) (argsL := [(.double x10_5), (.double x18_9)]) (rest := []) (lenOf pd_0_0 rfl) rfl (by show 2 * 0 + _ ≤ _; exact Nat.le_of_eq rfl) (hb hby at_118) (fun _ _ => ⟨rfl, e38, (by decide : 0 + 0 ≤ _), (by decide : 0 + 0 ≤ _)⟩)
        dsimp only [Pt.U, Pt.locs, Pt.cells, Pt.slots] at X43 l43 y43 z43 st43 hQ43
        subst l43 y43 z43
        obtain ⟨rfl, N43q, eh43⟩ := hQ43
        have N43 := Fr.app N0 N43q
        refine Gl.st (B := (T43.setTop (mkF m 121 L42 [(.int ((if (0 : Int32) < ((Jvm.Op.cmpValue (Jvm.FP.dcmp x10_5 (4607227454796291113 : UInt64)) .g)) then (0 : Int32) else (1 : Int32))))]))) (fun t k => st43.trans k) ?_
        obtain ⟨r118_44, hr118_44⟩ : ∃ z : Int32, z = ((if (0 : Int32) < ((Jvm.Op.cmpValue (Jvm.FP.dcmp x10_5 (4607227454796291113 : UInt64)) .g)) then (0 : Int32) else (1 : Int32))) := ⟨_, rfl⟩
        refine Gl.cast (B := (T43.setTop (mkF m 121 L42 [(.int r118_44)]))) (by rw [hr118_44]) ?_
        refine Gl.st (B := (T43.setTop (mkF m 123 L42 [(.int v110_s0_41), (.int r118_44)]))) (fun t k => XS.iload X43.here hx rfl (hb hby at_121) (ldAt hL42 rfl) k) ?_
        have hc123_45 : r118_44 = v110_s0_41 := own_0_hc123_45 p2 x6_3 x10_5 r118_44 v110_s0_41 hx6_3 hx10_5 hr118_44 hv110_s0_41 
        refine Gl.st (B := (T43.setTop (mkF m 126 L42 []))) (fun t k => XS.icmpNo X43.here hx rfl (hb hby at_123) rfl (teq hc123_45).2 k) ?_
        refine Gl.st (B := (T43.setTop (mkF m 127 L42 [(.int (1 : Int32))]))) (fun t k => XS.iconst X43.here hx rfl (hb hby at_126) k) ?_
        refine Gl.st (B := (T43.setTop (mkF m 131 L42 [(.int (1 : Int32))]))) (fun t k => XS.goto X43.here hx rfl (pc0 := 127) (pc' := 131) rfl (hb hby at_127) (by decide) (by decide) k) ?_
        obtain ⟨fs, hr, hrun, hended, hW, hsame⟩ := X43.leave (v := some (.int (nar .boolean (1 : Int32)))) (fun h => by rw [Bd.returns] at h; cases h)
        refine Gl.fin (retN X43 hx (t := .boolean) Bd.returns (by simp) (hb hby at_131) hr) hrun hended ⟨_, _, rfl, ?_, ⟨_, rfl⟩, hW, hsame.mono (by decide) (by decide)⟩
        show Q0 Z p1 p2 p3 z_DECISIONS w_target_z_DECISIONS z_MEAN w_target_z_MEAN z_P99 w_target_z_P99 z_REQUESTS w_target_z_REQUESTS h0 n0 _ T43.heap _
        rw [eh43]
        exact ⟨rfl, N43⟩
set_option maxRecDepth 65536 in
set_option maxHeartbeats 40000000 in
theorem comes_1 {Post : Tables → Env → Array Value → State → Outcome → State → Prop} (hpost : ∀ tb e args s v u, (limb_1_1.after args s (.returned v) u = true ∧ limb_1_2.after args s (.returned v) u = true ∧ True) → FrameEnd s (.returned v) u (Jvm.fieldLocs frame_1_writes args s ++ Jvm.arrayLocs frame_1_arrays args s ++ Jvm.staticLocs frame_1_statics s) 0 0 → Post tb e args s (.returned v) u) :
    ArmFor flags0 classFile x code maxLocals ret World_1 tables_1 room_1 Calls_1 rest_1 Pre_1 Post := by
  intro l hfl _ _ p e ha hc hk s m args below hf hA hF happ hP
  obtain ⟨hcalls, hrest, hpre⟩ := hP
  obtain ⟨-, -, -, hnamed, -, -, -, hat⟩ := (Spec.applies_iff hf).mp happ
  obtain ⟨hg, hn⟩ := and_e (Cond.before_iff.mp (show (Jvm.Cond.and given_1 narrow_1).before args s = true from hpre))
  obtain ⟨g1, g2⟩ := and_e hg
  obtain ⟨g3, g4⟩ := and_e g2
  obtain ⟨g5, g6⟩ := and_e g4
  obtain ⟨w0, w1, w2, rfl⟩ : ∃ w0 w1 w2 : Value, args = #[w0, w1, w2] := by
    have hs : args.size = 3 := by simpa [Cond.value, given_1] using g1
    obtain ⟨L⟩ := args
    match L, hs with
    | [w0, w1, w2], _ => exact ⟨w0, w1, w2, rfl⟩
  have hw := fun d (hd : d ∈ tables_1) => atoms_spec (ws := Jvm.Cond.code x code maxLocals ret :: tables_1) hat d (List.mem_cons_of_mem _ hd)
  have hfit : Fit s := fun {y c} hc i hi => by
    obtain ⟨ha, rfl⟩ := Array.getElem?_eq_some_iff.mp hc
    have q := List.all_eq_true.mp ((Array.all_eq_true_iff_forall_mem.mp hF) _ (Array.getElem_mem ha)) i (List.mem_range.mpr hi)
    simpa [Array.getElem?_eq_getElem hi] using q
  obtain ⟨i0, ei0⟩ := is_v g3
  obtain rfl : w0 = (.int i0) := Option.some.inj ei0
  obtain ⟨i1, ei1⟩ := is_v g5
  obtain rfl : w1 = (.int i1) := Option.some.inj ei1
  obtain ⟨i2, ei2⟩ := is_v g6
  obtain rfl : w2 = (.int i2) := Option.some.inj ei2
  obtain ⟨g7, g8⟩ := and_e hn
  obtain ⟨g9, g10⟩ := and_e g8
  obtain ⟨g11, g12⟩ := and_e g10
  obtain ⟨g13, g14⟩ := and_e g12
  obtain ⟨g15, g16⟩ := and_e g14
  obtain ⟨g17, g18⟩ := and_e g16
  obtain ⟨g19, g20⟩ := and_e g18
  obtain ⟨g21, g22⟩ := and_e g20
  obtain ⟨g23, g24⟩ := and_e g22
  obtain ⟨g25, g26⟩ := and_e g24
  obtain ⟨g27, g28⟩ := and_e g26
  obtain ⟨g29, g30⟩ := and_e g28
  obtain ⟨g31, g32⟩ := and_e g30
  obtain ⟨z_DECISIONS, ez_DECISIONS⟩ := exa_v g7
  have Sz_DECISIONS : Sta s s.heap "com/example/tokenpail/tokenpail/bench/Metric" "DECISIONS" "Lcom/example/tokenpail/tokenpail/bench/Metric;" (.ref z_DECISIONS) := Sta.start ez_DECISIONS (Or.inr ⟨(tw hw 2 rfl), (tw hw 3 rfl)⟩)
  have Ez_DECISIONS : Exa s s.heap z_DECISIONS "com/example/tokenpail/tokenpail/bench/Metric" := Exa.start ez_DECISIONS g7
  obtain ⟨z_AT_L0, ez_AT_L0⟩ := exa_v g9
  have Sz_AT_L0 : Sta s s.heap "com/example/tokenpail/tokenpail/bench/Metric$Target" "AT_LEAST_THE_BEST" "Lcom/example/tokenpail/tokenpail/bench/Metric$Target;" (.ref z_AT_L0) := Sta.start ez_AT_L0 (Or.inr ⟨(tw hw 11 rfl), (tw hw 12 rfl)⟩)
  have Ez_AT_L0 : Exa s s.heap z_AT_L0 "com/example/tokenpail/tokenpail/bench/Metric$Target" := Exa.start ez_AT_L0 g9
  -- g11 : (Jvm.Cond.eq (Jvm.Term.field (Jvm.Term.static "com/example/tokenpail/tokenpail/bench/Metric" "DECISIONS" "Lcom/example/tokenpail/tokenpail/bench/Metric;") "com/example/tokenpail/tokenpail/bench/Metric" "target" "Lcom/example/tokenpail/tokenpail/bench/Metric$Target;") (Jvm.Term.static "com/example/to
  have F_ordinal_z_AT_L0 : Fld s s.heap z_AT_L0 "java/lang/Enum" "ordinal" "I" (.int (0 : Int32)) := Fld.start ((fld_at ez_AT_L0).symm.trans (own_eqI g13))
  obtain ⟨z_MEAN, ez_MEAN⟩ := exa_v g15
  have Sz_MEAN : Sta s s.heap "com/example/tokenpail/tokenpail/bench/Metric" "MEAN" "Lcom/example/tokenpail/tokenpail/bench/Metric;" (.ref z_MEAN) := Sta.start ez_MEAN (Or.inr ⟨(tw hw 2 rfl), (tw hw 23 rfl)⟩)
  have Ez_MEAN : Exa s s.heap z_MEAN "com/example/tokenpail/tokenpail/bench/Metric" := Exa.start ez_MEAN g15
  obtain ⟨z_AT_M1, ez_AT_M1⟩ := exa_v g17
  have Sz_AT_M1 : Sta s s.heap "com/example/tokenpail/tokenpail/bench/Metric$Target" "AT_MOST_THE_BEST" "Lcom/example/tokenpail/tokenpail/bench/Metric$Target;" (.ref z_AT_M1) := Sta.start ez_AT_M1 (Or.inr ⟨(tw hw 11 rfl), (tw hw 24 rfl)⟩)
  have Ez_AT_M1 : Exa s s.heap z_AT_M1 "com/example/tokenpail/tokenpail/bench/Metric$Target" := Exa.start ez_AT_M1 g17
  -- g19 : (Jvm.Cond.eq (Jvm.Term.field (Jvm.Term.static "com/example/tokenpail/tokenpail/bench/Metric" "MEAN" "Lcom/example/tokenpail/tokenpail/bench/Metric;") "com/example/tokenpail/tokenpail/bench/Metric" "target" "Lcom/example/tokenpail/tokenpail/bench/Metric$Target;") (Jvm.Term.static "com/example/tokenpa
  have F_ordinal_z_AT_M1 : Fld s s.heap z_AT_M1 "java/lang/Enum" "ordinal" "I" (.int (1 : Int32)) := Fld.start ((fld_at ez_AT_M1).symm.trans (own_eqI g21))
  obtain ⟨z_REQUESTS, ez_REQUESTS⟩ := exa_v g23
  have Sz_REQUESTS : Sta s s.heap "com/example/tokenpail/tokenpail/bench/Metric" "REQUESTS" "Lcom/example/tokenpail/tokenpail/bench/Metric;" (.ref z_REQUESTS) := Sta.start ez_REQUESTS (Or.inr ⟨(tw hw 2 rfl), (tw hw 26 rfl)⟩)
  have Ez_REQUESTS : Exa s s.heap z_REQUESTS "com/example/tokenpail/tokenpail/bench/Metric" := Exa.start ez_REQUESTS g23
  obtain ⟨z_AT_MOST_1_01, ez_AT_MOST_1_01⟩ := exa_v g25
  have Sz_AT_MOST_1_01 : Sta s s.heap "com/example/tokenpail/tokenpail/bench/Metric$Target" "AT_MOST_1_01" "Lcom/example/tokenpail/tokenpail/bench/Metric$Target;" (.ref z_AT_MOST_1_01) := Sta.start ez_AT_MOST_1_01 (Or.inr ⟨(tw hw 11 rfl), (tw hw 27 rfl)⟩)
  have Ez_AT_MOST_1_01 : Exa s s.heap z_AT_MOST_1_01 "com/example/tokenpail/tokenpail/bench/Metric$Target" := Exa.start ez_AT_MOST_1_01 g25
  -- g27 : (Jvm.Cond.eq (Jvm.Term.field (Jvm.Term.static "com/example/tokenpail/tokenpail/bench/Metric" "REQUESTS" "Lcom/example/tokenpail/tokenpail/bench/Metric;") "com/example/tokenpail/tokenpail/bench/Metric" "target" "Lcom/example/tokenpail/tokenpail/bench/Metric$Target;") (Jvm.Term.static "com/example/tok
  have F_ordinal_z_AT_MOST_1_01 : Fld s s.heap z_AT_MOST_1_01 "java/lang/Enum" "ordinal" "I" (.int (2 : Int32)) := Fld.start ((fld_at ez_AT_MOST_1_01).symm.trans (own_eqI g29))
  obtain ⟨z_P99, ez_P99⟩ := exa_v g31
  have Sz_P99 : Sta s s.heap "com/example/tokenpail/tokenpail/bench/Metric" "P99" "Lcom/example/tokenpail/tokenpail/bench/Metric;" (.ref z_P99) := Sta.start ez_P99 (Or.inr ⟨(tw hw 2 rfl), (tw hw 30 rfl)⟩)
  have Ez_P99 : Exa s s.heap z_P99 "com/example/tokenpail/tokenpail/bench/Metric" := Exa.start ez_P99 g31
  -- g32 : (Jvm.Cond.eq (Jvm.Term.field (Jvm.Term.static "com/example/tokenpail/tokenpail/bench/Metric" "P99" "Lcom/example/tokenpail/tokenpail/bench/Metric;") "com/example/tokenpail/tokenpail/bench/Metric" "target" "Lcom/example/tokenpail/tokenpail/bench/Metric$Target;") (Jvm.Term.static "com/example/tokenpai
  have F_target_z_DECISIONS : Fld s s.heap z_DECISIONS "com/example/tokenpail/tokenpail/bench/Metric" "target" "Lcom/example/tokenpail/tokenpail/bench/Metric$Target;" (.ref z_AT_L0) := Fld.start ((fld_at ez_DECISIONS).symm.trans (own_eqRef ez_AT_L0 g11))
  have F_target_z_MEAN : Fld s s.heap z_MEAN "com/example/tokenpail/tokenpail/bench/Metric" "target" "Lcom/example/tokenpail/tokenpail/bench/Metric$Target;" (.ref z_AT_M1) := Fld.start ((fld_at ez_MEAN).symm.trans (own_eqRef ez_AT_M1 g19))
  have F_target_z_REQUESTS : Fld s s.heap z_REQUESTS "com/example/tokenpail/tokenpail/bench/Metric" "target" "Lcom/example/tokenpail/tokenpail/bench/Metric$Target;" (.ref z_AT_MOST_1_01) := Fld.start ((fld_at ez_REQUESTS).symm.trans (own_eqRef ez_AT_MOST_1_01 g27))
  have F_target_z_P99 : Fld s s.heap z_P99 "com/example/tokenpail/tokenpail/bench/Metric" "target" "Lcom/example/tokenpail/tokenpail/bench/Metric$Target;" (.ref z_AT_M1) := Fld.start ((fld_at ez_P99).symm.trans (own_eqRef ez_AT_M1 g32))
  obtain ⟨n, o, h1, h2, h3, _, L, rfl, ⟨rfl, N⟩, hq⟩ := rm0 l s _ hw tables_1 i0 i1 i2 z_DECISIONS z_AT_L0 z_MEAN z_AT_M1 z_P99 z_AT_M1 z_REQUESTS z_AT_MOST_1_01 s.heap s.heap.size (Nat.le_refl _) Sz_DECISIONS F_target_z_DECISIONS F_ordinal_z_AT_L0 Ez_AT_L0 Ez_DECISIONS Sz_MEAN F_target_z_MEAN F_ordinal_z_AT_M1 Ez_AT_M1 Ez_MEAN Sz_P99 F_target_z_P99 F_ordinal_z_AT_M1 Ez_AT_M1 Ez_P99 Sz_REQUESTS F_target_z_REQUESTS F_ordinal_z_AT_MOST_1_01 Ez_AT_MOST_1_01 Ez_REQUESTS p e ha hc hk s m _ below hf ((Spec.applies_iff_loose hf).mp happ).1 ⟨rfl, State.Warmed39.refl s, rfl⟩ trivial
  refine ⟨n, _, h1, h2, h3, hpost _ _ _ _ _ _ ⟨Cond.after_iff.mpr rfl, Cond.after_iff.mpr (eq_i res_at (Term.int_eval (1)) rfl), trivial⟩ ⟨hq.1, hq.2.1, (hq.2.2.sift fun y hy => Or.inr (N y hy)).mono (by decide) (by decide)⟩⟩
theorem main_1_1 : Claimed_1_1 := comes_1 fun _ _ _ _ _ _ h hF => ⟨h.1, hF⟩
theorem main_1_2 : Claimed_1_2 := comes_1 fun _ _ _ _ _ _ h hF => ⟨h.2.1, hF⟩
end Jvm.Pilot.@@N@@
namespace Jvm.Pilot.@@N@@
open Jvm Jvm.ClassFile Sem Op Lib Jvm.Free Jvm.Stand Jvm.Pilot.@@N@@.Jvm.D
/-! MADE BY PROGRAM (witnessworld.py) out of the Statement's table words and the real class files: 13 classes; the members and pool entries that the words name. The judged class is class 1, her method 1. -/
namespace start1
open Jvm.ClassFile
def u (s : String) : CpInfo := .utf8 (stringToUtf16 s)
/-- a pool by its gaps: so many unusable entries, then the entry; so many at the end -/
def gap : Nat → List CpInfo → List CpInfo
  | 0, r => r
  | n + 1, r => .unusable :: gap n r
def poolList (es : List (Nat × CpInfo)) (last : Nat) : List CpInfo := es.foldr (fun e r => gap e.1 (e.2 :: r)) (gap last [])
def pool (es : List (Nat × CpInfo)) (last : Nat) : Array CpInfo := ⟨poolList es last⟩
def fileOf (pool : Array CpInfo) (this : Nat) (attrs : Array Attribute := #[]) (ms : Array MethodInfo := #[]) (fl : Nat := 33) (sup : Nat := 0) (ifs : Array Nat := #[]) (fds : Array FieldInfo := #[]) : ClassFile where
  minorVersion := 0
  majorVersion := 65
  constantPool := pool
  accessFlags := fl
  thisClass := this
  superClass := sup
  interfaces := ifs
  fields := fds
  methods := ms
  attributes := attrs
def plain (name : String) (sup : Option ClassId) : Class where
  name := name
  kind := .ordinary
  loader := none
  accessFlags := 33
  super := sup
  interfaces := #[]
  cf := none
  fields := #[]
  methods := #[]
  instanceTypes := #[]
  staticTypes := #[]
  resolved := #[]
  callSites := []
  init := .initialized
  statics := none
  mirror := none

def pool0 : Array CpInfo := pool [(5, u "<init>"), (0, u "()V"), (1, .class_ 10), (1, u "java/lang/Object")] 113

def k0m0 : Method := { name := "<init>", desc := "()V", sig := { parameters := [], returnType := none }, accessFlags := 1, code := none }
/-- java/lang/Object -/
def k0 : Class := { plain "java/lang/Object" none with
  accessFlags := 33
  interfaces := #[]
  cf := some (fileOf pool0 8 #[] #[{ accessFlags := 1, nameIndex := 5, descriptorIndex := 6, attributes := #[] }] 33 0 #[] #[])
  fields := #[]
  methods := #[k0m0]
  instanceTypes := #[]
  staticTypes := #[]
  resolved := Array.replicate 124 none
  statics := none }

def pool1 : Array CpInfo := pool [(2, .class_ 4), (1, u "java/lang/Object"), (0, u "<init>"), (0, u "()V"), (0, .double 4636737291354636288), (1, .fieldref 10 11), (0, .class_ 12), (0, .nameAndType 13 14), (0, u "com/example/tokenpail/tokenpail/bench/Metric"), (0, u "DECISIONS"), (0, u "Lcom/example/tokenpail/tokenpail/bench/Metric;"), (0, .fieldref 10 16), (0, .nameAndType 17 14), (0, u "MEAN"), (0, .fieldref 10 19), (0, .nameAndType 20 14), (0, u "P99"), (0, .fieldref 10 22), (0, .nameAndType 23 14), (0, u "REQUESTS"), (0, .methodref 10 25), (0, .nameAndType 26 27), (0, u "met"), (0, u "(DD)Z"), (0, .class_ 29), (0, u "com/example/tokenpail/tokenpail/bench/MetricMetPinLaw"), (2, u "law"), (0, u "(III)Z")] 3

def k1m0 : Method := { name := "<init>", desc := "()V", sig := { parameters := [], returnType := none }, accessFlags := 2, code := none }
def k1c1 : Code := { maxStack := 5, maxLocals := 10, code := code, exceptionTable := #[], attributes := #[] }
def k1m1 : Method := { name := "law", desc := "(III)Z", sig := { parameters := [.int, .int, .int], returnType := some .boolean }, accessFlags := 9, code := some k1c1 }
/-- com/example/tokenpail/tokenpail/bench/MetricMetPinLaw -/
def k1 : Class := { plain "com/example/tokenpail/tokenpail/bench/MetricMetPinLaw" (some 0) with
  accessFlags := 49
  interfaces := #[]
  cf := some (fileOf pool1 28 #[] #[{ accessFlags := 2, nameIndex := 5, descriptorIndex := 6, attributes := #[] }, { accessFlags := 9, nameIndex := 32, descriptorIndex := 33, attributes := #[] }] 49 2 #[] #[])
  fields := #[]
  methods := #[k1m0, k1m1]
  instanceTypes := #[]
  staticTypes := #[]
  resolved := Array.replicate 37 none
  statics := none }

def pool2 : Array CpInfo := pool [(1, .class_ 2), (0, u "java/lang/constant/Constable"), (0, .class_ 4), (0, u "java/lang/Object")] 6

/-- java/lang/constant/Constable -/
def k2 : Class := { plain "java/lang/constant/Constable" (some 0) with
  accessFlags := 1537
  interfaces := #[]
  cf := some (fileOf pool2 1 #[] #[] 1537 3 #[] #[])
  fields := #[]
  methods := #[]
  instanceTypes := #[]
  staticTypes := #[]
  resolved := Array.replicate 11 none
  statics := none }

def pool3 : Array CpInfo := pool [(1, .class_ 2), (0, u "java/lang/Comparable"), (0, .class_ 4), (0, u "java/lang/Object")] 7

/-- java/lang/Comparable -/
def k3 : Class := { plain "java/lang/Comparable" (some 0) with
  accessFlags := 1537
  interfaces := #[]
  cf := some (fileOf pool3 1 #[] #[] 1537 3 #[] #[])
  fields := #[]
  methods := #[]
  instanceTypes := #[]
  staticTypes := #[]
  resolved := Array.replicate 12 none
  statics := none }

def pool4 : Array CpInfo := pool [(1, .class_ 2), (0, u "java/io/Serializable"), (0, .class_ 4), (0, u "java/lang/Object")] 2

/-- java/io/Serializable -/
def k4 : Class := { plain "java/io/Serializable" (some 0) with
  accessFlags := 1537
  interfaces := #[]
  cf := some (fileOf pool4 1 #[] #[] 1537 3 #[] #[])
  fields := #[]
  methods := #[]
  instanceTypes := #[]
  staticTypes := #[]
  resolved := Array.replicate 7 none
  statics := none }

def pool5 : Array CpInfo := pool [(2, .class_ 4), (1, u "java/lang/Enum"), (0, u "name"), (0, u "Ljava/lang/String;"), (0, .fieldref 2 8), (0, .nameAndType 9 10), (0, u "ordinal"), (0, u "I"), (1, .class_ 14), (1, u "java/lang/Object"), (4, u "hash"), (86, .class_ 108), (1, u "java/lang/Enum$EnumDesc"), (2, .class_ 112), (0, u "java/lang/constant/Constable"), (0, .class_ 114), (0, u "java/lang/Comparable"), (0, .class_ 116), (0, u "java/io/Serializable"), (9, u "()I")] 77

def k5c0 : Code := { maxStack := 1, maxLocals := 1, code := jdk_37_method_2_code, exceptionTable := #[], attributes := #[] }
def k5m0 : Method := { name := "ordinal", desc := "()I", sig := { parameters := [], returnType := some .int }, accessFlags := 17, code := some k5c0 }
/-- java/lang/Enum -/
def k5 : Class := { plain "java/lang/Enum" (some 0) with
  accessFlags := 1057
  interfaces := #[2, 3, 4]
  cf := some (fileOf pool5 2 #[.nestMembers #[106]] #[{ accessFlags := 17, nameIndex := 9, descriptorIndex := 126, attributes := #[] }] 1057 12 #[111, 113, 115] #[{ accessFlags := 18, nameIndex := 5, descriptorIndex := 6, attributes := #[] }, { accessFlags := 18, nameIndex := 9, descriptorIndex := 10, attributes := #[] }, { accessFlags := 2, nameIndex := 19, descriptorIndex := 10, attributes := #[] }])
  fields := #[{ name := "name", type := (.object "java/lang/String"), accessFlags := 18, slot := 0, constantValue := 0 }, { name := "ordinal", type := .int, accessFlags := 18, slot := 1, constantValue := 0 }, { name := "hash", type := .int, accessFlags := 2, slot := 2, constantValue := 0 }]
  methods := #[k5m0]
  instanceTypes := #[(.object "java/lang/String"), .int, .int]
  staticTypes := #[]
  resolved := Array.replicate 204 none
  statics := none }

def pool6 : Array CpInfo := pool [(1, .class_ 2), (0, u "com/example/tokenpail/tokenpail/bench/Metric"), (2, u "DECISIONS"), (0, u "Lcom/example/tokenpail/tokenpail/bench/Metric;"), (2, u "MEAN"), (2, u "P99"), (2, u "REQUESTS"), (2, u "$VALUES"), (0, u "[Lcom/example/tokenpail/tokenpail/bench/Metric;"), (6, .class_ 28), (1, u "java/lang/Enum"), (8, u "title"), (0, u "Ljava/lang/String;"), (2, u "format"), (0, .fieldref 1 43), (0, .nameAndType 44 45), (0, u "target"), (0, u "Lcom/example/tokenpail/tokenpail/bench/Metric$Target;"), (13, .class_ 61), (1, u "com/example/tokenpail/tokenpail/bench/Metric$Target"), (10, .methodref 59 73), (0, .nameAndType 74 75), (0, u "ordinal"), (0, u "()I"), (5, .double 4607227454796291113), (38, u "MOST_REQUESTS"), (0, u "D"), (12, u "met"), (0, u "(DD)Z")] 8

def k6c0 : Code := { maxStack := 4, maxLocals := 6, code := prog_2_method_7_code, exceptionTable := #[], attributes := #[] }
def k6m0 : Method := { name := "met", desc := "(DD)Z", sig := { parameters := [.double, .double], returnType := some .boolean }, accessFlags := 0, code := some k6c0 }
/-- com/example/tokenpail/tokenpail/bench/Metric -/
def k6 : Class := { plain "com/example/tokenpail/tokenpail/bench/Metric" (some 5) with
  accessFlags := 16432
  interfaces := #[]
  cf := some (fileOf pool6 1 #[.nestMembers #[59]] #[{ accessFlags := 0, nameIndex := 134, descriptorIndex := 135, attributes := #[] }] 16432 26 #[] #[{ accessFlags := 16409, nameIndex := 5, descriptorIndex := 6, attributes := #[] }, { accessFlags := 16409, nameIndex := 9, descriptorIndex := 6, attributes := #[] }, { accessFlags := 16409, nameIndex := 12, descriptorIndex := 6, attributes := #[] }, { accessFlags := 16409, nameIndex := 15, descriptorIndex := 6, attributes := #[] }, { accessFlags := 26, nameIndex := 120, descriptorIndex := 121, attributes := #[] }, { accessFlags := 18, nameIndex := 37, descriptorIndex := 38, attributes := #[] }, { accessFlags := 18, nameIndex := 41, descriptorIndex := 38, attributes := #[] }, { accessFlags := 18, nameIndex := 44, descriptorIndex := 45, attributes := #[] }, { accessFlags := 4122, nameIndex := 18, descriptorIndex := 19, attributes := #[] }])
  fields := #[{ name := "DECISIONS", type := (.object "com/example/tokenpail/tokenpail/bench/Metric"), accessFlags := 16409, slot := 0, constantValue := 0 }, { name := "MEAN", type := (.object "com/example/tokenpail/tokenpail/bench/Metric"), accessFlags := 16409, slot := 1, constantValue := 0 }, { name := "P99", type := (.object "com/example/tokenpail/tokenpail/bench/Metric"), accessFlags := 16409, slot := 2, constantValue := 0 }, { name := "REQUESTS", type := (.object "com/example/tokenpail/tokenpail/bench/Metric"), accessFlags := 16409, slot := 3, constantValue := 0 }, { name := "MOST_REQUESTS", type := .double, accessFlags := 26, slot := 4, constantValue := 0 }, { name := "title", type := (.object "java/lang/String"), accessFlags := 18, slot := 3, constantValue := 0 }, { name := "format", type := (.object "java/lang/String"), accessFlags := 18, slot := 4, constantValue := 0 }, { name := "target", type := (.object "com/example/tokenpail/tokenpail/bench/Metric$Target"), accessFlags := 18, slot := 5, constantValue := 0 }, { name := "$VALUES", type := (.array (.object "com/example/tokenpail/tokenpail/bench/Metric")), accessFlags := 4122, slot := 5, constantValue := 0 }]
  methods := #[k6m0]
  instanceTypes := #[(.object "java/lang/String"), .int, .int, (.object "java/lang/String"), (.object "java/lang/String"), (.object "com/example/tokenpail/tokenpail/bench/Metric$Target")]
  staticTypes := #[(.object "com/example/tokenpail/tokenpail/bench/Metric"), (.object "com/example/tokenpail/tokenpail/bench/Metric"), (.object "com/example/tokenpail/tokenpail/bench/Metric"), (.object "com/example/tokenpail/tokenpail/bench/Metric"), .double, (.array (.object "com/example/tokenpail/tokenpail/bench/Metric"))]
  resolved := Array.replicate 144 none
  statics := some 0 }

def pool7 : Array CpInfo := pool [(1, .class_ 2), (0, u "com/example/tokenpail/tokenpail/bench/Metric$Target"), (2, u "AT_LEAST_THE_BEST"), (0, u "Lcom/example/tokenpail/tokenpail/bench/Metric$Target;"), (2, u "AT_MOST_THE_BEST"), (2, u "AT_MOST_1_01"), (2, u "$VALUES"), (0, u "[Lcom/example/tokenpail/tokenpail/bench/Metric$Target;"), (6, .class_ 25), (1, u "java/lang/Enum"), (26, .class_ 53), (0, u "com/example/tokenpail/tokenpail/bench/Metric")] 2

/-- com/example/tokenpail/tokenpail/bench/Metric$Target -/
def k7 : Class := { plain "com/example/tokenpail/tokenpail/bench/Metric$Target" (some 5) with
  accessFlags := 16432
  interfaces := #[]
  cf := some (fileOf pool7 1 #[.nestHost 52] #[] 16432 23 #[] #[{ accessFlags := 16409, nameIndex := 5, descriptorIndex := 6, attributes := #[] }, { accessFlags := 16409, nameIndex := 9, descriptorIndex := 6, attributes := #[] }, { accessFlags := 16409, nameIndex := 12, descriptorIndex := 6, attributes := #[] }, { accessFlags := 4122, nameIndex := 15, descriptorIndex := 16, attributes := #[] }])
  fields := #[{ name := "AT_LEAST_THE_BEST", type := (.object "com/example/tokenpail/tokenpail/bench/Metric$Target"), accessFlags := 16409, slot := 0, constantValue := 0 }, { name := "AT_MOST_THE_BEST", type := (.object "com/example/tokenpail/tokenpail/bench/Metric$Target"), accessFlags := 16409, slot := 1, constantValue := 0 }, { name := "AT_MOST_1_01", type := (.object "com/example/tokenpail/tokenpail/bench/Metric$Target"), accessFlags := 16409, slot := 2, constantValue := 0 }, { name := "$VALUES", type := (.array (.object "com/example/tokenpail/tokenpail/bench/Metric$Target")), accessFlags := 4122, slot := 3, constantValue := 0 }]
  methods := #[]
  instanceTypes := #[(.object "java/lang/String"), .int, .int]
  staticTypes := #[(.object "com/example/tokenpail/tokenpail/bench/Metric$Target"), (.object "com/example/tokenpail/tokenpail/bench/Metric$Target"), (.object "com/example/tokenpail/tokenpail/bench/Metric$Target"), (.array (.object "com/example/tokenpail/tokenpail/bench/Metric$Target"))]
  resolved := Array.replicate 56 none
  statics := some 1 }

def pool8 : Array CpInfo := pool [(1, u "java/lang/Cloneable"), (0, .class_ 1), (0, u "java/lang/Object"), (0, .class_ 3)] 3

/-- java/lang/Cloneable -/
def k8 : Class := { plain "java/lang/Cloneable" (some 0) with
  accessFlags := 1537
  interfaces := #[]
  cf := some (fileOf pool8 2 #[] #[] 1537 4 #[] #[])
  fields := #[]
  methods := #[]
  instanceTypes := #[]
  staticTypes := #[]
  resolved := Array.replicate 8 none
  statics := none }

/-- the primitive byte -/
def k9 : Class := { plain "byte" none with kind := .primitive 'B', accessFlags := 0x411 }
/-- [B -/
def k10 : Class := { plain "[B" (some 0) with kind := .array 9 .byte, interfaces := #[8, 4], accessFlags := 1041 }

/-- the primitive int -/
def k11 : Class := { plain "int" none with kind := .primitive 'I', accessFlags := 0x411 }
/-- [I -/
def k12 : Class := { plain "[I" (some 0) with kind := .array 11 .int, interfaces := #[8, 4], accessFlags := 1041 }

def heap : Heap := #[{ cls := 6, slots := #[.ref 5, .ref 6, .ref 7, .ref 8, .double 0, .null], vm := .statics 6 },
  { cls := 7, slots := #[.ref 2, .ref 3, .ref 4, .null], vm := .statics 7 },
  { cls := 7, slots := #[.null, .int 0, .int 0], vm := .none },
  { cls := 7, slots := #[.null, .int 1, .int 0], vm := .none },
  { cls := 7, slots := #[.null, .int 2, .int 0], vm := .none },
  { cls := 6, slots := #[.null, .int 0, .int 0, .null, .null, .ref 2], vm := .none },
  { cls := 6, slots := #[.null, .int 1, .int 0, .null, .null, .ref 3], vm := .none },
  { cls := 6, slots := #[.null, .int 2, .int 0, .null, .null, .ref 3], vm := .none },
  { cls := 6, slots := #[.null, .int 3, .int 0, .null, .null, .ref 4], vm := .none }]
def classes : Array Class := #[k0, k1, k2, k3, k4, k5, k6, k7, k8, k9, k10, k11, k12]
def interned : List (Array UInt16 × Addr) := []
def slotsUsed : Nat := 43
def theMethod : MethodId := ⟨1, 1⟩
def args0 : Array Value := #[.int 5, .int 5, .int 5]
def aboutOver (below : List Frame) : State where
  vm := { classes := classes, interned := interned.toArray }
  heap := heap
  slotsUsed := slotsUsed
  threads := #[{ frames := .invoking theMethod args0 :: below }]
def below0 : List Frame := [.native { method := ⟨0, 0⟩, args := #[] }]
def about1 : State := aboutOver below0
def p0 : Program := .bare "" "" ""
def e0 : Env := launch0.env 0 0 0
theorem w_frames : about1.frames = Frame.invoking theMethod args0 :: below0 := rfl
set_option maxRecDepth 65536 in
theorem w_args : argsFit about1.vm theMethod args0 = true := by decide +kernel
set_option maxRecDepth 65536 in
theorem w_heap : heapFits about1 = true := by decide +kernel
set_option maxRecDepth 65536 in
theorem w_runnable : about1.curStatus? = some .runnable := by decide +kernel
set_option maxRecDepth 65536 in
theorem w_alone : about1.alone = true := by decide +kernel
set_option maxRecDepth 65536 in
theorem w_named : about1.methodNamed? x = some theMethod := by decide +kernel
set_option maxRecDepth 65536 in
theorem w_hears : about1.hears theMethod below0 = true := by decide +kernel
set_option maxRecDepth 65536 in
theorem w_ripe : about1.ripe theMethod args0 below0 = true := by decide +kernel
theorem w_running : about1.status = .running := rfl
set_option maxRecDepth 65536 in
theorem w_room : about1.hasRoom e0.platform room_1 = true :=
  launch0.hasRoom_least _ room_1 (by decide +kernel) (by decide +kernel) (by decide +kernel) (by decide +kernel) (by decide +kernel) (by decide +kernel)
theorem allAtoms_all (ts : List Jvm.Cond) (a : Array Jvm.Value) (st : Jvm.State) : (allAtoms ts).before a st = ts.all (fun c => c.before a st) := by
  induction ts with
  | nil => rfl
  | cons c t ih =>
    show (Jvm.Cond.and c (allAtoms t)).before a st = _
    rw [Jvm.Cond.before_and, ih, List.all_cons]
def words1 : List Jvm.Cond := Jvm.Cond.code x code maxLocals ret :: tables_1
/-- a 'code' word, met by the world's own term for the bytes: nothing is compared byte by byte -/
theorem code_word {y : MethodName} {bytes : ByteArray} {mx : Nat} {rt : Option FieldType} {a : Array Value} {s : State} {m : MethodId} {meth : Method} {c : Code} (h1 : s.methodNamed? y = some m) (h2 : s.vm.method? m = some meth) (h3 : meth.code = some c) (h4 : c.code = bytes)
    (h5 : (c.maxLocals == mx && c.exceptionTable.isEmpty && decide (c.maxStack ≤ mostOperands) && decide (meth.sig.returnType = rt) && !meth.locks && decide (parseMethodDescriptor y.desc = some meth.sig)) = true) : (Jvm.Cond.code y bytes mx rt).before a s = true := by
  simp only [Bool.and_eq_true, beq_iff_eq, Bool.not_eq_true', decide_eq_true_eq] at h5
  obtain ⟨⟨⟨⟨⟨g1, g2⟩, g3⟩, g4⟩, g5⟩, g6⟩ := h5
  simp [Cond.before, Cond.holds, Cond.value, h1, h2, h3, h4, g1, g2, g3, g4, g5, g6]
def isCode : Jvm.Cond → Bool
  | .code _ _ _ _ => true
  | _ => false
theorem all_split {L : List Jvm.Cond} {P : Jvm.Cond → Bool} (h1 : L.all (fun c => isCode c || P c) = true) (h2 : ∀ c ∈ L.filter isCode, P c = true) : L.all P = true := by
  refine List.all_eq_true.mpr fun c hc => ?_
  have h := List.all_eq_true.mp h1 c hc
  rcases Bool.eq_false_or_eq_true (isCode c) with hi | hi
  · exact h2 c (List.mem_filter.mpr ⟨hc, hi⟩)
  · simpa [hi] using h
set_option maxRecDepth 65536 in
theorem w_c0 : (Jvm.Cond.code x code maxLocals ret).before args0 about1 = true := code_word (m := ⟨1, 1⟩) (meth := k1m1) (c := k1c1) (by decide +kernel) rfl rfl rfl (by decide +kernel)
set_option maxRecDepth 65536 in
theorem w_c1 : (Jvm.Cond.code ({ cls := "com/example/tokenpail/tokenpail/bench/Metric", name := "met", desc := "(DD)Z" } : Jvm.MethodName) prog_2_method_7_code (6 : Nat) (Option.some Jvm.ClassFile.FieldType.boolean)).before args0 about1 = true := code_word (m := ⟨6, 0⟩) (meth := k6m0) (c := k6c0) (by decide +kernel) rfl rfl rfl (by decide +kernel)
set_option maxRecDepth 65536 in
theorem w_c2 : (Jvm.Cond.code ({ cls := "java/lang/Enum", name := "ordinal", desc := "()I" } : Jvm.MethodName) jdk_37_method_2_code (1 : Nat) (Option.some Jvm.ClassFile.FieldType.int)).before args0 about1 = true := code_word (m := ⟨5, 0⟩) (meth := k5m0) (c := k5c0) (by decide +kernel) rfl rfl rfl (by decide +kernel)
def codes1 : List Jvm.Cond := [Jvm.Cond.code x code maxLocals ret, Jvm.Cond.code ({ cls := "com/example/tokenpail/tokenpail/bench/Metric", name := "met", desc := "(DD)Z" } : Jvm.MethodName) prog_2_method_7_code (6 : Nat) (Option.some Jvm.ClassFile.FieldType.boolean), Jvm.Cond.code ({ cls := "java/lang/Enum", name := "ordinal", desc := "()I" } : Jvm.MethodName) jdk_37_method_2_code (1 : Nat) (Option.some Jvm.ClassFile.FieldType.int)]
set_option maxRecDepth 65536 in
theorem codes_eq : words1.filter isCode = codes1 := rfl
theorem w_codes : ∀ c ∈ words1.filter isCode, c.before args0 about1 = true := by
  rw [codes_eq]
  intro c hc
  simp only [codes1, List.mem_cons, List.not_mem_nil, or_false] at hc
  rcases hc with rfl | rfl | rfl
  · exact w_c0
  · exact w_c1
  · exact w_c2
set_option maxRecDepth 65536 in
theorem w_t1 : (words1.take 24).all (fun c => isCode c || c.before args0 about1) = true := by decide +kernel
set_option maxRecDepth 65536 in
theorem w_t2 : (words1.drop 24).all (fun c => isCode c || c.before args0 about1) = true := by decide +kernel
theorem w_tables : (allAtoms (Jvm.Cond.code x code maxLocals ret :: tables_1)).before args0 about1 = true := by
  rw [allAtoms_all]
  show words1.all (fun c => c.before args0 about1) = true
  refine all_split ?_ w_codes
  rw [← List.take_append_drop 24 words1, List.all_append, w_t1, w_t2]
  rfl
set_option maxRecDepth 65536 in
theorem w_case : (Jvm.Cond.and given_1 narrow_1).before args0 about1 = true := by decide +kernel
theorem w_applies : (headSpec (Jvm.Cond.code x code maxLocals ret :: tables_1) room_1).applies x e0.platform about1 = true :=
  (Spec.applies_iff w_frames).mpr ⟨w_running, w_runnable, w_alone, w_named, w_hears, w_ripe, w_room, w_tables⟩
theorem atStart : AtStart classFile x code maxLocals ret World_1 tables_1 room_1 Calls_1 rest_1 Pre_1 launch0 p0 e0 about1 theMethod args0 below0 :=
  ⟨lists_1, trivial, launch0.admits_env _ _ _, launch0.least_env, fairChoices_fair.cas, fairChoices_fair.clock, w_frames, w_args, w_heap, w_applies, trivial, trivial, w_case⟩
end start1
theorem witness_1 : WitnessClaimed_1 := ⟨start1.p0, start1.e0, start1.about1, start1.theMethod, start1.args0, start1.below0, start1.atStart⟩
end Jvm.Pilot.@@N@@
