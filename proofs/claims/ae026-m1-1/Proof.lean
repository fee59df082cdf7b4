import JvmDerived
import JvmDerived.Pilot.@@N@@Statement
import JvmDerived.Pilot.@@N@@Code
set_option linter.unusedVariables false
set_option linter.unusedSimpArgs false
namespace Jvm.RoadKit
open Sem ClassFile Op Lib Jvm.Stand Jvm.Free Jvm.LawKit
section New
variable {p : Program} {l : Launch} {e : Env} {R : Room} {s : State} {m : MethodId} {args : Array Value} {below : List Frame} {meth : Method} {c : Code} {T : State} {locs : List Loc} {cells slots : Nat}
theorem retI (X : Stand p l e R s m args below meth c T locs cells slots) (hx : p.tables.exec = Jvm.exec) {pc : Nat} {Ls : Array Slot} {z : Int32} {rest : List Value} (hret : meth.sig.returnType = some .int) (hd : decode c.code pc = .ok (.ireturn, 1)) {fs : List Frame}
    (hl : ∀ (f : JFrame) (acts : List Action), f.method = m → f.locked = none → f.entered = [] → (doReturn e (T.setTop f) acts (some (.int z))).1 = T.setFrames fs) : Steps p.tables e below (T.setTop (mkF m pc Ls (.int z :: rest))) (T.setFrames fs) := by
  have hm' : T.vm.method? m = some meth := X.method'
  have hn : narrow .int (.int z) = .int z := rfl
  show Steps p.tables e below (T.setTop { method := m, pc := pc, locals := Ls, stack := _ :: rest, locked := none }) _
  jvm_step X.here [X.here.top, hx, hd, hm', hret, hn]
  first | (intro acts; rw [hl _ acts rfl rfl rfl]) | rw [hl _ _ rfl rfl rfl]
  exact Steps.refl _
/-- from the state a the run ends, within its caller's frames, in an outcome of which P holds -/
def own_Endz (tb : Tables) (e : Env) (below : List Frame) (P : Outcome → State → Prop) (a : State) : Prop := ∃ s₂ o, Steps tb e below a s₂ ∧ s₂.status = .running ∧ Ended s₂ below o ∧ P o s₂
abbrev own_EndQ (s : State) (k n : Nat) (Q : Option Value → Heap → List Loc → Prop) : Outcome → State → Prop := fun o U' => ∃ v L, o = .returned v ∧ Q v U'.heap L ∧ FrameEnd s o U' L k n
theorem own_go {tb : Tables} {P : Outcome → State → Prop} {a b : State} (h : ∀ t, Steps tb e below b t → Steps tb e below a t) (k : own_Endz tb e below P b) : own_Endz tb e below P a := by
  obtain ⟨s2, o, h1, r⟩ := k
  exact ⟨s2, o, h _ h1, r⟩
theorem own_tr {tb : Tables} {P : Outcome → State → Prop} {a b : State} (h : Steps tb e below a b) (k : own_Endz tb e below P b) : own_Endz tb e below P a := by
  obtain ⟨s2, o, h1, r⟩ := k
  exact ⟨s2, o, h.trans h1, r⟩
theorem own_cast {tb : Tables} {P : Outcome → State → Prop} {g g' : JFrame} (q : g = g') (k : own_Endz tb e below P (T.setTop g')) : own_Endz tb e below P (T.setTop g) := q ▸ k
theorem own_retN (X : Stand p l e R s m args below meth c T locs cells slots) (hx : p.tables.exec = Jvm.exec) (hlk : meth.locks = false) {pc : Nat} {Ls : Array Slot} {z : Int32} {t : FieldType} {rest : List Value} (hret : meth.sig.returnType = some t) (ht : t = .boolean ∨ t = .byte ∨ t = .char ∨ t = .short)
    (hd : decode c.code pc = .ok (.ireturn, 1)) {k n : Nat} {Q : Option Value → Heap → List Loc → Prop} (hk : cells ≤ k) (hn : slots ≤ n) (q : Q (some (.int (nar t z))) T.heap locs) : own_Endz p.tables e below (own_EndQ s k n Q) (T.setTop (mkF m pc Ls (.int z :: rest))) := by
  obtain ⟨fs, hr, hrun, hended, hW, hsame⟩ := X.leave (v := some (.int (nar t z))) (fun h => by rw [hret] at h; cases h) hlk
  exact ⟨_, _, retN X hx hret ht hd hr, hrun, hended, _, _, rfl, q, ⟨_, rfl⟩, hW, hsame.mono hk hn⟩
theorem own_retI (X : Stand p l e R s m args below meth c T locs cells slots) (hx : p.tables.exec = Jvm.exec) (hlk : meth.locks = false) {pc : Nat} {Ls : Array Slot} {z : Int32} {rest : List Value} (hret : meth.sig.returnType = some .int)
    (hd : decode c.code pc = .ok (.ireturn, 1)) {k n : Nat} {Q : Option Value → Heap → List Loc → Prop} (hk : cells ≤ k) (hn : slots ≤ n) (q : Q (some (.int z)) T.heap locs) : own_Endz p.tables e below (own_EndQ s k n Q) (T.setTop (mkF m pc Ls (.int z :: rest))) := by
  obtain ⟨fs, hr, hrun, hended, hW, hsame⟩ := X.leave (v := some (.int z)) (fun h => by rw [hret] at h; cases h) hlk
  exact ⟨_, _, retI X hx hret hd hr, hrun, hended, _, _, rfl, q, ⟨_, rfl⟩, hW, hsame.mono hk hn⟩
theorem own_retA (X : Stand p l e R s m args below meth c T locs cells slots) (hx : p.tables.exec = Jvm.exec) (hlk : meth.locks = false) {pc : Nat} {Ls : Array Slot} {w : Value} {t : FieldType} {rest : List Value} (hret : meth.sig.returnType = some t) (ht : t.isReference = true) (hw : w.isRef = true)
    (hd : decode c.code pc = .ok (.areturn, 1)) {k n : Nat} {Q : Option Value → Heap → List Loc → Prop} (hk : cells ≤ k) (hn : slots ≤ n) (q : Q (some w) T.heap locs) : own_Endz p.tables e below (own_EndQ s k n Q) (T.setTop (mkF m pc Ls (w :: rest))) := by
  obtain ⟨fs, hr, hrun, hended, hW, hsame⟩ := X.leave (v := some w) (fun h => by rw [hret] at h; cases h) hlk
  have hnw : narrow t w = w := by cases t <;> first | (cases ht; done) | rfl
  exact ⟨_, _, retOut X hx hret hnw (Or.inr (Or.inr (Or.inr (Or.inr ⟨rfl, ht, hw⟩)))) hd hr, hrun, hended, _, _, rfl, q, ⟨_, rfl⟩, hW, hsame.mono hk hn⟩
theorem own_retV (X : Stand p l e R s m args below meth c T locs cells slots) (hx : p.tables.exec = Jvm.exec) (hlk : meth.locks = false) {pc : Nat} {Ls : Array Slot} (hret : meth.sig.returnType = none)
    (hd : decode c.code pc = .ok (.return_, 1)) {k n : Nat} {Q : Option Value → Heap → List Loc → Prop} (hk : cells ≤ k) (hn : slots ≤ n) (q : Q none T.heap locs) : own_Endz p.tables e below (own_EndQ s k n Q) (T.setTop (mkF m pc Ls [])) := by
  obtain ⟨fs, hr, hrun, hended, hW, hsame⟩ := X.leave (v := none) (fun _ => rfl) hlk
  exact ⟨_, _, X.returnOut hx hret hd hr, hrun, hended, _, _, rfl, q, ⟨_, rfl⟩, hW, hsame.mono hk hn⟩
theorem own_ev {t u : Term} {k : Int32} {args : Array Value} (h : (Cond.eq t (.int k)).value args s none s [] = some true) : t.eval args s none [] s = some (.int k) := by
  simp only [Cond.value, Term.eval] at h
  split at h <;> simp_all
theorem own_fld {t : Term} {C n d : String} {k : Int32} {x : Addr} {args : Array Value} (ht : t.eval args s none [] s = some (.ref x)) (h : (Cond.eq (.field t C n d) (.int k)).value args s none s [] = some true) : Fld s s.heap x C n d (.int k) :=
  Fld.start ((fld_at ht).symm.trans (own_ev (u := t) h))
theorem own_enum {Z : State} {h : Heap} {C f d : String} {ad : Nat → Addr} {n : Nat} (hn : n ≤ 2 ^ 31) (F : ∀ i, i < n → Fld Z h (ad i) C f d (.int i.toInt32)) (i j : Nat) (hi : i < n) (hj : j < n) : ad i = ad j ↔ i = j := by
  refine ⟨fun q => Classical.byContradiction fun ne => (F i hi).ne (F j hj) (fun v => ne ?_) q, fun q => q ▸ rfl⟩
  have q1 := congrArg Int32.toInt (Value.int.inj v)
  rw [len_toInt (by omega), len_toInt (by omega)] at q1
  omega
theorem own_cat {v : Value} (h : v.isRef = true) : v.category = 1 := by cases v <;> first | rfl | (cases h)
theorem own_evR {t u : Term} {a : Addr} {args : Array Value} (hu : u.eval args s none [] s = some (.ref a)) (h : (Cond.eq t u).value args s none s [] = some true) : t.eval args s none [] s = some (.ref a) := by
  simp only [Cond.value, hu] at h
  split at h <;> simp_all
theorem own_len {t : Term} {x : Addr} {cl : Cell} {k : Int32} {args : Array Value} (ht : t.eval args s none [] s = some (.ref x)) (hc : s.heap[x]? = some cl) (h : (Cond.eq (.length t) (.int k)).value args s none s [] = some true) : cl.slots.size.toInt32 = k ∧ cl.slots.size < 2 ^ 31 := by
  have e := own_ev (u := t) h
  obtain ⟨x', cl', e1, e2, e3⟩ := Term.length_spec e
  cases ht.symm.trans e1
  have e4 : cl' = cl := by
    simp only [State.arrayAt?, Option.bind_eq_bind, hc, Option.bind_some] at e2
    obtain ⟨k1, -, e2⟩ := Option.bind_eq_some_iff.mp e2
    split at e2
    · cases e2
    · split at e2
      · exact (Option.some.inj e2).symm
      · cases e2
  subst e4
  refine ⟨(Value.int.inj e3).symm, Classical.byContradiction fun hn => ?_⟩
  simp [Term.eval, ht, e2] at e
  exact hn e.1
theorem own_elem {t u : Term} {x a : Addr} {cl : Cell} {k : Int32} {args : Array Value} (ht : t.eval args s none [] s = some (.ref x)) (hc : s.heap[x]? = some cl) (hu : u.eval args s none [] s = some (.ref a)) (h : (Cond.eq (.elem t (.int k)) u).value args s none s [] = some true) : cl.slots[k.toNatClampNeg]? = some (.ref a) := by
  have e := own_evR hu h
  exact (elem_in e ht (Term.int_eval k) hc).2
theorem own_ite {α : Type} {P : α → Prop} {q : Prop} [Decidable q] {a b : α} (ha : P a) (hb : P b) : P (if q then a else b) := by split <;> assumption
theorem own_selp {C : String} {y y' : MethodName} {args a1 : Array Value} (hs : (Cond.selects C y' y').before args s = true) (hC : y'.cls = y.cls) (hpriv : s.PrivateAt y) (hinst : (Cond.instanceMethod y).before a1 s = true) (hy : y.cls ≠ "java/lang/invoke/MethodHandle" ∧ y.cls ≠ "java/lang/invoke/VarHandle") : (Cond.selects y.cls y y).before a1 s = true := by
  obtain ⟨c, r, mm, f1, f2, f3, f4, k, k1, k2⟩ := Cond.selects_spec hs
  have hc := findClass_of_methodNamed f3
  rw [hC] at hc
  exact Jvm.Stand.selects_self_of_private hc k1 k2 hpriv hinst hy
theorem own_i {x y : Int32} (h : x ≠ y) : (Value.int x) ≠ .int y := fun q => h (Value.int.inj q)
theorem own_at {h : Heap} {a : Addr} {cl : Cell} (E : T.heap = h) (q : h[a]? = some cl) : T.heap[a]? = some cl := by rw [E]; exact q
end New
end Jvm.RoadKit
namespace Jvm.FP.Core
theorem own_zmag_s (f : Fmt) (s t : Bool) (A B : Nat) (e : Int) : zmag f (roundRatio f s A B e) = zmag f (roundRatio f t A B e) := by
  unfold roundRatio roundAt settle bound
  repeat' split
  all_goals rfl
theorem own_tie {f : Fmt} {s : Bool} {A1 A2 B : Nat} {e1 e2 e0 : Int} (hB : 0 < B) (h1 : e0 ≤ e1) (h2 : e0 ≤ e2) (h : inUnits A1 e1 e0 = inUnits A2 e2 e0) : roundRatio f s A1 B e1 = roundRatio f s A2 B e2 := by
  refine roundRatio_congr hB hB ?_
  unfold inUnits at h
  have p0 := Nat.two_pow_pos (min e1 e2 - e0).toNat
  have x1 : (e1 - e0).toNat = (e1 - e2).toNat + (min e1 e2 - e0).toNat := by omega
  have x2 : (e2 - e0).toNat = (e2 - e1).toNat + (min e1 e2 - e0).toNat := by omega
  rw [x1, x2, Nat.pow_add, Nat.pow_add, ← Nat.mul_assoc, ← Nat.mul_assoc] at h
  have h' := Nat.eq_of_mul_eq_mul_right p0 h
  calc A1 * B * 2 ^ (e1 - e2).toNat = A1 * 2 ^ (e1 - e2).toNat * B := by ac_rfl
    _ = A2 * 2 ^ (e2 - e1).toNat * B := by rw [h']
    _ = A2 * B * 2 ^ (e2 - e1).toNat := by ac_rfl
theorem own_rr_mono {f : Fmt} (hf : Good f) {s1 s2 : Bool} {A1 A2 B : Nat} {e1 e2 e0 : Int} (hB : 0 < B) (h0 : e0 ≤ f.qmin) (h1 : e0 ≤ e1) (h2 : e0 ≤ e2) (h : inUnits A1 e1 e0 ≤ inUnits A2 e2 e0)
    {c1 c2 : Nat} {q1 q2 : Int} (f1 : roundRatio f s1 A1 B e1 = .fin s1 c1 q1) (f2 : roundRatio f s2 A2 B e2 = .fin s2 c2 q2) : zmag f (roundRatio f s1 A1 B e1) ≤ zmag f (roundRatio f s2 A2 B e2) := by
  have g1 := roundRatio_fits hf s1 A1 hB e1
  have g2 := roundRatio_fits hf s2 A2 hB e2
  by_cases tie : inUnits A1 e1 e0 = inUnits A2 e2 e0
  · rw [own_zmag_s f s1 s2, own_tie hB h1 h2 tie]
    exact Nat.le_refl _
  rw [f1] at g1 ⊢
  rw [f2] at g2 ⊢
  have d1 := roundRatio_nearest hf hB f1 g2.1 g2.2.1 h0 h1
  have d2 := roundRatio_nearest hf hB f2 g1.1 g1.2.1 h0 h2
  unfold distance at d1 d2
  rw [units_fin g1 h0, units_fin g2 h0] at d1 d2
  have P : 0 < 2 ^ (f.qmin - e0).toNat * B := Nat.mul_pos (Nat.two_pow_pos _) hB
  generalize zmag f (.fin s1 c1 q1) = u1 at *
  generalize zmag f (.fin s2 c2 q2) = u2 at *
  generalize inUnits A1 e1 e0 = m1 at *
  generalize inUnits A2 e2 e0 = m2 at *
  rw [← Int.natCast_mul, ← Int.natCast_mul, Nat.mul_assoc, Nat.mul_assoc] at d1 d2
  generalize 2 ^ (f.qmin - e0).toNat * B = Y at *
  refine Nat.le_of_not_lt fun hlt => ?_
  have k := Nat.mul_lt_mul_of_pos_right hlt P
  generalize u1 * Y = p1 at *
  generalize u2 * Y = p2 at *
  omega
section Quo
variable {f : Fmt} {s t : Bool} {c d : Nat} {q r : Int}
theorem own_e1 (hf : Good f) (hx : fits f (.fin s c q)) : inUnits c (q - r) (2 * f.qmin - r) = zmag f (.fin s c q) * 2 ^ (-f.qmin).toNat := by
  have hq := qmin_neg hf
  have hx1 := hx.2.1
  show c * _ = c * _ * _
  rw [Nat.mul_assoc, ← Nat.pow_add]; congr 2; omega
theorem own_e2 (hf : Good f) : 2 ^ (f.qmin - (2 * f.qmin - r)).toNat * d = zmag f (.fin t d r) := by
  have hq := qmin_neg hf
  show _ = d * _
  rw [Nat.mul_comm]; congr 2; omega
theorem own_q (hd : d ≠ 0) : quotient f (.fin s c q) (.fin t d r) = roundRatio f (s != t) c d (q - r) := by
  simp only [quotient, if_neg hd]
theorem own_q_le (hf : Good f) {V : Datum} (hx : fits f (.fin s c q)) (hy : fits f (.fin t d r)) (hd : d ≠ 0) (hV : fits f V) (hn : V ≠ .nan) (h : zmag f (.fin s c q) * 2 ^ (-f.qmin).toNat ≤ zmag f V * zmag f (.fin t d r)) : zmag f (quotient f (.fin s c q) (.fin t d r)) ≤ zmag f V := by
  have hq := qmin_neg hf
  have hx1 := hx.2.1
  have hy1 := hy.2.1
  rw [own_q hd]
  refine zmag_roundRatio_le hf (by omega) hV hn (e0 := 2 * f.qmin - r) (by omega) (by omega) ?_
  rw [own_e1 hf hx, Nat.mul_assoc, own_e2 (t := t) hf]
  exact h
theorem own_q_ge (hf : Good f) {V : Datum} (hx : fits f (.fin s c q)) (hy : fits f (.fin t d r)) (hd : d ≠ 0) (hV : fits f V) (h : zmag f V * zmag f (.fin t d r) ≤ zmag f (.fin s c q) * 2 ^ (-f.qmin).toNat) : zmag f V ≤ zmag f (quotient f (.fin s c q) (.fin t d r)) := by
  have hq := qmin_neg hf
  have hx1 := hx.2.1
  have hy1 := hy.2.1
  rw [own_q hd]
  refine zmag_roundRatio_ge hf (by omega) hV (e0 := 2 * f.qmin - r) (by omega) (by omega) ?_
  rw [own_e1 hf hx, Nat.mul_assoc, own_e2 (t := t) hf]
  exact h
theorem own_d0 (hf : Good f) (h1 : 2 ^ (-f.qmin).toNat ≤ zmag f (.fin t d r)) : d ≠ 0 := by
  rintro rfl
  have : zmag f (.fin t 0 r) = 0 := Nat.zero_mul _
  have := Nat.two_pow_pos (-f.qmin).toNat
  omega
/-- a quotient by what is 1 or more is finite -/
theorem own_q_fin (hf : Good f) (hx : fits f (.fin s c q)) (hy : fits f (.fin t d r)) (h1 : 2 ^ (-f.qmin).toNat ≤ zmag f (.fin t d r)) : ∃ c' q', quotient f (.fin s c q) (.fin t d r) = .fin (s != t) c' q' := by
  have hd := own_d0 hf h1
  have k := own_q_le hf hx hy hd hx Datum.noConfusion (Nat.mul_le_mul_left _ h1)
  have top := zmag_lt_top hf hx
  rw [own_q hd] at k ⊢
  rcases roundRatio_cases f (s != t) c d (q - r) with h | h
  · exact h
  · rw [h] at k
    have : zmag f (.inf (s != t)) = f.tails * 2 ^ (f.exps - 2) := rfl
    have : zmag f (.fin s c q) = inUnits c q f.qmin := rfl
    omega
theorem own_q_mono (hf : Good f) {s2 : Bool} {c2 : Nat} {q2 : Int} (hx : fits f (.fin s c q)) (hx2 : fits f (.fin s2 c2 q2)) (hy : fits f (.fin t d r)) (h1 : 2 ^ (-f.qmin).toNat ≤ zmag f (.fin t d r)) (h : zmag f (.fin s c q) ≤ zmag f (.fin s2 c2 q2)) :
    zmag f (quotient f (.fin s c q) (.fin t d r)) ≤ zmag f (quotient f (.fin s2 c2 q2) (.fin t d r)) := by
  have hd := own_d0 hf h1
  have hq := qmin_neg hf
  have hx1 := hx.2.1
  have hx3 := hx2.2.1
  have hy1 := hy.2.1
  obtain ⟨a, b, k⟩ := own_q_fin hf hx hy h1
  obtain ⟨a2, b2, k2⟩ := own_q_fin hf hx2 hy h1
  rw [own_q hd] at k k2 ⊢
  rw [own_q hd]
  refine own_rr_mono hf (by omega) (e0 := 2 * f.qmin - r) (by omega) (by omega) (by omega) ?_ k k2
  rw [own_e1 hf hx, own_e1 hf hx2]
  exact Nat.mul_le_mul_right _ h
end Quo
/-- x at or below y, the signs told -/
def own_Ord (f : Fmt) (x y : Datum) : Prop := ∃ s1 c1 q1 s2 c2 q2, x = .fin s1 c1 q1 ∧ y = .fin s2 c2 q2 ∧ fits f x ∧ fits f y ∧ ((s1 = true ∧ s2 = true ∧ zmag f y ≤ zmag f x) ∨ (s1 = true ∧ s2 = false) ∨ (s1 = false ∧ s2 = false ∧ zmag f x ≤ zmag f y))
theorem own_Ord.quot {f : Fmt} (hf : Good f) {x y : Datum} {d : Nat} {r : Int} (h : own_Ord f x y) (hd : fits f (.fin false d r)) (h1 : 2 ^ (-f.qmin).toNat ≤ zmag f (.fin false d r)) : own_Ord f (quotient f x (.fin false d r)) (quotient f y (.fin false d r)) := by
  obtain ⟨s1, c1, q1, s2, c2, q2, rfl, rfl, g1, g2, h⟩ := h
  obtain ⟨a1, b1, k1⟩ := own_q_fin hf g1 hd h1
  obtain ⟨a2, b2, k2⟩ := own_q_fin hf g2 hd h1
  refine ⟨s1 != false, a1, b1, s2 != false, a2, b2, k1, k2, quotient_fits hf _ _, quotient_fits hf _ _, ?_⟩
  rcases h with ⟨rfl, rfl, h⟩ | ⟨rfl, rfl⟩ | ⟨rfl, rfl, h⟩
  · exact Or.inl ⟨rfl, rfl, own_q_mono hf g2 g1 hd h1 h⟩
  · exact Or.inr (Or.inl ⟨rfl, rfl⟩)
  · exact Or.inr (Or.inr ⟨rfl, rfl, own_q_mono hf g1 g2 hd h1 h⟩)
theorem own_Ord.le {f : Fmt} {x y : Datum} (h : own_Ord f x y) : zval f x ≤ zval f y := by
  obtain ⟨s1, c1, q1, s2, c2, q2, rfl, rfl, -, -, h⟩ := h
  unfold zval
  rcases h with ⟨rfl, rfl, h⟩ | ⟨rfl, rfl⟩ | ⟨rfl, rfl, h⟩ <;> simp only [sgn, signed, if_true, Bool.false_eq_true, if_false] <;> omega
theorem own_l2d_rr (a : Int64) : val64 (l2d a) = roundRatio b64 (decide (a.toInt < 0)) a.toInt.natAbs 1 0 := val64_l2d a
theorem own_l2d_ord {a b : Int64} (h : a.toInt ≤ b.toInt) : own_Ord b64 (val64 (l2d a)) (val64 (l2d b)) := by
  obtain ⟨c1, q1, k1⟩ := l2d_shape a
  obtain ⟨c2, q2, k2⟩ := l2d_shape b
  refine ⟨_, c1, q1, _, c2, q2, k1, k2, val64_fits _, val64_fits _, ?_⟩
  have hq := qmin_neg good_b64
  have m : ∀ x y : Int64, x.toInt.natAbs ≤ y.toInt.natAbs → zmag b64 (val64 (l2d x)) ≤ zmag b64 (val64 (l2d y)) := by
    intro x y hxy
    obtain ⟨u1, v1, w1⟩ := l2d_shape x
    obtain ⟨u2, v2, w2⟩ := l2d_shape y
    rw [own_l2d_rr] at w1 w2
    rw [own_l2d_rr x, own_l2d_rr y]
    refine own_rr_mono good_b64 (by decide) (e0 := b64.qmin) (by omega) (by omega) (by omega) ?_ w1 w2
    exact Nat.mul_le_mul_right _ hxy
  by_cases ha : a.toInt < 0
  · by_cases hb : b.toInt < 0
    · exact Or.inl ⟨decide_eq_true ha, decide_eq_true hb, m b a (by omega)⟩
    · exact Or.inr (Or.inl ⟨decide_eq_true ha, decide_eq_false hb⟩)
  · exact Or.inr (Or.inr ⟨decide_eq_false ha, decide_eq_false (by omega), m a b (by omega)⟩)
/-- whole numbers, in units -/
theorem own_l2d_zmag {a : Int64} (h : Small53 a) : zmag b64 (val64 (l2d a)) = a.toInt.natAbs * 2 ^ (-b64.qmin).toNat := by
  have k := whole_zval good_b64 (val64_fits _) (l2d_whole h)
  have e := congrArg Int.natAbs k
  unfold zval at e
  rw [natAbs_signed, Int.natAbs_mul, Int.natAbs_natCast] at e
  exact e
theorem own_half {a : Int64} (h : Small53 a) : ∃ V, fits b64 V ∧ V ≠ .nan ∧ 2 * zmag b64 V = a.toInt.natAbs * 2 ^ (-b64.qmin).toNat := by
  have z := own_l2d_zmag h
  obtain ⟨c, q, k⟩ := l2d_shape a
  have g := val64_fits (l2d a)
  rw [k] at g z
  by_cases h0 : a.toInt.natAbs = 0
  · refine ⟨val64 0, val64_fits 0, by rw [val64_zero]; exact Datum.noConfusion, ?_⟩
    have : zmag b64 (val64 0) = 0 := by rw [val64_zero]; exact Nat.zero_mul _
    rw [this, h0, Nat.zero_mul]
  · obtain ⟨g1, g2, g3, g4⟩ := g
    have hz : zmag b64 (.fin (decide (a.toInt < 0)) c q) = c * 2 ^ (q - b64.qmin).toNat := rfl
    have hq : b64.qmin < q := by
      refine Classical.byContradiction fun hn => ?_
      have e : (q - b64.qmin).toNat = 0 := by omega
      rw [hz, e, Nat.pow_zero, Nat.mul_one] at z
      have b1 : (2 : Nat) ^ b64.p ≤ 2 ^ (-b64.qmin).toNat := Nat.pow_le_pow_right (by decide) (by decide)
      have b2 : 2 ^ (-b64.qmin).toNat ≤ a.toInt.natAbs * 2 ^ (-b64.qmin).toNat := Nat.le_mul_of_pos_left _ (by omega)
      omega
    refine ⟨.fin (decide (a.toInt < 0)) c (q - 1), ⟨g1, by omega, by omega, Or.inr (g4.resolve_left (by omega))⟩, Datum.noConfusion, ?_⟩
    rw [← z, hz]
    show 2 * (c * 2 ^ (q - 1 - b64.qmin).toNat) = _
    rw [show (q - b64.qmin).toNat = (q - 1 - b64.qmin).toNat + 1 by omega, Nat.pow_succ]
    ac_rfl
theorem own_1000 : l2d 1000 = 4652007308841189376 := by decide +kernel
theorem own_2 : l2d 2 = 4611686018427387904 := by decide +kernel
theorem own_big {a : Int64} (h : Small53 a) (h1 : 1 ≤ a.toInt.natAbs) : 2 ^ (-b64.qmin).toNat ≤ zmag b64 (val64 (l2d a)) := by
  rw [own_l2d_zmag h]; exact Nat.le_mul_of_pos_left _ h1
/-- a quotient, exactly -/
theorem own_q_eq {s t : Bool} {c d : Nat} {q r : Int} {V : Datum} (hx : fits b64 (.fin s c q)) (hy : fits b64 (.fin t d r)) (hd : d ≠ 0) (hV : fits b64 V) (hn : V ≠ .nan) (h : zmag b64 (.fin s c q) * 2 ^ (-b64.qmin).toNat = zmag b64 V * zmag b64 (.fin t d r)) : zmag b64 (quotient b64 (.fin s c q) (.fin t d r)) = zmag b64 V :=
  Nat.le_antisymm (own_q_le good_b64 hx hy hd hV hn (Nat.le_of_eq h)) (own_q_ge good_b64 hx hy hd hV (Nat.le_of_eq h.symm))
def own_me (n k : Int64) : UInt64 := ddiv (ddiv (l2d n) 4652007308841189376) (l2d k)
theorem own_me_val (n k : Int64) : val64 (own_me n k) = quotient b64 (quotient b64 (val64 (l2d n)) (val64 (l2d 1000))) (val64 (l2d k)) := by
  unfold own_me
  rw [val64_ddiv, val64_ddiv, own_1000]
theorem own_small {a : Int64} (h : a.toInt.natAbs < 9007199254740992) : Small53 a := by unfold Small53; omega
/-- microsEach is monotone in the nanos -/
theorem own_me_mono {a b k : Int64} (h : a.toInt ≤ b.toInt) (k0 : 0 < k.toInt) (k1 : k.toInt < 9007199254740992) : dcmp (own_me a k) (own_me b k) = some .lt ∨ dcmp (own_me a k) (own_me b k) = some .eq := by
  have o := own_l2d_ord h
  have st : Small53 1000 := by unfold Small53; decide
  have sk : Small53 k := own_small (by omega)
  obtain ⟨c1, q1, w1⟩ := l2d_shape 1000
  have w1' : val64 (l2d 1000) = .fin false c1 q1 := w1
  obtain ⟨c2, q2, w2⟩ := l2d_shape k
  rw [decide_eq_false (by omega : ¬ k.toInt < 0)] at w2
  have b1 := own_big st (by decide)
  have b2 := own_big sk (by omega)
  have f1 := val64_fits (l2d 1000)
  have f2 := val64_fits (l2d k)
  have v1 := own_me_val a k
  have v2 := own_me_val b k
  rw [w1'] at b1 f1 v1 v2
  rw [w2] at b2 f2 v1 v2
  have o2 := (o.quot good_b64 f1 b1).quot good_b64 f2 b2
  rw [← v1, ← v2] at o2
  refine dcmp_le.mpr ⟨?_, ?_, o2.le⟩
  · obtain ⟨s1, x1, y1, s2, x2, y2, e1, e2, -⟩ := o2
    rw [e1]; exact Datum.noConfusion
  · obtain ⟨s1, x1, y1, s2, x2, y2, e1, e2, -⟩ := o2
    rw [e2]; exact Datum.noConfusion
/-- microsEach of k * 500 nanos a piece is k / 2 -/
theorem own_me_exact {n m k : Int64} {i j : Int} (hi : m.toInt = i) (hj : k.toInt = j) (hn : n.toInt = i * j * 500) (i1 : 1 ≤ i.natAbs) (i2 : i.natAbs ≤ 4096) (j2 : j.natAbs < 1048576) : dcmp (own_me n m) (ddiv (l2d k) 4611686018427387904) = some .eq := by
  have hij : (i * j).natAbs = i.natAbs * j.natAbs := Int.natAbs_mul i j
  have b0 : i.natAbs * j.natAbs ≤ 4096 * 1048576 := Nat.mul_le_mul i2 (Nat.le_of_lt j2)
  have hnn : n.toInt.natAbs = i.natAbs * j.natAbs * 500 := by rw [hn, Int.natAbs_mul, hij]; rfl
  have sn : Small53 n := own_small (by omega)
  have sm : Small53 m := own_small (by omega)
  have sk : Small53 k := own_small (by omega)
  have st : Small53 1000 := by unfold Small53; decide
  have s2 : Small53 2 := by unfold Small53; decide
  obtain ⟨p, hp⟩ : ∃ p : Int64, p.toInt = i * j := ⟨Int64.ofInt (i * j), Int64.toInt_ofInt_of_le (by omega) (by omega)⟩
  obtain ⟨V1, g1, n1, z1⟩ := own_half (a := p) (own_small (by omega))
  obtain ⟨V2, g2, n2, z2⟩ := own_half sk
  have zn := own_l2d_zmag sn
  have zm := own_l2d_zmag sm
  have zk := own_l2d_zmag sk
  have zt := own_l2d_zmag st
  have z_2 := own_l2d_zmag s2
  rw [hnn] at zn
  rw [hi] at zm
  rw [hj] at zk z2
  rw [hp, hij] at z1
  have bt := own_big st (by decide)
  have bm := own_big sm (by omega)
  have b2 := own_big s2 (by decide)
  have v1 := own_me_val n m
  have v2 : val64 (ddiv (l2d k) 4611686018427387904) = quotient b64 (val64 (l2d k)) (val64 (l2d 2)) := by rw [val64_ddiv, own_2]
  have fn := val64_fits (l2d n)
  have fm := val64_fits (l2d m)
  have fk := val64_fits (l2d k)
  have ft := val64_fits (l2d 1000)
  have f2 := val64_fits (l2d 2)
  obtain ⟨c1, q1, w1⟩ := l2d_shape n
  obtain ⟨c2, q2, w2⟩ := l2d_shape m
  obtain ⟨c3, q3, w3⟩ := l2d_shape k
  obtain ⟨c4, q4, w4⟩ := l2d_shape 1000
  obtain ⟨c5, q5, w5⟩ := l2d_shape 2
  rw [w1] at fn zn v1
  rw [w2] at fm zm bm v1
  rw [w3] at fk zk v2
  rw [w4] at ft zt bt v1
  rw [w5] at f2 z_2 b2 v2
  have t1 : (1000 : Int64).toInt.natAbs = 1000 := by decide
  have t2 : (2 : Int64).toInt.natAbs = 2 := by decide
  rw [t1] at zt
  rw [t2] at z_2
  have ONE : 0 < 2 ^ (-b64.qmin).toNat := Nat.two_pow_pos _
  have dt := own_d0 good_b64 bt
  have dm := own_d0 good_b64 bm
  have d2 := own_d0 good_b64 b2
  have x1 := own_q_eq fn ft dt g1 n1 (by
    rw [zn, zt]
    generalize 2 ^ (-b64.qmin).toNat = O at *
    generalize zmag b64 V1 = u at *
    generalize i.natAbs * j.natAbs = w at *
    calc w * 500 * O * O = w * O * (500 * O) := by ac_rfl
      _ = 2 * u * (500 * O) := by rw [z1]
      _ = u * (1000 * O) := by rw [show 1000 * O = 2 * (500 * O) by omega]; ac_rfl)
  obtain ⟨c6, q6, w6⟩ := own_q_fin good_b64 fn ft bt
  have f6 := quotient_fits good_b64 (.fin (decide (n.toInt < 0)) c1 q1) (.fin (decide ((1000 : Int64).toInt < 0)) c4 q4)
  rw [w6] at x1 f6 v1
  have x2 := own_q_eq f6 fm dm g2 n2 (by
    rw [x1, zm]
    generalize 2 ^ (-b64.qmin).toNat = O at *
    generalize zmag b64 V1 = u at *
    generalize zmag b64 V2 = y at *
    refine Nat.eq_of_mul_eq_mul_left (show 0 < 2 by decide) ?_
    calc 2 * (u * O) = 2 * u * O := by ac_rfl
      _ = i.natAbs * j.natAbs * O * O := by rw [z1]
      _ = j.natAbs * O * (i.natAbs * O) := by ac_rfl
      _ = 2 * y * (i.natAbs * O) := by rw [z2]
      _ = 2 * (y * (i.natAbs * O)) := by ac_rfl)
  have x3 := own_q_eq fk f2 d2 g2 n2 (by
    rw [zk, z_2]
    generalize 2 ^ (-b64.qmin).toNat = O at *
    generalize zmag b64 V2 = y at *
    calc j.natAbs * O * O = 2 * y * O := by rw [z2]
      _ = y * (2 * O) := by ac_rfl)
  obtain ⟨c7, q7, w7⟩ := own_q_fin good_b64 f6 fm bm
  obtain ⟨c8, q8, w8⟩ := own_q_fin good_b64 fk f2 b2
  rw [w7] at x2 v1
  rw [w8] at x3 v2
  rw [dcmp_eq, v1, v2]
  refine ⟨Datum.noConfusion, Datum.noConfusion, ?_⟩
  unfold zval
  rw [x2, x3]
  by_cases j0 : j = 0
  · have : zmag b64 V2 = 0 := by
      rw [j0, Int.natAbs_zero, Nat.zero_mul] at z2
      omega
    rw [this, signed_zero, signed_zero]
  · have e : ((decide (n.toInt < 0) != decide ((1000 : Int64).toInt < 0)) != decide (m.toInt < 0)) = (decide (k.toInt < 0) != decide ((2 : Int64).toInt < 0)) := by
      have e1 : decide ((1000 : Int64).toInt < 0) = false := by decide
      have e2 : decide ((2 : Int64).toInt < 0) = false := by decide
      rw [e1, e2, hi, hj, hn]
      have i0 : i ≠ 0 := by omega
      by_cases ip : i < 0
      · by_cases jp : j < 0
        · have : 0 < i * j := Int.mul_pos_of_neg_of_neg ip jp
          simp [ip, jp]; omega
        · have : i * j < 0 := Int.mul_neg_of_neg_of_pos ip (by omega)
          simp [ip, jp]; omega
      · by_cases jp : j < 0
        · have : i * j < 0 := Int.mul_neg_of_pos_of_neg (by omega) jp
          simp [ip, jp]; omega
        · have : 0 < i * j := Int.mul_pos (by omega) (by omega)
          simp [ip, jp]; omega
    show signed ((decide (n.toInt < 0) != decide ((1000 : Int64).toInt < 0)) != decide (m.toInt < 0)) _ = signed (decide (k.toInt < 0) != decide ((2 : Int64).toInt < 0)) _
    rw [e]
end Jvm.FP.Core
namespace Jvm.RoadKit
open Sem ClassFile Op Lib Jvm.Stand Jvm.Free Jvm.LawKit
section Ret2
variable {p : Program} {l : Launch} {e : Env} {R : Room} {s : State} {m : MethodId} {args : Array Value} {below : List Frame} {meth : Method} {c : Code} {T : State} {locs : List Loc} {cells slots : Nat}
theorem own_retJ (X : Stand p l e R s m args below meth c T locs cells slots) (hx : p.tables.exec = Jvm.exec) (hlk : meth.locks = false) {pc : Nat} {Ls : Array Slot} {z : Int64} {rest : List Value} (hret : meth.sig.returnType = some .long)
    (hd : decode c.code pc = .ok (.lreturn, 1)) {k n : Nat} {Q : Option Value → Heap → List Loc → Prop} (hk : cells ≤ k) (hn : slots ≤ n) (q : Q (some (.long z)) T.heap locs) : own_Endz p.tables e below (own_EndQ s k n Q) (T.setTop (mkF m pc Ls (.long z :: rest))) := by
  obtain ⟨fs, hr, hrun, hended, hW, hsame⟩ := X.leave (v := some (.long z)) (fun h => by rw [hret] at h; cases h) hlk
  exact ⟨_, _, retOut X hx hret rfl (Or.inr (Or.inl ⟨rfl, rfl, _, rfl⟩)) hd hr, hrun, hended, _, _, rfl, q, ⟨_, rfl⟩, hW, hsame.mono hk hn⟩
theorem own_retD (X : Stand p l e R s m args below meth c T locs cells slots) (hx : p.tables.exec = Jvm.exec) (hlk : meth.locks = false) {pc : Nat} {Ls : Array Slot} {z : UInt64} {rest : List Value} (hret : meth.sig.returnType = some .double)
    (hd : decode c.code pc = .ok (.dreturn, 1)) {k n : Nat} {Q : Option Value → Heap → List Loc → Prop} (hk : cells ≤ k) (hn : slots ≤ n) (q : Q (some (.double z)) T.heap locs) : own_Endz p.tables e below (own_EndQ s k n Q) (T.setTop (mkF m pc Ls (.double z :: rest))) := by
  obtain ⟨fs, hr, hrun, hended, hW, hsame⟩ := X.leave (v := some (.double z)) (fun h => by rw [hret] at h; cases h) hlk
  exact ⟨_, _, retOut X hx hret rfl (Or.inr (Or.inr (Or.inl ⟨rfl, rfl, _, rfl⟩))) hd hr, hrun, hended, _, _, rfl, q, ⟨_, rfl⟩, hW, hsame.mono hk hn⟩
theorem own_cmp0 {x y : UInt64} (h : FP.dcmp x y = some .eq) (o : CmpOp) : cmpValue (FP.dcmp x y) o = 0 := by rw [h]; rfl
theorem own_cmpg {x y : UInt64} (h : FP.dcmp x y = some .lt ∨ FP.dcmp x y = some .eq) : ¬ (0 : Int32) < cmpValue (FP.dcmp x y) .g := by
  rcases h with h | h <;> rw [h] <;> decide
theorem own_f1000 : Jvm.Free.Fl.Fin64 4652007308841189376 := by unfold Jvm.Free.Fl.Fin64; decide
theorem own_n1000 : Jvm.Free.Fl.Nz64 4652007308841189376 := by unfold Jvm.Free.Fl.Nz64; decide
theorem own_f2 : Jvm.Free.Fl.Fin64 4611686018427387904 := by unfold Jvm.Free.Fl.Fin64; decide
theorem own_n2 : Jvm.Free.Fl.Nz64 4611686018427387904 := by unfold Jvm.Free.Fl.Nz64; decide
def own_mn (a b : Int64) : Int64 := if (0 : Int32) < lcmpW a b then b else a
def own_mx (a b : Int64) : Int64 := if lcmpW a b < (0 : Int32) then b else a
theorem own_mnx (a b : Int64) : (own_mn a b).toInt ≤ (own_mx a b).toInt := by
  unfold own_mn own_mx lcmpW
  by_cases h : a > b
  · have h' : b.toInt < a.toInt := Int64.lt_iff_toInt_lt.mp h
    rw [if_pos h, if_pos (by decide), if_neg (by decide)]; omega
  · have h' : ¬ b.toInt < a.toInt := fun q => h (Int64.lt_iff_toInt_lt.mpr q)
    by_cases e : a = b
    · subst e
      rw [if_neg h, if_pos rfl, if_neg (by decide : ¬ (0 : Int32) < 0)]; first | done | omega
    · rw [if_neg h, if_neg e, if_neg (by decide), if_pos (by decide)]; omega
theorem own_kb (k : Int32) : (k % (1048576 : Int32)).toInt.natAbs < 1048576 := by
  have h := c_iremV k 1048576
  have e : (1048576 : Int32).toInt = 1048576 := by decide
  rw [e] at h
  by_cases q : 0 ≤ k.toInt
  · have := h.1 q (by decide); omega
  · have := h.2 (by omega) (by decide); omega
theorem own_mb (k : Int32) : 1 ≤ ((k &&& (4095 : Int32)) + (1 : Int32)).toInt ∧ ((k &&& (4095 : Int32)) + (1 : Int32)).toInt ≤ 4096 := by
  have h := c_mask k 4095 12 (by decide) (by decide)
  have a := c_iadd (k &&& 4095) 1
  have e : (1 : Int32).toInt = 1 := by decide
  have r := rng32 ((k &&& 4095) + 1)
  omega
theorem own_nb {x : Int32} (h1 : 1 ≤ x.toInt) (h2 : x.toInt ≤ 4096) : 1 ≤ (-x).toInt.natAbs ∧ (-x).toInt.natAbs ≤ 4096 := by
  have a := c_ineg x
  have r := rng32 (-x)
  omega
theorem own_nan {a b : Int32} (h1 : a.toInt.natAbs ≤ 4096) (h2 : b.toInt.natAbs < 1048576) : ((a.toInt64 * b.toInt64) * (500 : Int64)).toInt = a.toInt * b.toInt * 500 := by
  have e1 := Int32.toInt_toInt64 a
  have e2 := Int32.toInt_toInt64 b
  have n := Int.natAbs_mul a.toInt b.toInt
  have k : a.toInt.natAbs * b.toInt.natAbs ≤ 4096 * 1048576 := Nat.mul_le_mul h1 (Nat.le_of_lt h2)
  have m1 : (a.toInt64 * b.toInt64).toInt = a.toInt * b.toInt := by
    rw [FP.Core.int64_mul (by rw [e1, e2]; omega) (by rw [e1, e2]; omega), e1, e2]
  have e5 : (500 : Int64).toInt = 500 := by decide
  rw [FP.Core.int64_mul (by rw [m1, e5]; omega) (by rw [m1, e5]; omega), m1, e5]
theorem own_ex {a b : Int32} (h0 : 1 ≤ a.toInt.natAbs) (h1 : a.toInt.natAbs ≤ 4096) (h2 : b.toInt.natAbs < 1048576) : FP.dcmp (FP.Core.own_me ((a.toInt64 * b.toInt64) * (500 : Int64)) a.toInt64) (FP.ddiv (FP.i2d b) (4611686018427387904 : UInt64)) = some .eq := by
  rw [show FP.i2d b = FP.l2d b.toInt64 from FP.Core.i2d_l2d b]
  exact FP.Core.own_me_exact (Int32.toInt_toInt64 a) (Int32.toInt_toInt64 b) (own_nan h1 h2) h0 h1 h2
theorem own_nz {a : Int32} (h : 1 ≤ a.toInt.natAbs) : a.toInt64 ≠ 0 := fun q => by
  have e := congrArg Int64.toInt q
  rw [Int32.toInt_toInt64] at e
  have : (0 : Int64).toInt = 0 := by decide
  omega
theorem own_mo {a b : Int64} {k : Int32} (h1 : 1 ≤ k.toInt) (h2 : k.toInt ≤ 4096) : FP.dcmp (FP.Core.own_me (own_mn a b) k.toInt64) (FP.Core.own_me (own_mx a b) k.toInt64) = some .lt ∨ FP.dcmp (FP.Core.own_me (own_mn a b) k.toInt64) (FP.Core.own_me (own_mx a b) k.toInt64) = some .eq := by
  have e := Int32.toInt_toInt64 k
  exact FP.Core.own_me_mono (own_mnx a b) (by rw [e]; omega) (by rw [e]; omega)
end Ret2
end Jvm.RoadKit
namespace Jvm.Pilot.@@N@@
open Jvm Jvm.ClassFile Sem Op Lib Jvm.Free Jvm.Stand Jvm.LawKit Jvm.RoadKit Bundle Jvm.Pilot.@@N@@.Jvm.D
theorem d4_0 : decode jdk_29_method_70_code 0 = .ok (.lload_n 0, 1) := by decide +kernel
theorem d4_1 : decode jdk_29_method_70_code 1 = .ok (.lload_n 2, 1) := by decide +kernel
theorem d4_2 : decode jdk_29_method_70_code 2 = .ok (.lcmp, 1) := by decide +kernel
theorem d4_3 : decode jdk_29_method_70_code 3 = .ok (.ifCond .gt 7, 3) := by decide +kernel
theorem d4_6 : decode jdk_29_method_70_code 6 = .ok (.lload_n 0, 1) := by decide +kernel
theorem d4_7 : decode jdk_29_method_70_code 7 = .ok (.goto 4, 3) := by decide +kernel
theorem d4_10 : decode jdk_29_method_70_code 10 = .ok (.lload_n 2, 1) := by decide +kernel
theorem d4_11 : decode jdk_29_method_70_code 11 = .ok (.lreturn, 1) := by decide +kernel
theorem ef_4 (m : MethodId) (la : Int64) (lb : Int64) : entryFrame m #[(.long la), (.long lb)] 4 = mkF m 0 #[.val (.long la), .second, .val (.long lb), .second] [] := by first | (simp [entryFrame, mkF, argsToLocals, Value.category]; done) | rfl
def Q4 (Z : State) (la : Int64) (lb : Int64) (h0 : Heap) (n0 : Nat) (v : Option Value) (h : Heap) (L : List Loc) : Prop := v = some (.long (own_mn la lb)) ∧ Fr n0 L ∧ h = h0
set_option maxRecDepth 65536 in
set_option maxHeartbeats 40000000 in
theorem rm4 (l : Launch) (Z : State) (a0 : Array Value) (hw : ∀ d ∈ tables_1, d.before a0 Z = true) (ws : List Jvm.Cond) (la : Int64) (lb : Int64) (h0 : Heap) (n0 : Nat) (Z0 : n0 ≤ h0.size) :
    MetFree l (⟨"java/lang/Math", "min", "(JJ)J"⟩ : MethodName) (head1 (Jvm.Cond.code (⟨"java/lang/Math", "min", "(JJ)J"⟩ : MethodName) jdk_29_method_70_code 4 (some .long) :: ws) ({ frames := 0, cells := 0, slots := 0, locals := 0 } : Room)) (fun a U => a = #[(.long la), (.long lb)] ∧ Z.Warmed39 U.vm ∧ U.heap = h0) (fun _ _ _ _ _ => True) (fun _ U o U' => ∃ v L, o = .returned v ∧ Q4 Z la lb h0 n0 v U'.heap L ∧ FrameEnd U o U' L ({ frames := 0, cells := 0, slots := 0, locals := 0 } : Room).cells ({ frames := 0, cells := 0, slots := 0, locals := 0 } : Room).slots) := by
  refine MetFree.of_bodySF (Jvm.Free.JP.mathPlain rfl (by decide +kernel)) hisR ?_
  intro p e s m args below meth c s₁ Bd hml0 hP hK
  obtain ⟨rfl, hZ, hh⟩ := hP
  have hx := Bd.exec
  have hby := Bd.bytes
  have hml : c.maxLocals = 4 := hml0
  have hown : s.vm.findClass "java/lang/Math" = some m.cls := findClass_of_methodNamed Bd.named
  have hnm := (name_of_methodNamed Bd.named Bd.method).1
  have hlk : meth.locks = false := Bd.notSynchronized
  have hrt := Bd.returns
  have X0 : Stand p l e ({ frames := 0, cells := 0, slots := 0, locals := 0 } : Room) s m #[(.long la), (.long lb)] below meth c s₁ [] 0 0 := Stand.of_body Bd
  have e0 : s₁.heap = h0 := by rw [← hh, Bd.state]; rfl
  have N0 := Fr.nil n0
  show own_Endz p.tables e below (own_EndQ s ({ frames := 0, cells := 0, slots := 0, locals := 0 } : Room).cells ({ frames := 0, cells := 0, slots := 0, locals := 0 } : Room).slots (Q4 Z la lb h0 n0)) (s₁.setTop (entryFrame m #[(.long la), (.long lb)] 4))
  refine own_cast (ef_4 m la lb) ?_
  refine own_go (b := s₁.setTop (mkF m 1 #[.val (.long la), .second, .val (.long lb), .second] [(.long la)])) (fun t k => XS.lloadN X0.here hx rfl (hb hby d4_0) rfl  k) ?_
  refine own_go (b := s₁.setTop (mkF m 2 #[.val (.long la), .second, .val (.long lb), .second] [(.long lb), (.long la)])) (fun t k => XS.lloadN X0.here hx rfl (hb hby d4_1) rfl  k) ?_
  refine own_go (b := s₁.setTop (mkF m 3 #[.val (.long la), .second, .val (.long lb), .second] [(.int (lcmpW la lb))])) (fun t k => XS.lcmp X0.here hx rfl (hb hby d4_2) rfl k) ?_
  by_cases hc1 : (0 : Int32) < (lcmpW la lb)
  · refine own_go (b := s₁.setTop (mkF m 10 #[.val (.long la), .second, .val (.long lb), .second] [])) (fun t k => XS.ifYes X0.here hx rfl (pc0 := 3) (pc' := 10) rfl (hb hby d4_3) rfl ((if0 _ _).trans (tlt hc1).2.2.1) (by decide) (by decide) k) ?_
    refine own_go (b := s₁.setTop (mkF m 11 #[.val (.long la), .second, .val (.long lb), .second] [(.long lb)])) (fun t k => XS.lloadN X0.here hx rfl (hb hby d4_10) rfl  k) ?_
    exact own_retJ X0 hx hlk hrt (hb hby d4_11) (Nat.le_of_ble_eq_true rfl) (Nat.le_of_ble_eq_true rfl) (⟨by rw [own_mn, if_pos hc1], N0, e0⟩)
  · refine own_go (b := s₁.setTop (mkF m 6 #[.val (.long la), .second, .val (.long lb), .second] [])) (fun t k => XS.ifNo X0.here hx rfl (hb hby d4_3) rfl ((if0 _ _).trans (flt hc1).2.2.1) k) ?_
    refine own_go (b := s₁.setTop (mkF m 7 #[.val (.long la), .second, .val (.long lb), .second] [(.long la)])) (fun t k => XS.lloadN X0.here hx rfl (hb hby d4_6) rfl  k) ?_
    refine own_go (b := s₁.setTop (mkF m 11 #[.val (.long la), .second, .val (.long lb), .second] [(.long la)])) (fun t k => XS.goto X0.here hx rfl (pc0 := 7) (pc' := 11) rfl (hb hby d4_7) (by decide) (by decide) k) ?_
    exact own_retJ X0 hx hlk hrt (hb hby d4_11) (Nat.le_of_ble_eq_true rfl) (Nat.le_of_ble_eq_true rfl) (⟨by rw [own_mn, if_neg hc1], N0, e0⟩)
theorem d5_0 : decode jdk_29_method_66_code 0 = .ok (.lload_n 0, 1) := by decide +kernel
theorem d5_1 : decode jdk_29_method_66_code 1 = .ok (.lload_n 2, 1) := by decide +kernel
theorem d5_2 : decode jdk_29_method_66_code 2 = .ok (.lcmp, 1) := by decide +kernel
theorem d5_3 : decode jdk_29_method_66_code 3 = .ok (.ifCond .lt 7, 3) := by decide +kernel
theorem d5_6 : decode jdk_29_method_66_code 6 = .ok (.lload_n 0, 1) := by decide +kernel
theorem d5_7 : decode jdk_29_method_66_code 7 = .ok (.goto 4, 3) := by decide +kernel
theorem d5_10 : decode jdk_29_method_66_code 10 = .ok (.lload_n 2, 1) := by decide +kernel
theorem d5_11 : decode jdk_29_method_66_code 11 = .ok (.lreturn, 1) := by decide +kernel
theorem ef_5 (m : MethodId) (la : Int64) (lb : Int64) : entryFrame m #[(.long la), (.long lb)] 4 = mkF m 0 #[.val (.long la), .second, .val (.long lb), .second] [] := by first | (simp [entryFrame, mkF, argsToLocals, Value.category]; done) | rfl
def Q5 (Z : State) (la : Int64) (lb : Int64) (h0 : Heap) (n0 : Nat) (v : Option Value) (h : Heap) (L : List Loc) : Prop := v = some (.long (own_mx la lb)) ∧ Fr n0 L ∧ h = h0
set_option maxRecDepth 65536 in
set_option maxHeartbeats 40000000 in
theorem rm5 (l : Launch) (Z : State) (a0 : Array Value) (hw : ∀ d ∈ tables_1, d.before a0 Z = true) (ws : List Jvm.Cond) (la : Int64) (lb : Int64) (h0 : Heap) (n0 : Nat) (Z0 : n0 ≤ h0.size) :
    MetFree l (⟨"java/lang/Math", "max", "(JJ)J"⟩ : MethodName) (head1 (Jvm.Cond.code (⟨"java/lang/Math", "max", "(JJ)J"⟩ : MethodName) jdk_29_method_66_code 4 (some .long) :: ws) ({ frames := 0, cells := 0, slots := 0, locals := 0 } : Room)) (fun a U => a = #[(.long la), (.long lb)] ∧ Z.Warmed39 U.vm ∧ U.heap = h0) (fun _ _ _ _ _ => True) (fun _ U o U' => ∃ v L, o = .returned v ∧ Q5 Z la lb h0 n0 v U'.heap L ∧ FrameEnd U o U' L ({ frames := 0, cells := 0, slots := 0, locals := 0 } : Room).cells ({ frames := 0, cells := 0, slots := 0, locals := 0 } : Room).slots) := by
  refine MetFree.of_bodySF (Jvm.Free.JP.mathPlain rfl (by decide +kernel)) hisR ?_
  intro p e s m args below meth c s₁ Bd hml0 hP hK
  obtain ⟨rfl, hZ, hh⟩ := hP
  have hx := Bd.exec
  have hby := Bd.bytes
  have hml : c.maxLocals = 4 := hml0
  have hown : s.vm.findClass "java/lang/Math" = some m.cls := findClass_of_methodNamed Bd.named
  have hnm := (name_of_methodNamed Bd.named Bd.method).1
  have hlk : meth.locks = false := Bd.notSynchronized
  have hrt := Bd.returns
  have X0 : Stand p l e ({ frames := 0, cells := 0, slots := 0, locals := 0 } : Room) s m #[(.long la), (.long lb)] below meth c s₁ [] 0 0 := Stand.of_body Bd
  have e0 : s₁.heap = h0 := by rw [← hh, Bd.state]; rfl
  have N0 := Fr.nil n0
  show own_Endz p.tables e below (own_EndQ s ({ frames := 0, cells := 0, slots := 0, locals := 0 } : Room).cells ({ frames := 0, cells := 0, slots := 0, locals := 0 } : Room).slots (Q5 Z la lb h0 n0)) (s₁.setTop (entryFrame m #[(.long la), (.long lb)] 4))
  refine own_cast (ef_5 m la lb) ?_
  refine own_go (b := s₁.setTop (mkF m 1 #[.val (.long la), .second, .val (.long lb), .second] [(.long la)])) (fun t k => XS.lloadN X0.here hx rfl (hb hby d5_0) rfl  k) ?_
  refine own_go (b := s₁.setTop (mkF m 2 #[.val (.long la), .second, .val (.long lb), .second] [(.long lb), (.long la)])) (fun t k => XS.lloadN X0.here hx rfl (hb hby d5_1) rfl  k) ?_
  refine own_go (b := s₁.setTop (mkF m 3 #[.val (.long la), .second, .val (.long lb), .second] [(.int (lcmpW la lb))])) (fun t k => XS.lcmp X0.here hx rfl (hb hby d5_2) rfl k) ?_
  by_cases hc1 : (lcmpW la lb) < (0 : Int32)
  · refine own_go (b := s₁.setTop (mkF m 10 #[.val (.long la), .second, .val (.long lb), .second] [])) (fun t k => XS.ifYes X0.here hx rfl (pc0 := 3) (pc' := 10) rfl (hb hby d5_3) rfl ((if0 _ _).trans (tlt hc1).1) (by decide) (by decide) k) ?_
    refine own_go (b := s₁.setTop (mkF m 11 #[.val (.long la), .second, .val (.long lb), .second] [(.long lb)])) (fun t k => XS.lloadN X0.here hx rfl (hb hby d5_10) rfl  k) ?_
    exact own_retJ X0 hx hlk hrt (hb hby d5_11) (Nat.le_of_ble_eq_true rfl) (Nat.le_of_ble_eq_true rfl) (⟨by rw [own_mx, if_pos hc1], N0, e0⟩)
  · refine own_go (b := s₁.setTop (mkF m 6 #[.val (.long la), .second, .val (.long lb), .second] [])) (fun t k => XS.ifNo X0.here hx rfl (hb hby d5_3) rfl ((if0 _ _).trans (flt hc1).1) k) ?_
    refine own_go (b := s₁.setTop (mkF m 7 #[.val (.long la), .second, .val (.long lb), .second] [(.long la)])) (fun t k => XS.lloadN X0.here hx rfl (hb hby d5_6) rfl  k) ?_
    refine own_go (b := s₁.setTop (mkF m 11 #[.val (.long la), .second, .val (.long lb), .second] [(.long la)])) (fun t k => XS.goto X0.here hx rfl (pc0 := 7) (pc' := 11) rfl (hb hby d5_7) (by decide) (by decide) k) ?_
    exact own_retJ X0 hx hlk hrt (hb hby d5_11) (Nat.le_of_ble_eq_true rfl) (Nat.le_of_ble_eq_true rfl) (⟨by rw [own_mx, if_neg hc1], N0, e0⟩)
theorem d3_0 : decode prog_29_method_6_code 0 = .ok (.aload_n 0, 1) := by decide +kernel
theorem d3_1 : decode prog_29_method_6_code 1 = .ok (.getfield 13, 3) := by decide +kernel
theorem d3_4 : decode prog_29_method_6_code 4 = .ok (.l2d, 1) := by decide +kernel
theorem d3_5 : decode prog_29_method_6_code 5 = .ok (.ldc2_w 88, 3) := by decide +kernel
theorem d3_8 : decode prog_29_method_6_code 8 = .ok (.ddiv, 1) := by decide +kernel
theorem d3_9 : decode prog_29_method_6_code 9 = .ok (.aload_n 0, 1) := by decide +kernel
theorem d3_10 : decode prog_29_method_6_code 10 = .ok (.getfield 7, 3) := by decide +kernel
theorem d3_13 : decode prog_29_method_6_code 13 = .ok (.l2d, 1) := by decide +kernel
theorem d3_14 : decode prog_29_method_6_code 14 = .ok (.ddiv, 1) := by decide +kernel
theorem d3_15 : decode prog_29_method_6_code 15 = .ok (.dreturn, 1) := by decide +kernel
theorem pn_0 : plainName "com/example/vertumnus/vertumnus/cost/Round" = true := by first | (simp [plainName, overriddenIn]; done) | decide +kernel
theorem ef_3 (m : MethodId) (tt : Addr) : entryFrame m #[(.ref tt)] 1 = mkF m 0 #[rv tt] [] := by first | (simp [entryFrame, mkF, argsToLocals, Value.category]; done) | rfl
def Q3 (Z : State) (tt : Addr) (ln : Int64) (lk : Int64) (h0 : Heap) (n0 : Nat) (v : Option Value) (h : Heap) (L : List Loc) : Prop := v = some (.double (Jvm.FP.Core.own_me ln lk)) ∧ Fr n0 L ∧ h = h0
set_option maxRecDepth 65536 in
set_option maxHeartbeats 40000000 in
theorem rm3 (l : Launch) (Z : State) (a0 : Array Value) (hw : ∀ d ∈ tables_1, d.before a0 Z = true) (ws : List Jvm.Cond) (tt : Addr) (ln : Int64) (lk : Int64) (h0 : Heap) (n0 : Nat) (Z0 : n0 ≤ h0.size) (Fn : Fld Z h0 tt "com/example/vertumnus/vertumnus/cost/Round" "nanos" "J" (.long ln)) (Fc : Fld Z h0 tt "com/example/vertumnus/vertumnus/cost/Round" "count" "J" (.long lk)) (hk0 : lk ≠ 0) :
    MetFree l (⟨"com/example/vertumnus/vertumnus/cost/Round", "microsEach", "()D"⟩ : MethodName) (head1 (Jvm.Cond.code (⟨"com/example/vertumnus/vertumnus/cost/Round", "microsEach", "()D"⟩ : MethodName) prog_29_method_6_code 1 (some .double) :: ws) ({ frames := 0, cells := 0, slots := 0, locals := 0 } : Room)) (fun a U => a = #[(.ref tt)] ∧ Z.Warmed39 U.vm ∧ U.heap = h0) (fun _ _ _ _ _ => True) (fun _ U o U' => ∃ v L, o = .returned v ∧ Q3 Z tt ln lk h0 n0 v U'.heap L ∧ FrameEnd U o U' L ({ frames := 0, cells := 0, slots := 0, locals := 0 } : Room).cells ({ frames := 0, cells := 0, slots := 0, locals := 0 } : Room).slots) := by
  refine MetFree.of_bodySF (plainFor_of_name pn_0) hisR ?_
  intro p e s m args below meth c s₁ Bd hml0 hP hK
  obtain ⟨rfl, hZ, hh⟩ := hP
  have hx := Bd.exec
  have hby := Bd.bytes
  have hml : c.maxLocals = 1 := hml0
  have hown : s.vm.findClass "com/example/vertumnus/vertumnus/cost/Round" = some m.cls := findClass_of_methodNamed Bd.named
  have hnm := (name_of_methodNamed Bd.named Bd.method).1
  have hlk : meth.locks = false := Bd.notSynchronized
  have hrt := Bd.returns
  have X0 : Stand p l e ({ frames := 0, cells := 0, slots := 0, locals := 0 } : Room) s m #[(.ref tt)] below meth c s₁ [] 0 0 := Stand.of_body Bd
  have e0 : s₁.heap = h0 := by rw [← hh, Bd.state]; rfl
  have N0 := Fr.nil n0
  show own_Endz p.tables e below (own_EndQ s ({ frames := 0, cells := 0, slots := 0, locals := 0 } : Room).cells ({ frames := 0, cells := 0, slots := 0, locals := 0 } : Room).slots (Q3 Z tt ln lk h0 n0)) (s₁.setTop (entryFrame m #[(.ref tt)] 1))
  refine own_cast (ef_3 m tt) ?_
  refine own_go (b := s₁.setTop (mkF m 1 #[rv tt] [(.ref tt)])) (fun t k => XS.aloadN X0.here hx rfl (hb hby d3_0) rfl rfl k) ?_
  obtain ⟨T1, X1, e1, st1⟩ := getF X0 hx hZ hown (host := "") (Or.inl (hw _ (List.mem_of_getElem? (i := 13) rfl))) Via.refl e0 Fn (g := (mkF m 1 #[rv tt] [(.ref tt)])) rfl rfl (hb hby d3_1)
  refine own_go (b := T1.setTop (mkF m 4 #[rv tt] [(.long ln)])) st1 ?_
  refine own_go (b := T1.setTop (mkF m 5 #[rv tt] [(.double (FP.l2d ln))])) (fun t k => XS.l2dS X1.here hx rfl (hb hby d3_4) rfl rfl k) ?_
  refine own_go (b := T1.setTop (mkF m 8 #[rv tt] [(.double (4652007308841189376 : UInt64)), (.double (FP.l2d ln))])) (fun t k => X1.ldc2DoubleC hx hown (mvT hZ (hw _ (List.mem_of_getElem? (i := 26) rfl))) (g := (mkF m 5 #[rv tt] [(.double (FP.l2d ln))])) rfl (hb hby d3_5) t k) ?_
  refine own_go (b := T1.setTop (mkF m 9 #[rv tt] [(.double (FP.ddiv (FP.l2d ln) (4652007308841189376 : UInt64)))])) (fun t k => XS.ddivS X1.here hx rfl (hb hby d3_8) rfl (Jvm.Free.Fl.ddiv_out (Jvm.Free.Fl.l2d_fin _).noNaN own_f1000 own_n1000) rfl k) ?_
  refine own_go (b := T1.setTop (mkF m 10 #[rv tt] [(.ref tt), (.double (FP.ddiv (FP.l2d ln) (4652007308841189376 : UInt64)))])) (fun t k => XS.aloadN X1.here hx rfl (hb hby d3_9) rfl rfl k) ?_
  obtain ⟨T2, X2, e2, st2⟩ := getF X1 hx hZ hown (host := "") (Or.inl (hw _ (List.mem_of_getElem? (i := 11) rfl))) Via.refl e1 Fc (g := (mkF m 10 #[rv tt] [(.ref tt), (.double (FP.ddiv (FP.l2d ln) (4652007308841189376 : UInt64)))])) rfl rfl (hb hby d3_10)
  refine own_go (b := T2.setTop (mkF m 13 #[rv tt] [(.long lk), (.double (FP.ddiv (FP.l2d ln) (4652007308841189376 : UInt64)))])) st2 ?_
  refine own_go (b := T2.setTop (mkF m 14 #[rv tt] [(.double (FP.l2d lk)), (.double (FP.ddiv (FP.l2d ln) (4652007308841189376 : UInt64)))])) (fun t k => XS.l2dS X2.here hx rfl (hb hby d3_13) rfl rfl k) ?_
  refine own_go (b := T2.setTop (mkF m 15 #[rv tt] [(.double (FP.ddiv (FP.ddiv (FP.l2d ln) (4652007308841189376 : UInt64)) (FP.l2d lk)))])) (fun t k => XS.ddivS X2.here hx rfl (hb hby d3_14) rfl (Jvm.Free.Fl.ddiv_out (Jvm.Free.Fl.ddiv_out (Jvm.Free.Fl.l2d_fin _).noNaN own_f1000 own_n1000) (Jvm.Free.Fl.l2d_fin _) (Jvm.Free.Fl.l2d_nz hk0)) rfl k) ?_
  exact own_retD X2 hx hlk hrt (hb hby d3_15) (Nat.le_of_ble_eq_true rfl) (Nat.le_of_ble_eq_true rfl) (⟨rfl, N0, e2⟩)
theorem d1_0 : decode prog_29_method_1_code 0 = .ok (.aload_n 0, 1) := by decide +kernel
theorem d1_1 : decode prog_29_method_1_code 1 = .ok (.invokespecial 1, 3) := by decide +kernel
theorem d1_4 : decode prog_29_method_1_code 4 = .ok (.aload_n 0, 1) := by decide +kernel
theorem d1_5 : decode prog_29_method_1_code 5 = .ok (.lload_n 1, 1) := by decide +kernel
theorem d1_6 : decode prog_29_method_1_code 6 = .ok (.putfield 7, 3) := by decide +kernel
theorem d1_9 : decode prog_29_method_1_code 9 = .ok (.aload_n 0, 1) := by decide +kernel
theorem d1_10 : decode prog_29_method_1_code 10 = .ok (.lload_n 3, 1) := by decide +kernel
theorem d1_11 : decode prog_29_method_1_code 11 = .ok (.putfield 13, 3) := by decide +kernel
theorem d1_14 : decode prog_29_method_1_code 14 = .ok (.aload_n 0, 1) := by decide +kernel
theorem d1_15 : decode prog_29_method_1_code 15 = .ok (.lload 5, 2) := by decide +kernel
theorem d1_17 : decode prog_29_method_1_code 17 = .ok (.putfield 16, 3) := by decide +kernel
theorem d1_20 : decode prog_29_method_1_code 20 = .ok (.aload_n 0, 1) := by decide +kernel
theorem d1_21 : decode prog_29_method_1_code 21 = .ok (.lload 7, 2) := by decide +kernel
theorem d1_23 : decode prog_29_method_1_code 23 = .ok (.putfield 19, 3) := by decide +kernel
theorem d1_26 : decode prog_29_method_1_code 26 = .ok (.aload_n 0, 1) := by decide +kernel
theorem d1_27 : decode prog_29_method_1_code 27 = .ok (.lload 9, 2) := by decide +kernel
theorem d1_29 : decode prog_29_method_1_code 29 = .ok (.putfield 22, 3) := by decide +kernel
theorem d1_32 : decode prog_29_method_1_code 32 = .ok (.return_, 1) := by decide +kernel
theorem pd_0 : parseMethodDescriptor "()V" = some ⟨[], none⟩ := by decide +kernel
theorem ef_1 (m : MethodId) (tt : Addr) (pc_ : Int64) (pn_ : Int64) (pv_ : Int64) (pk_ : Int64) (pr_ : Int64) : entryFrame m #[(.ref tt), (.long pc_), (.long pn_), (.long pv_), (.long pk_), (.long pr_)] 11 = mkF m 0 #[rv tt, .val (.long pc_), .second, .val (.long pn_), .second, .val (.long pv_), .second, .val (.long pk_), .second, .val (.long pr_), .second] [] := by first | (simp [entryFrame, mkF, argsToLocals, Value.category]; done) | rfl
def Q1 (Z : State) (tt : Addr) (pc_ : Int64) (pn_ : Int64) (pv_ : Int64) (pk_ : Int64) (pr_ : Int64) (h0 : Heap) (n0 : Nat) (v : Option Value) (h : Heap) (L : List Loc) : Prop := v = none ∧ Fr n0 L ∧ Keep h0 h [tt] ∧ Exa Z h tt "com/example/vertumnus/vertumnus/cost/Round" ∧ Fld Z h tt "com/example/vertumnus/vertumnus/cost/Round" "count" "J" (.long pc_) ∧ Fld Z h tt "com/example/vertumnus/vertumnus/cost/Round" "nanos" "J" (.long pn_)
set_option maxRecDepth 65536 in
set_option maxHeartbeats 40000000 in
theorem rm1 (l : Launch) (Z : State) (a0 : Array Value) (hw : ∀ d ∈ tables_1, d.before a0 Z = true) (ws : List Jvm.Cond) (tt : Addr) (pc_ : Int64) (pn_ : Int64) (pv_ : Int64) (pk_ : Int64) (pr_ : Int64) (h0 : Heap) (n0 : Nat) (Z0 : n0 ≤ h0.size) (Ex : Exa Z h0 tt "com/example/vertumnus/vertumnus/cost/Round") (Fa_ : Fld Z h0 tt "com/example/vertumnus/vertumnus/cost/Round" "count" "J" (.long 0)) (Fb_ : Fld Z h0 tt "com/example/vertumnus/vertumnus/cost/Round" "nanos" "J" (.long 0)) (Fc_ : Fld Z h0 tt "com/example/vertumnus/vertumnus/cost/Round" "verifyNanos" "J" (.long 0)) (Fd_ : Fld Z h0 tt "com/example/vertumnus/vertumnus/cost/Round" "peakBytes" "J" (.long 0)) (Fe_ : Fld Z h0 tt "com/example/vertumnus/vertumnus/cost/Round" "retainedBytes" "J" (.long 0)) (gt : n0 ≤ tt) :
    MetFree l (⟨"com/example/vertumnus/vertumnus/cost/Round", "<init>", "(JJJJJ)V"⟩ : MethodName) (head1 (Jvm.Cond.code (⟨"com/example/vertumnus/vertumnus/cost/Round", "<init>", "(JJJJJ)V"⟩ : MethodName) prog_29_method_1_code 11 none :: ws) ({ frames := 1, cells := 0, slots := 0, locals := 12 } : Room)) (fun a U => a = #[(.ref tt), (.long pc_), (.long pn_), (.long pv_), (.long pk_), (.long pr_)] ∧ Z.Warmed39 U.vm ∧ U.heap = h0) (fun _ _ _ _ _ => True) (fun _ U o U' => ∃ v L, o = .returned v ∧ Q1 Z tt pc_ pn_ pv_ pk_ pr_ h0 n0 v U'.heap L ∧ FrameEnd U o U' L ({ frames := 1, cells := 0, slots := 0, locals := 12 } : Room).cells ({ frames := 1, cells := 0, slots := 0, locals := 12 } : Room).slots) := by
  refine MetFree.of_bodySF (plainFor_of_name pn_0) hisR ?_
  intro p e s m args below meth c s₁ Bd hml0 hP hK
  obtain ⟨rfl, hZ, hh⟩ := hP
  have hx := Bd.exec
  have hby := Bd.bytes
  have hml : c.maxLocals = 11 := hml0
  have hown : s.vm.findClass "com/example/vertumnus/vertumnus/cost/Round" = some m.cls := findClass_of_methodNamed Bd.named
  have hnm := (name_of_methodNamed Bd.named Bd.method).1
  have hlk : meth.locks = false := Bd.notSynchronized
  have hrt := Bd.returns
  have X0 : Stand p l e ({ frames := 1, cells := 0, slots := 0, locals := 12 } : Room) s m #[(.ref tt), (.long pc_), (.long pn_), (.long pv_), (.long pk_), (.long pr_)] below meth c s₁ [] 0 0 := Stand.of_body Bd
  have e0 : s₁.heap = h0 := by rw [← hh, Bd.state]; rfl
  have N0 := Fr.nil n0
  show own_Endz p.tables e below (own_EndQ s ({ frames := 1, cells := 0, slots := 0, locals := 12 } : Room).cells ({ frames := 1, cells := 0, slots := 0, locals := 12 } : Room).slots (Q1 Z tt pc_ pn_ pv_ pk_ pr_ h0 n0)) (s₁.setTop (entryFrame m #[(.ref tt), (.long pc_), (.long pn_), (.long pv_), (.long pk_), (.long pr_)] 11))
  refine own_cast (ef_1 m tt pc_ pn_ pv_ pk_ pr_) ?_
  refine own_go (b := s₁.setTop (mkF m 1 #[rv tt, .val (.long pc_), .second, .val (.long pn_), .second, .val (.long pv_), .second, .val (.long pk_), .second, .val (.long pr_), .second] [(.ref tt)])) (fun t k => XS.aloadN X0.here hx rfl (hb hby d1_0) rfl rfl k) ?_
  obtain ⟨T1, X1, e1, st1⟩ := initO X0 hx hZ hown (hw _ (List.mem_of_getElem? (i := 8) rfl)) (hw _ (List.mem_of_getElem? (i := 9) rfl)) (hw _ (List.mem_of_getElem? (i := 10) rfl)) e0 (g := (mkF m 1 #[rv tt, .val (.long pc_), .second, .val (.long pn_), .second, .val (.long pv_), .second, .val (.long pk_), .second, .val (.long pr_), .second] [(.ref tt)])) rfl (by rw [hml]; rfl) rfl (hb hby d1_1) (by decide) (W := 0) (by show 2 * 0 + _ ≤ _; exact Nat.le_of_eq rfl) (by decide)
  refine own_go (b := T1.setTop (mkF m 4 #[rv tt, .val (.long pc_), .second, .val (.long pn_), .second, .val (.long pv_), .second, .val (.long pk_), .second, .val (.long pr_), .second] [])) st1 ?_
  refine own_go (b := T1.setTop (mkF m 5 #[rv tt, .val (.long pc_), .second, .val (.long pn_), .second, .val (.long pv_), .second, .val (.long pk_), .second, .val (.long pr_), .second] [(.ref tt)])) (fun t k => XS.aloadN X1.here hx rfl (hb hby d1_4) rfl rfl k) ?_
  refine own_go (b := T1.setTop (mkF m 6 #[rv tt, .val (.long pc_), .second, .val (.long pn_), .second, .val (.long pv_), .second, .val (.long pk_), .second, .val (.long pr_), .second] [(.long pc_), (.ref tt)])) (fun t k => XS.lloadN X1.here hx rfl (hb hby d1_5) rfl  k) ?_
  obtain ⟨T2, h2, X2, e2, W2, st2⟩ := putF X1 hx hZ hown (host := "") (Or.inl (hw _ (List.mem_of_getElem? (i := 11) rfl))) Via.refl e1 Fa_ Ex (Or.inr ⟨(hw _ (List.mem_of_getElem? (i := 12) rfl)), rfl, hnm⟩) (hw _ (List.mem_of_getElem? (i := 3) rfl)) (ty := .long) (by decide) rfl rfl (g := (mkF m 6 #[rv tt, .val (.long pc_), .second, .val (.long pn_), .second, .val (.long pv_), .second, .val (.long pk_), .second, .val (.long pr_), .second] [(.long pc_), (.ref tt)])) rfl rfl (hb hby d1_6)
  have Fw2 : Fld Z h2 tt "com/example/vertumnus/vertumnus/cost/Round" "count" "J" (.long pc_) := Fld.same W2 Fa_
  have Zs2 : n0 ≤ h2.size := Nat.le_trans Z0 (Keep.of_wr W2).1
  have N2 := Fr.snoc X2 N0 gt
  have Kp2 : Keep h0 h2 [tt] := (Keep.refl h0 [tt]).wr W2 (Or.inl (List.mem_of_getElem? (i := 0) rfl))
  refine own_go (b := T2.setTop (mkF m 9 #[rv tt, .val (.long pc_), .second, .val (.long pn_), .second, .val (.long pv_), .second, .val (.long pk_), .second, .val (.long pr_), .second] [])) st2 ?_
  refine own_go (b := T2.setTop (mkF m 10 #[rv tt, .val (.long pc_), .second, .val (.long pn_), .second, .val (.long pv_), .second, .val (.long pk_), .second, .val (.long pr_), .second] [(.ref tt)])) (fun t k => XS.aloadN X2.here hx rfl (hb hby d1_9) rfl rfl k) ?_
  refine own_go (b := T2.setTop (mkF m 11 #[rv tt, .val (.long pc_), .second, .val (.long pn_), .second, .val (.long pv_), .second, .val (.long pk_), .second, .val (.long pr_), .second] [(.long pn_), (.ref tt)])) (fun t k => XS.lloadN X2.here hx rfl (hb hby d1_10) rfl  k) ?_
  obtain ⟨T3, h3, X3, e3, W3, st3⟩ := putF X2 hx hZ hown (host := "") (Or.inl (hw _ (List.mem_of_getElem? (i := 13) rfl))) Via.refl e2 (Fb_.other W2 (Or.inr (slot_ne (Or.inr (hw _ (List.mem_of_getElem? (i := 14) rfl))) (Or.inr (hw _ (List.mem_of_getElem? (i := 12) rfl))) (by decide) (t := .long) (t' := .long) (by decide) (by decide)))) (Ex.wr W2) (Or.inr ⟨(hw _ (List.mem_of_getElem? (i := 14) rfl)), rfl, hnm⟩) (hw _ (List.mem_of_getElem? (i := 3) rfl)) (ty := .long) (by decide) rfl rfl (g := (mkF m 11 #[rv tt, .val (.long pc_), .second, .val (.long pn_), .second, .val (.long pv_), .second, .val (.long pk_), .second, .val (.long pr_), .second] [(.long pn_), (.ref tt)])) rfl rfl (hb hby d1_11)
  have Fw3 : Fld Z h3 tt "com/example/vertumnus/vertumnus/cost/Round" "nanos" "J" (.long pn_) := Fld.same W3 (Fb_.other W2 (Or.inr (slot_ne (Or.inr (hw _ (List.mem_of_getElem? (i := 14) rfl))) (Or.inr (hw _ (List.mem_of_getElem? (i := 12) rfl))) (by decide) (t := .long) (t' := .long) (by decide) (by decide))))
  have Zs3 : n0 ≤ h3.size := Nat.le_trans Zs2 (Keep.of_wr W3).1
  have N3 := Fr.snoc X3 N2 gt
  have Kp3 : Keep h0 h3 [tt] := Kp2.wr W3 (Or.inl (List.mem_of_getElem? (i := 0) rfl))
  refine own_go (b := T3.setTop (mkF m 14 #[rv tt, .val (.long pc_), .second, .val (.long pn_), .second, .val (.long pv_), .second, .val (.long pk_), .second, .val (.long pr_), .second] [])) st3 ?_
  refine own_go (b := T3.setTop (mkF m 15 #[rv tt, .val (.long pc_), .second, .val (.long pn_), .second, .val (.long pv_), .second, .val (.long pk_), .second, .val (.long pr_), .second] [(.ref tt)])) (fun t k => XS.aloadN X3.here hx rfl (hb hby d1_14) rfl rfl k) ?_
  refine own_go (b := T3.setTop (mkF m 17 #[rv tt, .val (.long pc_), .second, .val (.long pn_), .second, .val (.long pv_), .second, .val (.long pk_), .second, .val (.long pr_), .second] [(.long pv_), (.ref tt)])) (fun t k => XS.lload X3.here hx rfl (hb hby d1_15) rfl  k) ?_
  obtain ⟨T4, h4, X4, e4, W4, st4⟩ := putF X3 hx hZ hown (host := "") (Or.inl (hw _ (List.mem_of_getElem? (i := 15) rfl))) Via.refl e3 ((Fc_.other W2 (Or.inr (slot_ne (Or.inr (hw _ (List.mem_of_getElem? (i := 16) rfl))) (Or.inr (hw _ (List.mem_of_getElem? (i := 12) rfl))) (by decide) (t := .long) (t' := .long) (by decide) (by decide)))).other W3 (Or.inr (slot_ne (Or.inr (hw _ (List.mem_of_getElem? (i := 16) rfl))) (Or.inr (hw _ (List.mem_of_getElem? (i := 14) rfl))) (by decide) (t := .long) (t' := .long) (by decide) (by decide)))) ((Ex.wr W2).wr W3) (Or.inr ⟨(hw _ (List.mem_of_getElem? (i := 16) rfl)), rfl, hnm⟩) (hw _ (List.mem_of_getElem? (i := 3) rfl)) (ty := .long) (by decide) rfl rfl (g := (mkF m 17 #[rv tt, .val (.long pc_), .second, .val (.long pn_), .second, .val (.long pv_), .second, .val (.long pk_), .second, .val (.long pr_), .second] [(.long pv_), (.ref tt)])) rfl rfl (hb hby d1_17)
  have Fw4 : Fld Z h4 tt "com/example/vertumnus/vertumnus/cost/Round" "verifyNanos" "J" (.long pv_) := Fld.same W4 ((Fc_.other W2 (Or.inr (slot_ne (Or.inr (hw _ (List.mem_of_getElem? (i := 16) rfl))) (Or.inr (hw _ (List.mem_of_getElem? (i := 12) rfl))) (by decide) (t := .long) (t' := .long) (by decide) (by decide)))).other W3 (Or.inr (slot_ne (Or.inr (hw _ (List.mem_of_getElem? (i := 16) rfl))) (Or.inr (hw _ (List.mem_of_getElem? (i := 14) rfl))) (by decide) (t := .long) (t' := .long) (by decide) (by decide))))
  have Zs4 : n0 ≤ h4.size := Nat.le_trans Zs3 (Keep.of_wr W4).1
  have N4 := Fr.snoc X4 N3 gt
  have Kp4 : Keep h0 h4 [tt] := Kp3.wr W4 (Or.inl (List.mem_of_getElem? (i := 0) rfl))
  refine own_go (b := T4.setTop (mkF m 20 #[rv tt, .val (.long pc_), .second, .val (.long pn_), .second, .val (.long pv_), .second, .val (.long pk_), .second, .val (.long pr_), .second] [])) st4 ?_
  refine own_go (b := T4.setTop (mkF m 21 #[rv tt, .val (.long pc_), .second, .val (.long pn_), .second, .val (.long pv_), .second, .val (.long pk_), .second, .val (.long pr_), .second] [(.ref tt)])) (fun t k => XS.aloadN X4.here hx rfl (hb hby d1_20) rfl rfl k) ?_
  refine own_go (b := T4.setTop (mkF m 23 #[rv tt, .val (.long pc_), .second, .val (.long pn_), .second, .val (.long pv_), .second, .val (.long pk_), .second, .val (.long pr_), .second] [(.long pk_), (.ref tt)])) (fun t k => XS.lload X4.here hx rfl (hb hby d1_21) rfl  k) ?_
  obtain ⟨T5, h5, X5, e5, W5, st5⟩ := putF X4 hx hZ hown (host := "") (Or.inl (hw _ (List.mem_of_getElem? (i := 17) rfl))) Via.refl e4 (((Fd_.other W2 (Or.inr (slot_ne (Or.inr (hw _ (List.mem_of_getElem? (i := 18) rfl))) (Or.inr (hw _ (List.mem_of_getElem? (i := 12) rfl))) (by decide) (t := .long) (t' := .long) (by decide) (by decide)))).other W3 (Or.inr (slot_ne (Or.inr (hw _ (List.mem_of_getElem? (i := 18) rfl))) (Or.inr (hw _ (List.mem_of_getElem? (i := 14) rfl))) (by decide) (t := .long) (t' := .long) (by decide) (by decide)))).other W4 (Or.inr (slot_ne (Or.inr (hw _ (List.mem_of_getElem? (i := 18) rfl))) (Or.inr (hw _ (List.mem_of_getElem? (i := 16) rfl))) (by decide) (t := .long) (t' := .long) (by decide) (by decide)))) (((Ex.wr W2).wr W3).wr W4) (Or.inr ⟨(hw _ (List.mem_of_getElem? (i := 18) rfl)), rfl, hnm⟩) (hw _ (List.mem_of_getElem? (i := 3) rfl)) (ty := .long) (by decide) rfl rfl (g := (mkF m 23 #[rv tt, .val (.long pc_), .second, .val (.long pn_), .second, .val (.long pv_), .second, .val (.long pk_), .second, .val (.long pr_), .second] [(.long pk_), (.ref tt)])) rfl rfl (hb hby d1_23)
  have Fw5 : Fld Z h5 tt "com/example/vertumnus/vertumnus/cost/Round" "peakBytes" "J" (.long pk_) := Fld.same W5 (((Fd_.other W2 (Or.inr (slot_ne (Or.inr (hw _ (List.mem_of_getElem? (i := 18) rfl))) (Or.inr (hw _ (List.mem_of_getElem? (i := 12) rfl))) (by decide) (t := .long) (t' := .long) (by decide) (by decide)))).other W3 (Or.inr (slot_ne (Or.inr (hw _ (List.mem_of_getElem? (i := 18) rfl))) (Or.inr (hw _ (List.mem_of_getElem? (i := 14) rfl))) (by decide) (t := .long) (t' := .long) (by decide) (by decide)))).other W4 (Or.inr (slot_ne (Or.inr (hw _ (List.mem_of_getElem? (i := 18) rfl))) (Or.inr (hw _ (List.mem_of_getElem? (i := 16) rfl))) (by decide) (t := .long) (t' := .long) (by decide) (by decide))))
  have Zs5 : n0 ≤ h5.size := Nat.le_trans Zs4 (Keep.of_wr W5).1
  have N5 := Fr.snoc X5 N4 gt
  have Kp5 : Keep h0 h5 [tt] := Kp4.wr W5 (Or.inl (List.mem_of_getElem? (i := 0) rfl))
  refine own_go (b := T5.setTop (mkF m 26 #[rv tt, .val (.long pc_), .second, .val (.long pn_), .second, .val (.long pv_), .second, .val (.long pk_), .second, .val (.long pr_), .second] [])) st5 ?_
  refine own_go (b := T5.setTop (mkF m 27 #[rv tt, .val (.long pc_), .second, .val (.long pn_), .second, .val (.long pv_), .second, .val (.long pk_), .second, .val (.long pr_), .second] [(.ref tt)])) (fun t k => XS.aloadN X5.here hx rfl (hb hby d1_26) rfl rfl k) ?_
  refine own_go (b := T5.setTop (mkF m 29 #[rv tt, .val (.long pc_), .second, .val (.long pn_), .second, .val (.long pv_), .second, .val (.long pk_), .second, .val (.long pr_), .second] [(.long pr_), (.ref tt)])) (fun t k => XS.lload X5.here hx rfl (hb hby d1_27) rfl  k) ?_
  obtain ⟨T6, h6, X6, e6, W6, st6⟩ := putF X5 hx hZ hown (host := "") (Or.inl (hw _ (List.mem_of_getElem? (i := 19) rfl))) Via.refl e5 ((((Fe_.other W2 (Or.inr (slot_ne (Or.inr (hw _ (List.mem_of_getElem? (i := 20) rfl))) (Or.inr (hw _ (List.mem_of_getElem? (i := 12) rfl))) (by decide) (t := .long) (t' := .long) (by decide) (by decide)))).other W3 (Or.inr (slot_ne (Or.inr (hw _ (List.mem_of_getElem? (i := 20) rfl))) (Or.inr (hw _ (List.mem_of_getElem? (i := 14) rfl))) (by decide) (t := .long) (t' := .long) (by decide) (by decide)))).other W4 (Or.inr (slot_ne (Or.inr (hw _ (List.mem_of_getElem? (i := 20) rfl))) (Or.inr (hw _ (List.mem_of_getElem? (i := 16) rfl))) (by decide) (t := .long) (t' := .long) (by decide) (by decide)))).other W5 (Or.inr (slot_ne (Or.inr (hw _ (List.mem_of_getElem? (i := 20) rfl))) (Or.inr (hw _ (List.mem_of_getElem? (i := 18) rfl))) (by decide) (t := .long) (t' := .long) (by decide) (by decide)))) ((((Ex.wr W2).wr W3).wr W4).wr W5) (Or.inr ⟨(hw _ (List.mem_of_getElem? (i := 20) rfl)), rfl, hnm⟩) (hw _ (List.mem_of_getElem? (i := 3) rfl)) (ty := .long) (by decide) rfl rfl (g := (mkF m 29 #[rv tt, .val (.long pc_), .second, .val (.long pn_), .second, .val (.long pv_), .second, .val (.long pk_), .second, .val (.long pr_), .second] [(.long pr_), (.ref tt)])) rfl rfl (hb hby d1_29)
  have Fw6 : Fld Z h6 tt "com/example/vertumnus/vertumnus/cost/Round" "retainedBytes" "J" (.long pr_) := Fld.same W6 ((((Fe_.other W2 (Or.inr (slot_ne (Or.inr (hw _ (List.mem_of_getElem? (i := 20) rfl))) (Or.inr (hw _ (List.mem_of_getElem? (i := 12) rfl))) (by decide) (t := .long) (t' := .long) (by decide) (by decide)))).other W3 (Or.inr (slot_ne (Or.inr (hw _ (List.mem_of_getElem? (i := 20) rfl))) (Or.inr (hw _ (List.mem_of_getElem? (i := 14) rfl))) (by decide) (t := .long) (t' := .long) (by decide) (by decide)))).other W4 (Or.inr (slot_ne (Or.inr (hw _ (List.mem_of_getElem? (i := 20) rfl))) (Or.inr (hw _ (List.mem_of_getElem? (i := 16) rfl))) (by decide) (t := .long) (t' := .long) (by decide) (by decide)))).other W5 (Or.inr (slot_ne (Or.inr (hw _ (List.mem_of_getElem? (i := 20) rfl))) (Or.inr (hw _ (List.mem_of_getElem? (i := 18) rfl))) (by decide) (t := .long) (t' := .long) (by decide) (by decide))))
  have Zs6 : n0 ≤ h6.size := Nat.le_trans Zs5 (Keep.of_wr W6).1
  have N6 := Fr.snoc X6 N5 gt
  have Kp6 : Keep h0 h6 [tt] := Kp5.wr W6 (Or.inl (List.mem_of_getElem? (i := 0) rfl))
  refine own_go (b := T6.setTop (mkF m 32 #[rv tt, .val (.long pc_), .second, .val (.long pn_), .second, .val (.long pv_), .second, .val (.long pk_), .second, .val (.long pr_), .second] [])) st6 ?_
  exact own_retV X6 hx hlk hrt (hb hby d1_32) (Nat.le_of_ble_eq_true rfl) (Nat.le_of_ble_eq_true rfl) (⟨rfl, N6, by rw [e6]; exact Kp6, by rw [e6]; exact (((((Ex.wr W2).wr W3).wr W4).wr W5).wr W6), by rw [e6]; exact ((((Fw2.other W3 (Or.inr (slot_ne (Or.inr (hw _ (List.mem_of_getElem? (i := 12) rfl))) (Or.inr (hw _ (List.mem_of_getElem? (i := 14) rfl))) (by decide) (t := .long) (t' := .long) (by decide) (by decide)))).other W4 (Or.inr (slot_ne (Or.inr (hw _ (List.mem_of_getElem? (i := 12) rfl))) (Or.inr (hw _ (List.mem_of_getElem? (i := 16) rfl))) (by decide) (t := .long) (t' := .long) (by decide) (by decide)))).other W5 (Or.inr (slot_ne (Or.inr (hw _ (List.mem_of_getElem? (i := 12) rfl))) (Or.inr (hw _ (List.mem_of_getElem? (i := 18) rfl))) (by decide) (t := .long) (t' := .long) (by decide) (by decide)))).other W6 (Or.inr (slot_ne (Or.inr (hw _ (List.mem_of_getElem? (i := 12) rfl))) (Or.inr (hw _ (List.mem_of_getElem? (i := 20) rfl))) (by decide) (t := .long) (t' := .long) (by decide) (by decide)))), by rw [e6]; exact (((Fw3.other W4 (Or.inr (slot_ne (Or.inr (hw _ (List.mem_of_getElem? (i := 14) rfl))) (Or.inr (hw _ (List.mem_of_getElem? (i := 16) rfl))) (by decide) (t := .long) (t' := .long) (by decide) (by decide)))).other W5 (Or.inr (slot_ne (Or.inr (hw _ (List.mem_of_getElem? (i := 14) rfl))) (Or.inr (hw _ (List.mem_of_getElem? (i := 18) rfl))) (by decide) (t := .long) (t' := .long) (by decide) (by decide)))).other W6 (Or.inr (slot_ne (Or.inr (hw _ (List.mem_of_getElem? (i := 14) rfl))) (Or.inr (hw _ (List.mem_of_getElem? (i := 20) rfl))) (by decide) (t := .long) (t' := .long) (by decide) (by decide))))⟩)
theorem pn_1 : plainName "com/example/vertumnus/vertumnus/cost/RoundMicrosEachPinLaw" = true := by first | (simp [plainName, overriddenIn]; done) | decide +kernel
theorem pd_1 : parseMethodDescriptor "(JJJJJ)V" = some ⟨[.long, .long, .long, .long, .long], none⟩ := by decide +kernel
theorem pd_2 : parseMethodDescriptor "()D" = some ⟨[], some .double⟩ := by decide +kernel
theorem pd_3 : parseMethodDescriptor "(JJ)J" = some ⟨[.long, .long], some .long⟩ := by decide +kernel
theorem ef_0 (m : MethodId) (kw : Int32) (cw : Int32) (la : Int64) (lb : Int64) (lv : Int64) (lp : Int64) : entryFrame m #[(.int kw), (.int cw), (.long la), (.long lb), (.long lv), (.long lp)] maxLocals = mkF m 0 #[iv kw, iv cw, .val (.long la), .second, .val (.long lb), .second, .val (.long lv), .second, .val (.long lp), .second, .unset, .unset, .unset, .unset, .unset, .unset, .unset, .unset, .unset, .unset, .unset, .unset, .unset, .unset] [] := by first | (simp [entryFrame, mkF, argsToLocals, Value.category, maxLocals]; done) | rfl
def Q0 (Z : State) (kw : Int32) (cw : Int32) (la : Int64) (lb : Int64) (lv : Int64) (lp : Int64) (h0 : Heap) (n0 : Nat) (v : Option Value) (h : Heap) (L : List Loc) : Prop := v = some (.int 1) ∧ Fr n0 L
set_option maxRecDepth 65536 in
set_option maxHeartbeats 40000000 in
theorem rm0 (l : Launch) (Z : State) (a0 : Array Value) (hw : ∀ d ∈ tables_1, d.before a0 Z = true) (ws : List Jvm.Cond) (kw : Int32) (cw : Int32) (la : Int64) (lb : Int64) (lv : Int64) (lp : Int64) (h0 : Heap) (n0 : Nat) (Z0 : n0 ≤ h0.size) :
    MetFree l x (head1 (Jvm.Cond.code x code maxLocals ret :: ws) room_1) (fun a U => a = #[(.int kw), (.int cw), (.long la), (.long lb), (.long lv), (.long lp)] ∧ Z.Warmed39 U.vm ∧ U.heap = h0) (fun _ _ _ _ _ => True) (fun _ U o U' => ∃ v L, o = .returned v ∧ Q0 Z kw cw la lb lv lp h0 n0 v U'.heap L ∧ FrameEnd U o U' L room_1.cells room_1.slots) := by
  refine MetFree.of_bodySF (plainFor_of_name pn_1) hisR ?_
  intro p e s m args below meth c s₁ Bd hml0 hP hK
  obtain ⟨rfl, hZ, hh⟩ := hP
  have hx := Bd.exec
  have hby := Bd.bytes
  have hml : c.maxLocals = 24 := hml0
  have hown : s.vm.findClass "com/example/vertumnus/vertumnus/cost/RoundMicrosEachPinLaw" = some m.cls := findClass_of_methodNamed Bd.named
  have hnm := (name_of_methodNamed Bd.named Bd.method).1
  have hlk : meth.locks = false := Bd.notSynchronized
  have hrt := Bd.returns
  have X0 : Stand p l e room_1 s m #[(.int kw), (.int cw), (.long la), (.long lb), (.long lv), (.long lp)] below meth c s₁ [] 0 0 := Stand.of_body Bd
  have e0 : s₁.heap = h0 := by rw [← hh, Bd.state]; rfl
  have N0 := Fr.nil n0
  show own_Endz p.tables e below (own_EndQ s room_1.cells room_1.slots (Q0 Z kw cw la lb lv lp h0 n0)) (s₁.setTop (entryFrame m #[(.int kw), (.int cw), (.long la), (.long lb), (.long lv), (.long lp)] maxLocals))
  refine own_cast (ef_0 m kw cw la lb lv lp) ?_
  refine own_go (b := s₁.setTop (mkF m 1 #[iv kw, iv cw, .val (.long la), .second, .val (.long lb), .second, .val (.long lv), .second, .val (.long lp), .second, .unset, .unset, .unset, .unset, .unset, .unset, .unset, .unset, .unset, .unset, .unset, .unset, .unset, .unset] [(.int kw)])) (fun t k => XS.iloadN X0.here hx rfl (hb hby at_0) rfl  k) ?_
  refine own_go (b := s₁.setTop (mkF m 3 #[iv kw, iv cw, .val (.long la), .second, .val (.long lb), .second, .val (.long lv), .second, .val (.long lp), .second, .unset, .unset, .unset, .unset, .unset, .unset, .unset, .unset, .unset, .unset, .unset, .unset, .unset, .unset] [(.int 1048576), (.int kw)])) (fun t k => X0.ldcInt hx hown (mvT hZ (hw _ (List.mem_of_getElem? (i := 0) rfl))) (g := (mkF m 1 #[iv kw, iv cw, .val (.long la), .second, .val (.long lb), .second, .val (.long lv), .second, .val (.long lp), .second, .unset, .unset, .unset, .unset, .unset, .unset, .unset, .unset, .unset, .unset, .unset, .unset, .unset, .unset] [(.int kw)])) rfl (hb hby at_1) t k) ?_
  refine own_go (b := s₁.setTop (mkF m 4 #[iv kw, iv cw, .val (.long la), .second, .val (.long lb), .second, .val (.long lv), .second, .val (.long lp), .second, .unset, .unset, .unset, .unset, .unset, .unset, .unset, .unset, .unset, .unset, .unset, .unset, .unset, .unset] [(.int (kw % (1048576 : Int32)))])) (fun t k => iremM X0 hx rfl (hb hby at_3) rfl (by decide) k) ?_
  refine own_go (b := s₁.setTop (mkF m 6 #[iv kw, iv cw, .val (.long la), .second, .val (.long lb), .second, .val (.long lv), .second, .val (.long lp), .second, iv (kw % (1048576 : Int32)), .unset, .unset, .unset, .unset, .unset, .unset, .unset, .unset, .unset, .unset, .unset, .unset, .unset] [])) (fun t k => XS.istore X0.here hx rfl (hb hby at_4) rfl (l' := #[iv kw, iv cw, .val (.long la), .second, .val (.long lb), .second, .val (.long lv), .second, .val (.long lp), .second, iv (kw % (1048576 : Int32)), .unset, .unset, .unset, .unset, .unset, .unset, .unset, .unset, .unset, .unset, .unset, .unset, .unset]) rfl k) ?_
  obtain ⟨kk, hkk⟩ : ∃ y, y = (kw % (1048576 : Int32)) := ⟨_, rfl⟩
  rw [← hkk]
  have bk : kk.toInt.natAbs < 1048576 := by rw [hkk]; exact own_kb _
  show own_Endz p.tables e below (own_EndQ s room_1.cells room_1.slots (Q0 Z kw cw la lb lv lp h0 n0)) (s₁.setTop (mkF m 6 #[iv kw, iv cw, .val (.long la), .second, .val (.long lb), .second, .val (.long lv), .second, .val (.long lp), .second, iv kk, .unset, .unset, .unset, .unset, .unset, .unset, .unset, .unset, .unset, .unset, .unset, .unset, .unset] []))
  refine own_go (b := s₁.setTop (mkF m 7 #[iv kw, iv cw, .val (.long la), .second, .val (.long lb), .second, .val (.long lv), .second, .val (.long lp), .second, iv kk, .unset, .unset, .unset, .unset, .unset, .unset, .unset, .unset, .unset, .unset, .unset, .unset, .unset] [(.int cw)])) (fun t k => XS.iloadN X0.here hx rfl (hb hby at_6) rfl  k) ?_
  refine own_go (b := s₁.setTop (mkF m 10 #[iv kw, iv cw, .val (.long la), .second, .val (.long lb), .second, .val (.long lv), .second, .val (.long lp), .second, iv kk, .unset, .unset, .unset, .unset, .unset, .unset, .unset, .unset, .unset, .unset, .unset, .unset, .unset] [(.int 4095), (.int cw)])) (fun t k => XS.sipush X0.here hx rfl (hb hby at_7) k) ?_
  refine own_go (b := s₁.setTop (mkF m 11 #[iv kw, iv cw, .val (.long la), .second, .val (.long lb), .second, .val (.long lv), .second, .val (.long lp), .second, iv kk, .unset, .unset, .unset, .unset, .unset, .unset, .unset, .unset, .unset, .unset, .unset, .unset, .unset] [(.int (cw &&& (4095 : Int32)))])) (fun t k => XS.iand X0.here hx rfl (hb hby at_10) rfl k) ?_
  refine own_go (b := s₁.setTop (mkF m 12 #[iv kw, iv cw, .val (.long la), .second, .val (.long lb), .second, .val (.long lv), .second, .val (.long lp), .second, iv kk, .unset, .unset, .unset, .unset, .unset, .unset, .unset, .unset, .unset, .unset, .unset, .unset, .unset] [(.int 1), (.int (cw &&& (4095 : Int32)))])) (fun t k => XS.iconst X0.here hx rfl (hb hby at_11) k) ?_
  refine own_go (b := s₁.setTop (mkF m 13 #[iv kw, iv cw, .val (.long la), .second, .val (.long lb), .second, .val (.long lv), .second, .val (.long lp), .second, iv kk, .unset, .unset, .unset, .unset, .unset, .unset, .unset, .unset, .unset, .unset, .unset, .unset, .unset] [(.int ((cw &&& (4095 : Int32)) + (1 : Int32)))])) (fun t k => XS.iadd X0.here hx rfl (hb hby at_12) rfl k) ?_
  refine own_go (b := s₁.setTop (mkF m 15 #[iv kw, iv cw, .val (.long la), .second, .val (.long lb), .second, .val (.long lv), .second, .val (.long lp), .second, iv kk, iv ((cw &&& (4095 : Int32)) + (1 : Int32)), .unset, .unset, .unset, .unset, .unset, .unset, .unset, .unset, .unset, .unset, .unset, .unset] [])) (fun t k => XS.istore X0.here hx rfl (hb hby at_13) rfl (l' := #[iv kw, iv cw, .val (.long la), .second, .val (.long lb), .second, .val (.long lv), .second, .val (.long lp), .second, iv kk, iv ((cw &&& (4095 : Int32)) + (1 : Int32)), .unset, .unset, .unset, .unset, .unset, .unset, .unset, .unset, .unset, .unset, .unset, .unset]) rfl k) ?_
  obtain ⟨mg, hmg⟩ : ∃ y, y = ((cw &&& (4095 : Int32)) + (1 : Int32)) := ⟨_, rfl⟩
  rw [← hmg]
  have bm : 1 ≤ mg.toInt ∧ mg.toInt ≤ 4096 := by rw [hmg]; exact own_mb _
  show own_Endz p.tables e below (own_EndQ s room_1.cells room_1.slots (Q0 Z kw cw la lb lv lp h0 n0)) (s₁.setTop (mkF m 15 #[iv kw, iv cw, .val (.long la), .second, .val (.long lb), .second, .val (.long lv), .second, .val (.long lp), .second, iv kk, iv mg, .unset, .unset, .unset, .unset, .unset, .unset, .unset, .unset, .unset, .unset, .unset, .unset] []))
  refine own_go (b := s₁.setTop (mkF m 16 #[iv kw, iv cw, .val (.long la), .second, .val (.long lb), .second, .val (.long lv), .second, .val (.long lp), .second, iv kk, iv mg, .unset, .unset, .unset, .unset, .unset, .unset, .unset, .unset, .unset, .unset, .unset, .unset] [(.int cw)])) (fun t k => XS.iloadN X0.here hx rfl (hb hby at_15) rfl  k) ?_
  refine own_go (b := s₁.setTop (mkF m 19 #[iv kw, iv cw, .val (.long la), .second, .val (.long lb), .second, .val (.long lv), .second, .val (.long lp), .second, iv kk, iv mg, .unset, .unset, .unset, .unset, .unset, .unset, .unset, .unset, .unset, .unset, .unset, .unset] [(.int 4096), (.int cw)])) (fun t k => XS.sipush X0.here hx rfl (hb hby at_16) k) ?_
  refine own_go (b := s₁.setTop (mkF m 20 #[iv kw, iv cw, .val (.long la), .second, .val (.long lb), .second, .val (.long lv), .second, .val (.long lp), .second, iv kk, iv mg, .unset, .unset, .unset, .unset, .unset, .unset, .unset, .unset, .unset, .unset, .unset, .unset] [(.int (cw &&& (4096 : Int32)))])) (fun t k => XS.iand X0.here hx rfl (hb hby at_19) rfl k) ?_
  by_cases hc1 : (cw &&& (4096 : Int32)) = (0 : Int32)
  · refine own_go (b := s₁.setTop (mkF m 29 #[iv kw, iv cw, .val (.long la), .second, .val (.long lb), .second, .val (.long lv), .second, .val (.long lp), .second, iv kk, iv mg, .unset, .unset, .unset, .unset, .unset, .unset, .unset, .unset, .unset, .unset, .unset, .unset] [])) (fun t k => XS.ifYes X0.here hx rfl (pc0 := 20) (pc' := 29) rfl (hb hby at_20) rfl ((if0 _ _).trans (teq hc1).1) (by decide) (by decide) k) ?_
    refine own_go (b := s₁.setTop (mkF m 31 #[iv kw, iv cw, .val (.long la), .second, .val (.long lb), .second, .val (.long lv), .second, .val (.long lp), .second, iv kk, iv mg, .unset, .unset, .unset, .unset, .unset, .unset, .unset, .unset, .unset, .unset, .unset, .unset] [(.int mg)])) (fun t k => XS.iload X0.here hx rfl (hb hby at_29) rfl  k) ?_
    refine own_go (b := s₁.setTop (mkF m 33 #[iv kw, iv cw, .val (.long la), .second, .val (.long lb), .second, .val (.long lv), .second, .val (.long lp), .second, iv kk, iv mg, iv mg, .unset, .unset, .unset, .unset, .unset, .unset, .unset, .unset, .unset, .unset, .unset] [])) (fun t k => XS.istore X0.here hx rfl (hb hby at_31) rfl (l' := #[iv kw, iv cw, .val (.long la), .second, .val (.long lb), .second, .val (.long lv), .second, .val (.long lp), .second, iv kk, iv mg, iv mg, .unset, .unset, .unset, .unset, .unset, .unset, .unset, .unset, .unset, .unset, .unset]) rfl k) ?_
    obtain ⟨cI, hcI⟩ : ∃ y, y = mg := ⟨_, rfl⟩
    have hI : 1 ≤ cI.toInt.natAbs ∧ cI.toInt.natAbs ≤ 4096 := by rw [hcI]; omega
    refine own_cast (show (mkF m 33 #[iv kw, iv cw, .val (.long la), .second, .val (.long lb), .second, .val (.long lv), .second, .val (.long lp), .second, iv kk, iv mg, iv mg, .unset, .unset, .unset, .unset, .unset, .unset, .unset, .unset, .unset, .unset, .unset] []) = (mkF m 33 #[iv kw, iv cw, .val (.long la), .second, .val (.long lb), .second, .val (.long lv), .second, .val (.long lp), .second, iv kk, iv mg, iv cI, .unset, .unset, .unset, .unset, .unset, .unset, .unset, .unset, .unset, .unset, .unset] []) from by rw [hcI]) ?_
    refine own_go (b := s₁.setTop (mkF m 35 #[iv kw, iv cw, .val (.long la), .second, .val (.long lb), .second, .val (.long lv), .second, .val (.long lp), .second, iv kk, iv mg, iv cI, .unset, .unset, .unset, .unset, .unset, .unset, .unset, .unset, .unset, .unset, .unset] [(.int cI)])) (fun t k => XS.iload X0.here hx rfl (hb hby at_33) rfl  k) ?_
    refine own_go (b := s₁.setTop (mkF m 36 #[iv kw, iv cw, .val (.long la), .second, .val (.long lb), .second, .val (.long lv), .second, .val (.long lp), .second, iv kk, iv mg, iv cI, .unset, .unset, .unset, .unset, .unset, .unset, .unset, .unset, .unset, .unset, .unset] [(.long (cI.toInt64))])) (fun t k => XS.i2l X0.here hx rfl (hb hby at_35) rfl k) ?_
    refine own_go (b := s₁.setTop (mkF m 38 #[iv kw, iv cw, .val (.long la), .second, .val (.long lb), .second, .val (.long lv), .second, .val (.long lp), .second, iv kk, iv mg, iv cI, .unset, .unset, .unset, .unset, .unset, .unset, .unset, .unset, .unset, .unset, .unset] [(.int kk), (.long (cI.toInt64))])) (fun t k => XS.iload X0.here hx rfl (hb hby at_36) rfl  k) ?_
    refine own_go (b := s₁.setTop (mkF m 39 #[iv kw, iv cw, .val (.long la), .second, .val (.long lb), .second, .val (.long lv), .second, .val (.long lp), .second, iv kk, iv mg, iv cI, .unset, .unset, .unset, .unset, .unset, .unset, .unset, .unset, .unset, .unset, .unset] [(.long (kk.toInt64)), (.long (cI.toInt64))])) (fun t k => XS.i2l X0.here hx rfl (hb hby at_38) rfl k) ?_
    refine own_go (b := s₁.setTop (mkF m 40 #[iv kw, iv cw, .val (.long la), .second, .val (.long lb), .second, .val (.long lv), .second, .val (.long lp), .second, iv kk, iv mg, iv cI, .unset, .unset, .unset, .unset, .unset, .unset, .unset, .unset, .unset, .unset, .unset] [(.long ((cI.toInt64) * (kk.toInt64)))])) (fun t k => XS.lmul X0.here hx rfl (hb hby at_39) rfl k) ?_
    refine own_go (b := s₁.setTop (mkF m 43 #[iv kw, iv cw, .val (.long la), .second, .val (.long lb), .second, .val (.long lv), .second, .val (.long lp), .second, iv kk, iv mg, iv cI, .unset, .unset, .unset, .unset, .unset, .unset, .unset, .unset, .unset, .unset, .unset] [(.long 500), (.long ((cI.toInt64) * (kk.toInt64)))])) (fun t k => X0.ldc2Long hx hown (mvT hZ (hw _ (List.mem_of_getElem? (i := 1) rfl))) (g := (mkF m 40 #[iv kw, iv cw, .val (.long la), .second, .val (.long lb), .second, .val (.long lv), .second, .val (.long lp), .second, iv kk, iv mg, iv cI, .unset, .unset, .unset, .unset, .unset, .unset, .unset, .unset, .unset, .unset, .unset] [(.long ((cI.toInt64) * (kk.toInt64)))])) rfl (hb hby at_40) t k) ?_
    refine own_go (b := s₁.setTop (mkF m 44 #[iv kw, iv cw, .val (.long la), .second, .val (.long lb), .second, .val (.long lv), .second, .val (.long lp), .second, iv kk, iv mg, iv cI, .unset, .unset, .unset, .unset, .unset, .unset, .unset, .unset, .unset, .unset, .unset] [(.long (((cI.toInt64) * (kk.toInt64)) * (500 : Int64)))])) (fun t k => XS.lmul X0.here hx rfl (hb hby at_43) rfl k) ?_
    refine own_go (b := s₁.setTop (mkF m 46 #[iv kw, iv cw, .val (.long la), .second, .val (.long lb), .second, .val (.long lv), .second, .val (.long lp), .second, iv kk, iv mg, iv cI, .val (.long (((cI.toInt64) * (kk.toInt64)) * (500 : Int64))), .second, .unset, .unset, .unset, .unset, .unset, .unset, .unset, .unset, .unset] [])) (fun t k => XS.lstore X0.here hx rfl (hb hby at_44) rfl (l' := #[iv kw, iv cw, .val (.long la), .second, .val (.long lb), .second, .val (.long lv), .second, .val (.long lp), .second, iv kk, iv mg, iv cI, .val (.long (((cI.toInt64) * (kk.toInt64)) * (500 : Int64))), .second, .unset, .unset, .unset, .unset, .unset, .unset, .unset, .unset, .unset]) rfl k) ?_
    obtain ⟨T2, h2, X2, e2, E2, A2, D2, -, st2⟩ := newO X0 hx hZ hown (hw _ (List.mem_of_getElem? (i := 2) rfl)) (hw _ (List.mem_of_getElem? (i := 3) rfl)) (hw _ (List.mem_of_getElem? (i := 4) rfl)) e0 (g := (mkF m 46 #[iv kw, iv cw, .val (.long la), .second, .val (.long lb), .second, .val (.long lv), .second, .val (.long lp), .second, iv kk, iv mg, iv cI, .val (.long (((cI.toInt64) * (kk.toInt64)) * (500 : Int64))), .second, .unset, .unset, .unset, .unset, .unset, .unset, .unset, .unset, .unset] [])) rfl (hb hby at_46) (by decide) (by decide)
    obtain ⟨b2, g2⟩ : ∃ z, z = h0.size := ⟨_, rfl⟩
    rw [← g2] at A2 D2 st2
    have g_b2 : n0 ≤ b2 := Nat.le_trans Z0 (Nat.le_of_eq g2.symm)
    have Zs2 : n0 ≤ h2.size := Nat.le_trans Z0 E2.1
    have F_count_b2 : Fld Z h2 b2 "com/example/vertumnus/vertumnus/cost/Round" "count" "J" (.long 0) := D2 (Or.inr (hw _ (List.mem_of_getElem? (i := 12) rfl))) (ty := .long) (by decide)
    have F_nanos_b2 : Fld Z h2 b2 "com/example/vertumnus/vertumnus/cost/Round" "nanos" "J" (.long 0) := D2 (Or.inr (hw _ (List.mem_of_getElem? (i := 14) rfl))) (ty := .long) (by decide)
    have F_verifyNanos_b2 : Fld Z h2 b2 "com/example/vertumnus/vertumnus/cost/Round" "verifyNanos" "J" (.long 0) := D2 (Or.inr (hw _ (List.mem_of_getElem? (i := 16) rfl))) (ty := .long) (by decide)
    have F_peakBytes_b2 : Fld Z h2 b2 "com/example/vertumnus/vertumnus/cost/Round" "peakBytes" "J" (.long 0) := D2 (Or.inr (hw _ (List.mem_of_getElem? (i := 18) rfl))) (ty := .long) (by decide)
    have F_retainedBytes_b2 : Fld Z h2 b2 "com/example/vertumnus/vertumnus/cost/Round" "retainedBytes" "J" (.long 0) := D2 (Or.inr (hw _ (List.mem_of_getElem? (i := 20) rfl))) (ty := .long) (by decide)
    refine own_go (b := T2.setTop (mkF m 49 #[iv kw, iv cw, .val (.long la), .second, .val (.long lb), .second, .val (.long lv), .second, .val (.long lp), .second, iv kk, iv mg, iv cI, .val (.long (((cI.toInt64) * (kk.toInt64)) * (500 : Int64))), .second, .unset, .unset, .unset, .unset, .unset, .unset, .unset, .unset, .unset] [(.ref b2)])) st2 ?_
    refine own_go (b := T2.setTop (mkF m 50 #[iv kw, iv cw, .val (.long la), .second, .val (.long lb), .second, .val (.long lv), .second, .val (.long lp), .second, iv kk, iv mg, iv cI, .val (.long (((cI.toInt64) * (kk.toInt64)) * (500 : Int64))), .second, .unset, .unset, .unset, .unset, .unset, .unset, .unset, .unset, .unset] [(.ref b2), (.ref b2)])) (fun t k => XS.dup X2.here hx rfl (hb hby at_49) rfl rfl k) ?_
    refine own_go (b := T2.setTop (mkF m 52 #[iv kw, iv cw, .val (.long la), .second, .val (.long lb), .second, .val (.long lv), .second, .val (.long lp), .second, iv kk, iv mg, iv cI, .val (.long (((cI.toInt64) * (kk.toInt64)) * (500 : Int64))), .second, .unset, .unset, .unset, .unset, .unset, .unset, .unset, .unset, .unset] [(.int cI), (.ref b2), (.ref b2)])) (fun t k => XS.iload X2.here hx rfl (hb hby at_50) rfl  k) ?_
    refine own_go (b := T2.setTop (mkF m 53 #[iv kw, iv cw, .val (.long la), .second, .val (.long lb), .second, .val (.long lv), .second, .val (.long lp), .second, iv kk, iv mg, iv cI, .val (.long (((cI.toInt64) * (kk.toInt64)) * (500 : Int64))), .second, .unset, .unset, .unset, .unset, .unset, .unset, .unset, .unset, .unset] [(.long (cI.toInt64)), (.ref b2), (.ref b2)])) (fun t k => XS.i2l X2.here hx rfl (hb hby at_52) rfl k) ?_
    refine own_go (b := T2.setTop (mkF m 55 #[iv kw, iv cw, .val (.long la), .second, .val (.long lb), .second, .val (.long lv), .second, .val (.long lp), .second, iv kk, iv mg, iv cI, .val (.long (((cI.toInt64) * (kk.toInt64)) * (500 : Int64))), .second, .unset, .unset, .unset, .unset, .unset, .unset, .unset, .unset, .unset] [(.long (((cI.toInt64) * (kk.toInt64)) * (500 : Int64))), (.long (cI.toInt64)), (.ref b2), (.ref b2)])) (fun t k => XS.lload X2.here hx rfl (hb hby at_53) rfl  k) ?_
    refine own_go (b := T2.setTop (mkF m 57 #[iv kw, iv cw, .val (.long la), .second, .val (.long lb), .second, .val (.long lv), .second, .val (.long lp), .second, iv kk, iv mg, iv cI, .val (.long (((cI.toInt64) * (kk.toInt64)) * (500 : Int64))), .second, .unset, .unset, .unset, .unset, .unset, .unset, .unset, .unset, .unset] [(.long lv), (.long (((cI.toInt64) * (kk.toInt64)) * (500 : Int64))), (.long (cI.toInt64)), (.ref b2), (.ref b2)])) (fun t k => XS.lload X2.here hx rfl (hb hby at_55) rfl  k) ?_
    refine own_go (b := T2.setTop (mkF m 59 #[iv kw, iv cw, .val (.long la), .second, .val (.long lb), .second, .val (.long lv), .second, .val (.long lp), .second, iv kk, iv mg, iv cI, .val (.long (((cI.toInt64) * (kk.toInt64)) * (500 : Int64))), .second, .unset, .unset, .unset, .unset, .unset, .unset, .unset, .unset, .unset] [(.long lp), (.long lv), (.long (((cI.toInt64) * (kk.toInt64)) * (500 : Int64))), (.long (cI.toInt64)), (.ref b2), (.ref b2)])) (fun t k => XS.lload X2.here hx rfl (hb hby at_57) rfl  k) ?_
    refine own_go (b := T2.setTop (mkF m 60 #[iv kw, iv cw, .val (.long la), .second, .val (.long lb), .second, .val (.long lv), .second, .val (.long lp), .second, iv kk, iv mg, iv cI, .val (.long (((cI.toInt64) * (kk.toInt64)) * (500 : Int64))), .second, .unset, .unset, .unset, .unset, .unset, .unset, .unset, .unset, .unset] [(.long la), (.long lp), (.long lv), (.long (((cI.toInt64) * (kk.toInt64)) * (500 : Int64))), (.long (cI.toInt64)), (.ref b2), (.ref b2)])) (fun t k => XS.lloadN X2.here hx rfl (hb hby at_59) rfl  k) ?_
    obtain ⟨_, _, ⟨T3, L3, k3, n3⟩, -, X3, ⟨Lc3, hQ3, l3, y3, z3⟩, st3⟩ := X2.specialBack hx (y := (⟨"com/example/vertumnus/vertumnus/cost/Round", "<init>", "(JJJJJ)V"⟩ : MethodName)) rfl hown (mvT hZ (hw _ (List.mem_of_getElem? (i := 5) rfl))) (mvT hZ (hw _ (List.mem_of_getElem? (i := 6) rfl))) (mvT hZ (hw _ (List.mem_of_getElem? (i := 7) rfl))) (by decide) (backOf (W := 1) (rm1 l Z a0 hw [] b2 (cI.toInt64) (((cI.toInt64) * (kk.toInt64)) * (500 : Int64)) lv lp la  h2 n0 Zs2 A2 F_count_b2 F_nanos_b2 F_verifyNanos_b2 F_peakBytes_b2 F_retainedBytes_b2 g_b2) hZ (hw _ (List.mem_of_getElem? (i := 7) rfl)) (hw _ (List.mem_of_getElem? (i := 4) rfl)) (by decide) (by decide)) (g := (mkF m 60 #[iv kw, iv cw, .val (.long la), .second, .val (.long lb), .second, .val (.long lv), .second, .val (.long lp), .second, iv kk, iv mg, iv cI, .val (.long (((cI.toInt64) * (kk.toInt64)) * (500 : Int64))), .second, .unset, .unset, .unset, .unset, .unset, .unset, .unset, .unset, .unset] [(.long la), (.long lp), (.long lv), (.long (((cI.toInt64) * (kk.toInt64)) * (500 : Int64))), (.long (cI.toInt64)), (.ref b2), (.ref b2)])) rfl (by rw [hml]; rfl) (Steps.refl _) (a := b2) (argsL := [(.long (cI.toInt64)), (.long (((cI.toInt64) * (kk.toInt64)) * (500 : Int64))), (.long lv), (.long lp), (.long la)]) (rest := [(.ref b2)]) (lenOf pd_1 rfl) rfl (by show 2 * 0 + _ ≤ _; exact Nat.le_of_eq rfl) (hb hby at_60) (fun _ _ => ⟨rfl, e2, (by decide : 1 + 0 ≤ _), (by decide : 5 + 0 ≤ _)⟩)
    dsimp only [Pt.U, Pt.locs, Pt.cells, Pt.slots] at X3 l3 y3 z3 st3 hQ3
    subst l3 y3 z3
    obtain ⟨rfl, N3q, K3, Ek3, Fc3_, Fn3_⟩ := hQ3
    have Zs3 : n0 ≤ T3.heap.size := Nat.le_trans Zs2 K3.1
    have N3 := Fr.app N0 N3q
    obtain ⟨lq3, X3, N3⟩ : ∃ lq, Stand p l e room_1 s m #[(.int kw), (.int cw), (.long la), (.long lb), (.long lv), (.long lp)] below meth c T3 lq 1 5 ∧ Fr n0 lq := ⟨_, X3, N3⟩
    refine own_tr (b := T3.setTop (mkF m 63 #[iv kw, iv cw, .val (.long la), .second, .val (.long lb), .second, .val (.long lv), .second, .val (.long lp), .second, iv kk, iv mg, iv cI, .val (.long (((cI.toInt64) * (kk.toInt64)) * (500 : Int64))), .second, .unset, .unset, .unset, .unset, .unset, .unset, .unset, .unset, .unset] [(.ref b2)])) st3 ?_
    refine own_go (b := T3.setTop (mkF m 65 #[iv kw, iv cw, .val (.long la), .second, .val (.long lb), .second, .val (.long lv), .second, .val (.long lp), .second, iv kk, iv mg, iv cI, .val (.long (((cI.toInt64) * (kk.toInt64)) * (500 : Int64))), .second, rv b2, .unset, .unset, .unset, .unset, .unset, .unset, .unset, .unset] [])) (fun t k => XS.astore X3.here hx rfl (hb hby at_63) rfl rfl (l' := #[iv kw, iv cw, .val (.long la), .second, .val (.long lb), .second, .val (.long lv), .second, .val (.long lp), .second, iv kk, iv mg, iv cI, .val (.long (((cI.toInt64) * (kk.toInt64)) * (500 : Int64))), .second, rv b2, .unset, .unset, .unset, .unset, .unset, .unset, .unset, .unset]) rfl k) ?_
    refine own_go (b := T3.setTop (mkF m 67 #[iv kw, iv cw, .val (.long la), .second, .val (.long lb), .second, .val (.long lv), .second, .val (.long lp), .second, iv kk, iv mg, iv cI, .val (.long (((cI.toInt64) * (kk.toInt64)) * (500 : Int64))), .second, rv b2, .unset, .unset, .unset, .unset, .unset, .unset, .unset, .unset] [(.ref b2)])) (fun t k => XS.aload X3.here hx rfl (hb hby at_65) rfl rfl k) ?_
    obtain ⟨cq4, kq4, q4a, q4b, q4c⟩ := isOf hZ rfl Ek3
    obtain ⟨_, _, ⟨T4, L4, k4, n4⟩, -, X4, ⟨Lc4, hQ4, l4, y4, z4⟩, st4⟩ := X3.virtualBack hx (y := (⟨"com/example/vertumnus/vertumnus/cost/Round", "microsEach", "()D"⟩ : MethodName)) (z := (⟨"com/example/vertumnus/vertumnus/cost/Round", "microsEach", "()D"⟩ : MethodName)) hown (mvT hZ (hw _ (List.mem_of_getElem? (i := 21) rfl))) (mvT hZ (hw _ (List.mem_of_getElem? (i := 22) rfl))) (notFace_of_selects (args := #[]) (mvT hZ (hw _ (List.mem_of_getElem? (i := 24) rfl)))) (mvT hZ (hw _ (List.mem_of_getElem? (i := 24) rfl))) (mvT hZ (hw _ (List.mem_of_getElem? (i := 23) rfl))) (by decide) (backOf (W := 0) (rm3 l Z a0 hw [] b2 (((cI.toInt64) * (kk.toInt64)) * (500 : Int64)) (cI.toInt64) T3.heap n0 Zs3 Fn3_ Fc3_ (own_nz hI.1)) hZ (hw _ (List.mem_of_getElem? (i := 25) rfl)) (hw _ (List.mem_of_getElem? (i := 4) rfl)) (by decide) (by decide)) q4a q4c (g := (mkF m 67 #[iv kw, iv cw, .val (.long la), .second, .val (.long lb), .second, .val (.long lv), .second, .val (.long lp), .second, iv kk, iv mg, iv cI, .val (.long (((cI.toInt64) * (kk.toInt64)) * (500 : Int64))), .second, rv b2, .unset, .unset, .unset, .unset, .unset, .unset, .unset, .unset] [(.ref b2)])) rfl (by rw [hml]; rfl) (Steps.refl _) (argsL := []) (rest := []) (lenOf pd_2 rfl) rfl (by show 2 * 0 + _ ≤ _; exact Nat.le_of_eq rfl) (hb hby at_67) (fun _ _ => ⟨rfl, rfl, (by decide : 1 + 0 ≤ _), (by decide : 5 + 0 ≤ _)⟩)
    dsimp only [Pt.U, Pt.locs, Pt.cells, Pt.slots] at X4 l4 y4 z4 st4 hQ4
    subst l4 y4 z4
    obtain ⟨rfl, N4q, e4⟩ := hQ4
    have N4 := Fr.app N3 N4q
    obtain ⟨lq4, X4, N4⟩ : ∃ lq, Stand p l e room_1 s m #[(.int kw), (.int cw), (.long la), (.long lb), (.long lv), (.long lp)] below meth c T4 lq 1 5 ∧ Fr n0 lq := ⟨_, X4, N4⟩
    refine own_tr (b := T4.setTop (mkF m 70 #[iv kw, iv cw, .val (.long la), .second, .val (.long lb), .second, .val (.long lv), .second, .val (.long lp), .second, iv kk, iv mg, iv cI, .val (.long (((cI.toInt64) * (kk.toInt64)) * (500 : Int64))), .second, rv b2, .unset, .unset, .unset, .unset, .unset, .unset, .unset, .unset] [(.double (Jvm.FP.Core.own_me (((cI.toInt64) * (kk.toInt64)) * (500 : Int64)) (cI.toInt64)))])) st4 ?_
    refine own_go (b := T4.setTop (mkF m 72 #[iv kw, iv cw, .val (.long la), .second, .val (.long lb), .second, .val (.long lv), .second, .val (.long lp), .second, iv kk, iv mg, iv cI, .val (.long (((cI.toInt64) * (kk.toInt64)) * (500 : Int64))), .second, rv b2, .unset, .unset, .unset, .unset, .unset, .unset, .unset, .unset] [(.int kk), (.double (Jvm.FP.Core.own_me (((cI.toInt64) * (kk.toInt64)) * (500 : Int64)) (cI.toInt64)))])) (fun t k => XS.iload X4.here hx rfl (hb hby at_70) rfl  k) ?_
    refine own_go (b := T4.setTop (mkF m 73 #[iv kw, iv cw, .val (.long la), .second, .val (.long lb), .second, .val (.long lv), .second, .val (.long lp), .second, iv kk, iv mg, iv cI, .val (.long (((cI.toInt64) * (kk.toInt64)) * (500 : Int64))), .second, rv b2, .unset, .unset, .unset, .unset, .unset, .unset, .unset, .unset] [(.double (FP.i2d kk)), (.double (Jvm.FP.Core.own_me (((cI.toInt64) * (kk.toInt64)) * (500 : Int64)) (cI.toInt64)))])) (fun t k => XS.i2dS X4.here hx rfl (hb hby at_72) rfl rfl k) ?_
    refine own_go (b := T4.setTop (mkF m 76 #[iv kw, iv cw, .val (.long la), .second, .val (.long lb), .second, .val (.long lv), .second, .val (.long lp), .second, iv kk, iv mg, iv cI, .val (.long (((cI.toInt64) * (kk.toInt64)) * (500 : Int64))), .second, rv b2, .unset, .unset, .unset, .unset, .unset, .unset, .unset, .unset] [(.double (4611686018427387904 : UInt64)), (.double (FP.i2d kk)), (.double (Jvm.FP.Core.own_me (((cI.toInt64) * (kk.toInt64)) * (500 : Int64)) (cI.toInt64)))])) (fun t k => X4.ldc2DoubleC hx hown (mvT hZ (hw _ (List.mem_of_getElem? (i := 27) rfl))) (g := (mkF m 73 #[iv kw, iv cw, .val (.long la), .second, .val (.long lb), .second, .val (.long lv), .second, .val (.long lp), .second, iv kk, iv mg, iv cI, .val (.long (((cI.toInt64) * (kk.toInt64)) * (500 : Int64))), .second, rv b2, .unset, .unset, .unset, .unset, .unset, .unset, .unset, .unset] [(.double (FP.i2d kk)), (.double (Jvm.FP.Core.own_me (((cI.toInt64) * (kk.toInt64)) * (500 : Int64)) (cI.toInt64)))])) rfl (hb hby at_73) t k) ?_
    refine own_go (b := T4.setTop (mkF m 77 #[iv kw, iv cw, .val (.long la), .second, .val (.long lb), .second, .val (.long lv), .second, .val (.long lp), .second, iv kk, iv mg, iv cI, .val (.long (((cI.toInt64) * (kk.toInt64)) * (500 : Int64))), .second, rv b2, .unset, .unset, .unset, .unset, .unset, .unset, .unset, .unset] [(.double (FP.ddiv (FP.i2d kk) (4611686018427387904 : UInt64))), (.double (Jvm.FP.Core.own_me (((cI.toInt64) * (kk.toInt64)) * (500 : Int64)) (cI.toInt64)))])) (fun t k => XS.ddivS X4.here hx rfl (hb hby at_76) rfl (Jvm.Free.Fl.ddiv_out (Jvm.Free.Fl.i2d_fin _).noNaN own_f2 own_n2) rfl k) ?_
    refine own_go (b := T4.setTop (mkF m 78 #[iv kw, iv cw, .val (.long la), .second, .val (.long lb), .second, .val (.long lv), .second, .val (.long lp), .second, iv kk, iv mg, iv cI, .val (.long (((cI.toInt64) * (kk.toInt64)) * (500 : Int64))), .second, rv b2, .unset, .unset, .unset, .unset, .unset, .unset, .unset, .unset] [(.int 0)])) (fun t k => XS.dcmpS X4.here hx rfl (hb hby at_77) rfl (own_cmp0 (own_ex hI.1 hI.2 bk) _) k) ?_
    refine own_go (b := T4.setTop (mkF m 81 #[iv kw, iv cw, .val (.long la), .second, .val (.long lb), .second, .val (.long lv), .second, .val (.long lp), .second, iv kk, iv mg, iv cI, .val (.long (((cI.toInt64) * (kk.toInt64)) * (500 : Int64))), .second, rv b2, .unset, .unset, .unset, .unset, .unset, .unset, .unset, .unset] [])) (fun t k => XS.ifNo X4.here hx rfl (hb hby at_78) rfl ((if0 _ _).trans (teq (rfl : (0 : Int32) = (0 : Int32))).2) k) ?_
    refine own_go (b := T4.setTop (mkF m 82 #[iv kw, iv cw, .val (.long la), .second, .val (.long lb), .second, .val (.long lv), .second, .val (.long lp), .second, iv kk, iv mg, iv cI, .val (.long (((cI.toInt64) * (kk.toInt64)) * (500 : Int64))), .second, rv b2, .unset, .unset, .unset, .unset, .unset, .unset, .unset, .unset] [(.int 1)])) (fun t k => XS.iconst X4.here hx rfl (hb hby at_81) k) ?_
    refine own_go (b := T4.setTop (mkF m 86 #[iv kw, iv cw, .val (.long la), .second, .val (.long lb), .second, .val (.long lv), .second, .val (.long lp), .second, iv kk, iv mg, iv cI, .val (.long (((cI.toInt64) * (kk.toInt64)) * (500 : Int64))), .second, rv b2, .unset, .unset, .unset, .unset, .unset, .unset, .unset, .unset] [(.int 1)])) (fun t k => XS.goto X4.here hx rfl (pc0 := 82) (pc' := 86) rfl (hb hby at_82) (by decide) (by decide) k) ?_
    refine own_go (b := T4.setTop (mkF m 88 #[iv kw, iv cw, .val (.long la), .second, .val (.long lb), .second, .val (.long lv), .second, .val (.long lp), .second, iv kk, iv mg, iv cI, .val (.long (((cI.toInt64) * (kk.toInt64)) * (500 : Int64))), .second, rv b2, iv 1, .unset, .unset, .unset, .unset, .unset, .unset, .unset] [])) (fun t k => XS.istore X4.here hx rfl (hb hby at_86) rfl (l' := #[iv kw, iv cw, .val (.long la), .second, .val (.long lb), .second, .val (.long lv), .second, .val (.long lp), .second, iv kk, iv mg, iv cI, .val (.long (((cI.toInt64) * (kk.toInt64)) * (500 : Int64))), .second, rv b2, iv 1, .unset, .unset, .unset, .unset, .unset, .unset, .unset]) rfl k) ?_
    refine own_go (b := T4.setTop (mkF m 89 #[iv kw, iv cw, .val (.long la), .second, .val (.long lb), .second, .val (.long lv), .second, .val (.long lp), .second, iv kk, iv mg, iv cI, .val (.long (((cI.toInt64) * (kk.toInt64)) * (500 : Int64))), .second, rv b2, iv 1, .unset, .unset, .unset, .unset, .unset, .unset, .unset] [(.long la)])) (fun t k => XS.lloadN X4.here hx rfl (hb hby at_88) rfl  k) ?_
    refine own_go (b := T4.setTop (mkF m 91 #[iv kw, iv cw, .val (.long la), .second, .val (.long lb), .second, .val (.long lv), .second, .val (.long lp), .second, iv kk, iv mg, iv cI, .val (.long (((cI.toInt64) * (kk.toInt64)) * (500 : Int64))), .second, rv b2, iv 1, .unset, .unset, .unset, .unset, .unset, .unset, .unset] [(.long lb), (.long la)])) (fun t k => XS.lload X4.here hx rfl (hb hby at_89) rfl  k) ?_
    obtain ⟨_, _, ⟨T5, L5, k5, n5⟩, -, X5, ⟨Lc5, hQ5, l5, y5, z5⟩, st5⟩ := Jvm.LawKit.callS X4 hx (y := (⟨"java/lang/Math", "min", "(JJ)J"⟩ : MethodName)) hown (mvT hZ (hw _ (List.mem_of_getElem? (i := 28) rfl))) (mvT hZ (hw _ (List.mem_of_getElem? (i := 29) rfl))) (mvT hZ (hw _ (List.mem_of_getElem? (i := 30) rfl))) (mvT hZ (hw _ (List.mem_of_getElem? (i := 31) rfl))) (by decide) (backOf (W := 0) (rm4 l Z a0 hw [] la lb  T3.heap n0 Zs3 ) hZ (hw _ (List.mem_of_getElem? (i := 31) rfl)) (hw _ (List.mem_of_getElem? (i := 30) rfl)) (by decide) (by decide)) (g := (mkF m 91 #[iv kw, iv cw, .val (.long la), .second, .val (.long lb), .second, .val (.long lv), .second, .val (.long lp), .second, iv kk, iv mg, iv cI, .val (.long (((cI.toInt64) * (kk.toInt64)) * (500 : Int64))), .second, rv b2, iv 1, .unset, .unset, .unset, .unset, .unset, .unset, .unset] [(.long lb), (.long la)])) rfl (by rw [hml]; rfl) (argsL := [(.long la), (.long lb)]) (rest := []) (lenOf pd_3 rfl) rfl (by show 2 * 0 + _ ≤ _; exact Nat.le_of_eq rfl) (hb hby at_91) (fun _ _ => ⟨rfl, e4, (by decide : 1 + 0 ≤ _), (by decide : 5 + 0 ≤ _)⟩)
    dsimp only [Pt.U, Pt.locs, Pt.cells, Pt.slots] at X5 l5 y5 z5 st5 hQ5
    subst l5 y5 z5
    obtain ⟨rfl, N5q, e5⟩ := hQ5
    have N5 := Fr.app N4 N5q
    obtain ⟨lq5, X5, N5⟩ : ∃ lq, Stand p l e room_1 s m #[(.int kw), (.int cw), (.long la), (.long lb), (.long lv), (.long lp)] below meth c T5 lq 1 5 ∧ Fr n0 lq := ⟨_, X5, N5⟩
    refine own_go (b := T5.setTop (mkF m 94 #[iv kw, iv cw, .val (.long la), .second, .val (.long lb), .second, .val (.long lv), .second, .val (.long lp), .second, iv kk, iv mg, iv cI, .val (.long (((cI.toInt64) * (kk.toInt64)) * (500 : Int64))), .second, rv b2, iv 1, .unset, .unset, .unset, .unset, .unset, .unset, .unset] [(.long (own_mn la lb))])) st5 ?_
    refine own_go (b := T5.setTop (mkF m 96 #[iv kw, iv cw, .val (.long la), .second, .val (.long lb), .second, .val (.long lv), .second, .val (.long lp), .second, iv kk, iv mg, iv cI, .val (.long (((cI.toInt64) * (kk.toInt64)) * (500 : Int64))), .second, rv b2, iv 1, .val (.long (own_mn la lb)), .second, .unset, .unset, .unset, .unset, .unset] [])) (fun t k => XS.lstore X5.here hx rfl (hb hby at_94) rfl (l' := #[iv kw, iv cw, .val (.long la), .second, .val (.long lb), .second, .val (.long lv), .second, .val (.long lp), .second, iv kk, iv mg, iv cI, .val (.long (((cI.toInt64) * (kk.toInt64)) * (500 : Int64))), .second, rv b2, iv 1, .val (.long (own_mn la lb)), .second, .unset, .unset, .unset, .unset, .unset]) rfl k) ?_
    refine own_go (b := T5.setTop (mkF m 97 #[iv kw, iv cw, .val (.long la), .second, .val (.long lb), .second, .val (.long lv), .second, .val (.long lp), .second, iv kk, iv mg, iv cI, .val (.long (((cI.toInt64) * (kk.toInt64)) * (500 : Int64))), .second, rv b2, iv 1, .val (.long (own_mn la lb)), .second, .unset, .unset, .unset, .unset, .unset] [(.long la)])) (fun t k => XS.lloadN X5.here hx rfl (hb hby at_96) rfl  k) ?_
    refine own_go (b := T5.setTop (mkF m 99 #[iv kw, iv cw, .val (.long la), .second, .val (.long lb), .second, .val (.long lv), .second, .val (.long lp), .second, iv kk, iv mg, iv cI, .val (.long (((cI.toInt64) * (kk.toInt64)) * (500 : Int64))), .second, rv b2, iv 1, .val (.long (own_mn la lb)), .second, .unset, .unset, .unset, .unset, .unset] [(.long lb), (.long la)])) (fun t k => XS.lload X5.here hx rfl (hb hby at_97) rfl  k) ?_
    obtain ⟨_, _, ⟨T6, L6, k6, n6⟩, -, X6, ⟨Lc6, hQ6, l6, y6, z6⟩, st6⟩ := Jvm.LawKit.callS X5 hx (y := (⟨"java/lang/Math", "max", "(JJ)J"⟩ : MethodName)) hown (mvT hZ (hw _ (List.mem_of_getElem? (i := 32) rfl))) (mvT hZ (hw _ (List.mem_of_getElem? (i := 33) rfl))) (mvT hZ (hw _ (List.mem_of_getElem? (i := 30) rfl))) (mvT hZ (hw _ (List.mem_of_getElem? (i := 34) rfl))) (by decide) (backOf (W := 0) (rm5 l Z a0 hw [] la lb  T3.heap n0 Zs3 ) hZ (hw _ (List.mem_of_getElem? (i := 34) rfl)) (hw _ (List.mem_of_getElem? (i := 30) rfl)) (by decide) (by decide)) (g := (mkF m 99 #[iv kw, iv cw, .val (.long la), .second, .val (.long lb), .second, .val (.long lv), .second, .val (.long lp), .second, iv kk, iv mg, iv cI, .val (.long (((cI.toInt64) * (kk.toInt64)) * (500 : Int64))), .second, rv b2, iv 1, .val (.long (own_mn la lb)), .second, .unset, .unset, .unset, .unset, .unset] [(.long lb), (.long la)])) rfl (by rw [hml]; rfl) (argsL := [(.long la), (.long lb)]) (rest := []) (lenOf pd_3 rfl) rfl (by show 2 * 0 + _ ≤ _; exact Nat.le_of_eq rfl) (hb hby at_99) (fun _ _ => ⟨rfl, e5, (by decide : 1 + 0 ≤ _), (by decide : 5 + 0 ≤ _)⟩)
    dsimp only [Pt.U, Pt.locs, Pt.cells, Pt.slots] at X6 l6 y6 z6 st6 hQ6
    subst l6 y6 z6
    obtain ⟨rfl, N6q, e6⟩ := hQ6
    have N6 := Fr.app N5 N6q
    obtain ⟨lq6, X6, N6⟩ : ∃ lq, Stand p l e room_1 s m #[(.int kw), (.int cw), (.long la), (.long lb), (.long lv), (.long lp)] below meth c T6 lq 1 5 ∧ Fr n0 lq := ⟨_, X6, N6⟩
    refine own_go (b := T6.setTop (mkF m 102 #[iv kw, iv cw, .val (.long la), .second, .val (.long lb), .second, .val (.long lv), .second, .val (.long lp), .second, iv kk, iv mg, iv cI, .val (.long (((cI.toInt64) * (kk.toInt64)) * (500 : Int64))), .second, rv b2, iv 1, .val (.long (own_mn la lb)), .second, .unset, .unset, .unset, .unset, .unset] [(.long (own_mx la lb))])) st6 ?_
    refine own_go (b := T6.setTop (mkF m 104 #[iv kw, iv cw, .val (.long la), .second, .val (.long lb), .second, .val (.long lv), .second, .val (.long lp), .second, iv kk, iv mg, iv cI, .val (.long (((cI.toInt64) * (kk.toInt64)) * (500 : Int64))), .second, rv b2, iv 1, .val (.long (own_mn la lb)), .second, .val (.long (own_mx la lb)), .second, .unset, .unset, .unset] [])) (fun t k => XS.lstore X6.here hx rfl (hb hby at_102) rfl (l' := #[iv kw, iv cw, .val (.long la), .second, .val (.long lb), .second, .val (.long lv), .second, .val (.long lp), .second, iv kk, iv mg, iv cI, .val (.long (((cI.toInt64) * (kk.toInt64)) * (500 : Int64))), .second, rv b2, iv 1, .val (.long (own_mn la lb)), .second, .val (.long (own_mx la lb)), .second, .unset, .unset, .unset]) rfl k) ?_
    obtain ⟨T7, h7, X7, e7, E7, A7, D7, -, st7⟩ := newO X6 hx hZ hown (hw _ (List.mem_of_getElem? (i := 2) rfl)) (hw _ (List.mem_of_getElem? (i := 3) rfl)) (hw _ (List.mem_of_getElem? (i := 4) rfl)) e6 (g := (mkF m 104 #[iv kw, iv cw, .val (.long la), .second, .val (.long lb), .second, .val (.long lv), .second, .val (.long lp), .second, iv kk, iv mg, iv cI, .val (.long (((cI.toInt64) * (kk.toInt64)) * (500 : Int64))), .second, rv b2, iv 1, .val (.long (own_mn la lb)), .second, .val (.long (own_mx la lb)), .second, .unset, .unset, .unset] [])) rfl (hb hby at_104) (by decide) (by decide)
    obtain ⟨b7, g7⟩ : ∃ z, z = T3.heap.size := ⟨_, rfl⟩
    rw [← g7] at A7 D7 st7
    have g_b7 : n0 ≤ b7 := Nat.le_trans Zs3 (Nat.le_of_eq g7.symm)
    have Zs7 : n0 ≤ h7.size := Nat.le_trans Zs3 E7.1
    have F_count_b7 : Fld Z h7 b7 "com/example/vertumnus/vertumnus/cost/Round" "count" "J" (.long 0) := D7 (Or.inr (hw _ (List.mem_of_getElem? (i := 12) rfl))) (ty := .long) (by decide)
    have F_nanos_b7 : Fld Z h7 b7 "com/example/vertumnus/vertumnus/cost/Round" "nanos" "J" (.long 0) := D7 (Or.inr (hw _ (List.mem_of_getElem? (i := 14) rfl))) (ty := .long) (by decide)
    have F_verifyNanos_b7 : Fld Z h7 b7 "com/example/vertumnus/vertumnus/cost/Round" "verifyNanos" "J" (.long 0) := D7 (Or.inr (hw _ (List.mem_of_getElem? (i := 16) rfl))) (ty := .long) (by decide)
    have F_peakBytes_b7 : Fld Z h7 b7 "com/example/vertumnus/vertumnus/cost/Round" "peakBytes" "J" (.long 0) := D7 (Or.inr (hw _ (List.mem_of_getElem? (i := 18) rfl))) (ty := .long) (by decide)
    have F_retainedBytes_b7 : Fld Z h7 b7 "com/example/vertumnus/vertumnus/cost/Round" "retainedBytes" "J" (.long 0) := D7 (Or.inr (hw _ (List.mem_of_getElem? (i := 20) rfl))) (ty := .long) (by decide)
    refine own_go (b := T7.setTop (mkF m 107 #[iv kw, iv cw, .val (.long la), .second, .val (.long lb), .second, .val (.long lv), .second, .val (.long lp), .second, iv kk, iv mg, iv cI, .val (.long (((cI.toInt64) * (kk.toInt64)) * (500 : Int64))), .second, rv b2, iv 1, .val (.long (own_mn la lb)), .second, .val (.long (own_mx la lb)), .second, .unset, .unset, .unset] [(.ref b7)])) st7 ?_
    refine own_go (b := T7.setTop (mkF m 108 #[iv kw, iv cw, .val (.long la), .second, .val (.long lb), .second, .val (.long lv), .second, .val (.long lp), .second, iv kk, iv mg, iv cI, .val (.long (((cI.toInt64) * (kk.toInt64)) * (500 : Int64))), .second, rv b2, iv 1, .val (.long (own_mn la lb)), .second, .val (.long (own_mx la lb)), .second, .unset, .unset, .unset] [(.ref b7), (.ref b7)])) (fun t k => XS.dup X7.here hx rfl (hb hby at_107) rfl rfl k) ?_
    refine own_go (b := T7.setTop (mkF m 110 #[iv kw, iv cw, .val (.long la), .second, .val (.long lb), .second, .val (.long lv), .second, .val (.long lp), .second, iv kk, iv mg, iv cI, .val (.long (((cI.toInt64) * (kk.toInt64)) * (500 : Int64))), .second, rv b2, iv 1, .val (.long (own_mn la lb)), .second, .val (.long (own_mx la lb)), .second, .unset, .unset, .unset] [(.int mg), (.ref b7), (.ref b7)])) (fun t k => XS.iload X7.here hx rfl (hb hby at_108) rfl  k) ?_
    refine own_go (b := T7.setTop (mkF m 111 #[iv kw, iv cw, .val (.long la), .second, .val (.long lb), .second, .val (.long lv), .second, .val (.long lp), .second, iv kk, iv mg, iv cI, .val (.long (((cI.toInt64) * (kk.toInt64)) * (500 : Int64))), .second, rv b2, iv 1, .val (.long (own_mn la lb)), .second, .val (.long (own_mx la lb)), .second, .unset, .unset, .unset] [(.long (mg.toInt64)), (.ref b7), (.ref b7)])) (fun t k => XS.i2l X7.here hx rfl (hb hby at_110) rfl k) ?_
    refine own_go (b := T7.setTop (mkF m 113 #[iv kw, iv cw, .val (.long la), .second, .val (.long lb), .second, .val (.long lv), .second, .val (.long lp), .second, iv kk, iv mg, iv cI, .val (.long (((cI.toInt64) * (kk.toInt64)) * (500 : Int64))), .second, rv b2, iv 1, .val (.long (own_mn la lb)), .second, .val (.long (own_mx la lb)), .second, .unset, .unset, .unset] [(.long (own_mn la lb)), (.long (mg.toInt64)), (.ref b7), (.ref b7)])) (fun t k => XS.lload X7.here hx rfl (hb hby at_111) rfl  k) ?_
    refine own_go (b := T7.setTop (mkF m 115 #[iv kw, iv cw, .val (.long la), .second, .val (.long lb), .second, .val (.long lv), .second, .val (.long lp), .second, iv kk, iv mg, iv cI, .val (.long (((cI.toInt64) * (kk.toInt64)) * (500 : Int64))), .second, rv b2, iv 1, .val (.long (own_mn la lb)), .second, .val (.long (own_mx la lb)), .second, .unset, .unset, .unset] [(.long lv), (.long (own_mn la lb)), (.long (mg.toInt64)), (.ref b7), (.ref b7)])) (fun t k => XS.lload X7.here hx rfl (hb hby at_113) rfl  k) ?_
    refine own_go (b := T7.setTop (mkF m 117 #[iv kw, iv cw, .val (.long la), .second, .val (.long lb), .second, .val (.long lv), .second, .val (.long lp), .second, iv kk, iv mg, iv cI, .val (.long (((cI.toInt64) * (kk.toInt64)) * (500 : Int64))), .second, rv b2, iv 1, .val (.long (own_mn la lb)), .second, .val (.long (own_mx la lb)), .second, .unset, .unset, .unset] [(.long lp), (.long lv), (.long (own_mn la lb)), (.long (mg.toInt64)), (.ref b7), (.ref b7)])) (fun t k => XS.lload X7.here hx rfl (hb hby at_115) rfl  k) ?_
    refine own_go (b := T7.setTop (mkF m 119 #[iv kw, iv cw, .val (.long la), .second, .val (.long lb), .second, .val (.long lv), .second, .val (.long lp), .second, iv kk, iv mg, iv cI, .val (.long (((cI.toInt64) * (kk.toInt64)) * (500 : Int64))), .second, rv b2, iv 1, .val (.long (own_mn la lb)), .second, .val (.long (own_mx la lb)), .second, .unset, .unset, .unset] [(.long lb), (.long lp), (.long lv), (.long (own_mn la lb)), (.long (mg.toInt64)), (.ref b7), (.ref b7)])) (fun t k => XS.lload X7.here hx rfl (hb hby at_117) rfl  k) ?_
    obtain ⟨_, _, ⟨T8, L8, k8, n8⟩, -, X8, ⟨Lc8, hQ8, l8, y8, z8⟩, st8⟩ := X7.specialBack hx (y := (⟨"com/example/vertumnus/vertumnus/cost/Round", "<init>", "(JJJJJ)V"⟩ : MethodName)) rfl hown (mvT hZ (hw _ (List.mem_of_getElem? (i := 5) rfl))) (mvT hZ (hw _ (List.mem_of_getElem? (i := 6) rfl))) (mvT hZ (hw _ (List.mem_of_getElem? (i := 7) rfl))) (by decide) (backOf (W := 1) (rm1 l Z a0 hw [] b7 (mg.toInt64) (own_mn la lb) lv lp lb  h7 n0 Zs7 A7 F_count_b7 F_nanos_b7 F_verifyNanos_b7 F_peakBytes_b7 F_retainedBytes_b7 g_b7) hZ (hw _ (List.mem_of_getElem? (i := 7) rfl)) (hw _ (List.mem_of_getElem? (i := 4) rfl)) (by decide) (by decide)) (g := (mkF m 119 #[iv kw, iv cw, .val (.long la), .second, .val (.long lb), .second, .val (.long lv), .second, .val (.long lp), .second, iv kk, iv mg, iv cI, .val (.long (((cI.toInt64) * (kk.toInt64)) * (500 : Int64))), .second, rv b2, iv 1, .val (.long (own_mn la lb)), .second, .val (.long (own_mx la lb)), .second, .unset, .unset, .unset] [(.long lb), (.long lp), (.long lv), (.long (own_mn la lb)), (.long (mg.toInt64)), (.ref b7), (.ref b7)])) rfl (by rw [hml]; rfl) (Steps.refl _) (a := b7) (argsL := [(.long (mg.toInt64)), (.long (own_mn la lb)), (.long lv), (.long lp), (.long lb)]) (rest := [(.ref b7)]) (lenOf pd_1 rfl) rfl (by show 2 * 0 + _ ≤ _; exact Nat.le_of_eq rfl) (hb hby at_119) (fun _ _ => ⟨rfl, e7, (by decide : 2 + 0 ≤ _), (by decide : 10 + 0 ≤ _)⟩)
    dsimp only [Pt.U, Pt.locs, Pt.cells, Pt.slots] at X8 l8 y8 z8 st8 hQ8
    subst l8 y8 z8
    obtain ⟨rfl, N8q, K8, Ek8, Fc8_, Fn8_⟩ := hQ8
    have Zs8 : n0 ≤ T8.heap.size := Nat.le_trans Zs7 K8.1
    have N8 := Fr.app N6 N8q
    obtain ⟨lq8, X8, N8⟩ : ∃ lq, Stand p l e room_1 s m #[(.int kw), (.int cw), (.long la), (.long lb), (.long lv), (.long lp)] below meth c T8 lq 2 10 ∧ Fr n0 lq := ⟨_, X8, N8⟩
    refine own_tr (b := T8.setTop (mkF m 122 #[iv kw, iv cw, .val (.long la), .second, .val (.long lb), .second, .val (.long lv), .second, .val (.long lp), .second, iv kk, iv mg, iv cI, .val (.long (((cI.toInt64) * (kk.toInt64)) * (500 : Int64))), .second, rv b2, iv 1, .val (.long (own_mn la lb)), .second, .val (.long (own_mx la lb)), .second, .unset, .unset, .unset] [(.ref b7)])) st8 ?_
    refine own_go (b := T8.setTop (mkF m 124 #[iv kw, iv cw, .val (.long la), .second, .val (.long lb), .second, .val (.long lv), .second, .val (.long lp), .second, iv kk, iv mg, iv cI, .val (.long (((cI.toInt64) * (kk.toInt64)) * (500 : Int64))), .second, rv b2, iv 1, .val (.long (own_mn la lb)), .second, .val (.long (own_mx la lb)), .second, rv b7, .unset, .unset] [])) (fun t k => XS.astore X8.here hx rfl (hb hby at_122) rfl rfl (l' := #[iv kw, iv cw, .val (.long la), .second, .val (.long lb), .second, .val (.long lv), .second, .val (.long lp), .second, iv kk, iv mg, iv cI, .val (.long (((cI.toInt64) * (kk.toInt64)) * (500 : Int64))), .second, rv b2, iv 1, .val (.long (own_mn la lb)), .second, .val (.long (own_mx la lb)), .second, rv b7, .unset, .unset]) rfl k) ?_
    obtain ⟨T9, h9, X9, e9, E9, A9, D9, -, st9⟩ := newO X8 hx hZ hown (hw _ (List.mem_of_getElem? (i := 2) rfl)) (hw _ (List.mem_of_getElem? (i := 3) rfl)) (hw _ (List.mem_of_getElem? (i := 4) rfl)) rfl (g := (mkF m 124 #[iv kw, iv cw, .val (.long la), .second, .val (.long lb), .second, .val (.long lv), .second, .val (.long lp), .second, iv kk, iv mg, iv cI, .val (.long (((cI.toInt64) * (kk.toInt64)) * (500 : Int64))), .second, rv b2, iv 1, .val (.long (own_mn la lb)), .second, .val (.long (own_mx la lb)), .second, rv b7, .unset, .unset] [])) rfl (hb hby at_124) (by decide) (by decide)
    obtain ⟨b9, g9⟩ : ∃ z, z = T8.heap.size := ⟨_, rfl⟩
    rw [← g9] at A9 D9 st9
    have g_b9 : n0 ≤ b9 := Nat.le_trans Zs8 (Nat.le_of_eq g9.symm)
    have Zs9 : n0 ≤ h9.size := Nat.le_trans Zs8 E9.1
    have F_count_b9 : Fld Z h9 b9 "com/example/vertumnus/vertumnus/cost/Round" "count" "J" (.long 0) := D9 (Or.inr (hw _ (List.mem_of_getElem? (i := 12) rfl))) (ty := .long) (by decide)
    have F_nanos_b9 : Fld Z h9 b9 "com/example/vertumnus/vertumnus/cost/Round" "nanos" "J" (.long 0) := D9 (Or.inr (hw _ (List.mem_of_getElem? (i := 14) rfl))) (ty := .long) (by decide)
    have F_verifyNanos_b9 : Fld Z h9 b9 "com/example/vertumnus/vertumnus/cost/Round" "verifyNanos" "J" (.long 0) := D9 (Or.inr (hw _ (List.mem_of_getElem? (i := 16) rfl))) (ty := .long) (by decide)
    have F_peakBytes_b9 : Fld Z h9 b9 "com/example/vertumnus/vertumnus/cost/Round" "peakBytes" "J" (.long 0) := D9 (Or.inr (hw _ (List.mem_of_getElem? (i := 18) rfl))) (ty := .long) (by decide)
    have F_retainedBytes_b9 : Fld Z h9 b9 "com/example/vertumnus/vertumnus/cost/Round" "retainedBytes" "J" (.long 0) := D9 (Or.inr (hw _ (List.mem_of_getElem? (i := 20) rfl))) (ty := .long) (by decide)
    refine own_go (b := T9.setTop (mkF m 127 #[iv kw, iv cw, .val (.long la), .second, .val (.long lb), .second, .val (.long lv), .second, .val (.long lp), .second, iv kk, iv mg, iv cI, .val (.long (((cI.toInt64) * (kk.toInt64)) * (500 : Int64))), .second, rv b2, iv 1, .val (.long (own_mn la lb)), .second, .val (.long (own_mx la lb)), .second, rv b7, .unset, .unset] [(.ref b9)])) st9 ?_
    refine own_go (b := T9.setTop (mkF m 128 #[iv kw, iv cw, .val (.long la), .second, .val (.long lb), .second, .val (.long lv), .second, .val (.long lp), .second, iv kk, iv mg, iv cI, .val (.long (((cI.toInt64) * (kk.toInt64)) * (500 : Int64))), .second, rv b2, iv 1, .val (.long (own_mn la lb)), .second, .val (.long (own_mx la lb)), .second, rv b7, .unset, .unset] [(.ref b9), (.ref b9)])) (fun t k => XS.dup X9.here hx rfl (hb hby at_127) rfl rfl k) ?_
    refine own_go (b := T9.setTop (mkF m 130 #[iv kw, iv cw, .val (.long la), .second, .val (.long lb), .second, .val (.long lv), .second, .val (.long lp), .second, iv kk, iv mg, iv cI, .val (.long (((cI.toInt64) * (kk.toInt64)) * (500 : Int64))), .second, rv b2, iv 1, .val (.long (own_mn la lb)), .second, .val (.long (own_mx la lb)), .second, rv b7, .unset, .unset] [(.int mg), (.ref b9), (.ref b9)])) (fun t k => XS.iload X9.here hx rfl (hb hby at_128) rfl  k) ?_
    refine own_go (b := T9.setTop (mkF m 131 #[iv kw, iv cw, .val (.long la), .second, .val (.long lb), .second, .val (.long lv), .second, .val (.long lp), .second, iv kk, iv mg, iv cI, .val (.long (((cI.toInt64) * (kk.toInt64)) * (500 : Int64))), .second, rv b2, iv 1, .val (.long (own_mn la lb)), .second, .val (.long (own_mx la lb)), .second, rv b7, .unset, .unset] [(.long (mg.toInt64)), (.ref b9), (.ref b9)])) (fun t k => XS.i2l X9.here hx rfl (hb hby at_130) rfl k) ?_
    refine own_go (b := T9.setTop (mkF m 133 #[iv kw, iv cw, .val (.long la), .second, .val (.long lb), .second, .val (.long lv), .second, .val (.long lp), .second, iv kk, iv mg, iv cI, .val (.long (((cI.toInt64) * (kk.toInt64)) * (500 : Int64))), .second, rv b2, iv 1, .val (.long (own_mn la lb)), .second, .val (.long (own_mx la lb)), .second, rv b7, .unset, .unset] [(.long (own_mx la lb)), (.long (mg.toInt64)), (.ref b9), (.ref b9)])) (fun t k => XS.lload X9.here hx rfl (hb hby at_131) rfl  k) ?_
    refine own_go (b := T9.setTop (mkF m 135 #[iv kw, iv cw, .val (.long la), .second, .val (.long lb), .second, .val (.long lv), .second, .val (.long lp), .second, iv kk, iv mg, iv cI, .val (.long (((cI.toInt64) * (kk.toInt64)) * (500 : Int64))), .second, rv b2, iv 1, .val (.long (own_mn la lb)), .second, .val (.long (own_mx la lb)), .second, rv b7, .unset, .unset] [(.long lp), (.long (own_mx la lb)), (.long (mg.toInt64)), (.ref b9), (.ref b9)])) (fun t k => XS.lload X9.here hx rfl (hb hby at_133) rfl  k) ?_
    refine own_go (b := T9.setTop (mkF m 137 #[iv kw, iv cw, .val (.long la), .second, .val (.long lb), .second, .val (.long lv), .second, .val (.long lp), .second, iv kk, iv mg, iv cI, .val (.long (((cI.toInt64) * (kk.toInt64)) * (500 : Int64))), .second, rv b2, iv 1, .val (.long (own_mn la lb)), .second, .val (.long (own_mx la lb)), .second, rv b7, .unset, .unset] [(.long lv), (.long lp), (.long (own_mx la lb)), (.long (mg.toInt64)), (.ref b9), (.ref b9)])) (fun t k => XS.lload X9.here hx rfl (hb hby at_135) rfl  k) ?_
    refine own_go (b := T9.setTop (mkF m 138 #[iv kw, iv cw, .val (.long la), .second, .val (.long lb), .second, .val (.long lv), .second, .val (.long lp), .second, iv kk, iv mg, iv cI, .val (.long (((cI.toInt64) * (kk.toInt64)) * (500 : Int64))), .second, rv b2, iv 1, .val (.long (own_mn la lb)), .second, .val (.long (own_mx la lb)), .second, rv b7, .unset, .unset] [(.long la), (.long lv), (.long lp), (.long (own_mx la lb)), (.long (mg.toInt64)), (.ref b9), (.ref b9)])) (fun t k => XS.lloadN X9.here hx rfl (hb hby at_137) rfl  k) ?_
    obtain ⟨_, _, ⟨T10, L10, k10, n10⟩, -, X10, ⟨Lc10, hQ10, l10, y10, z10⟩, st10⟩ := X9.specialBack hx (y := (⟨"com/example/vertumnus/vertumnus/cost/Round", "<init>", "(JJJJJ)V"⟩ : MethodName)) rfl hown (mvT hZ (hw _ (List.mem_of_getElem? (i := 5) rfl))) (mvT hZ (hw _ (List.mem_of_getElem? (i := 6) rfl))) (mvT hZ (hw _ (List.mem_of_getElem? (i := 7) rfl))) (by decide) (backOf (W := 1) (rm1 l Z a0 hw [] b9 (mg.toInt64) (own_mx la lb) lp lv la  h9 n0 Zs9 A9 F_count_b9 F_nanos_b9 F_verifyNanos_b9 F_peakBytes_b9 F_retainedBytes_b9 g_b9) hZ (hw _ (List.mem_of_getElem? (i := 7) rfl)) (hw _ (List.mem_of_getElem? (i := 4) rfl)) (by decide) (by decide)) (g := (mkF m 138 #[iv kw, iv cw, .val (.long la), .second, .val (.long lb), .second, .val (.long lv), .second, .val (.long lp), .second, iv kk, iv mg, iv cI, .val (.long (((cI.toInt64) * (kk.toInt64)) * (500 : Int64))), .second, rv b2, iv 1, .val (.long (own_mn la lb)), .second, .val (.long (own_mx la lb)), .second, rv b7, .unset, .unset] [(.long la), (.long lv), (.long lp), (.long (own_mx la lb)), (.long (mg.toInt64)), (.ref b9), (.ref b9)])) rfl (by rw [hml]; rfl) (Steps.refl _) (a := b9) (argsL := [(.long (mg.toInt64)), (.long (own_mx la lb)), (.long lp), (.long lv), (.long la)]) (rest := [(.ref b9)]) (lenOf pd_1 rfl) rfl (by show 2 * 0 + _ ≤ _; exact Nat.le_of_eq rfl) (hb hby at_138) (fun _ _ => ⟨rfl, e9, (by decide : 3 + 0 ≤ _), (by decide : 15 + 0 ≤ _)⟩)
    dsimp only [Pt.U, Pt.locs, Pt.cells, Pt.slots] at X10 l10 y10 z10 st10 hQ10
    subst l10 y10 z10
    obtain ⟨rfl, N10q, K10, Ek10, Fc10_, Fn10_⟩ := hQ10
    have Zs10 : n0 ≤ T10.heap.size := Nat.le_trans Zs9 K10.1
    have N10 := Fr.app N8 N10q
    obtain ⟨lq10, X10, N10⟩ : ∃ lq, Stand p l e room_1 s m #[(.int kw), (.int cw), (.long la), (.long lb), (.long lv), (.long lp)] below meth c T10 lq 3 15 ∧ Fr n0 lq := ⟨_, X10, N10⟩
    refine own_tr (b := T10.setTop (mkF m 141 #[iv kw, iv cw, .val (.long la), .second, .val (.long lb), .second, .val (.long lv), .second, .val (.long lp), .second, iv kk, iv mg, iv cI, .val (.long (((cI.toInt64) * (kk.toInt64)) * (500 : Int64))), .second, rv b2, iv 1, .val (.long (own_mn la lb)), .second, .val (.long (own_mx la lb)), .second, rv b7, .unset, .unset] [(.ref b9)])) st10 ?_
    refine own_go (b := T10.setTop (mkF m 143 #[iv kw, iv cw, .val (.long la), .second, .val (.long lb), .second, .val (.long lv), .second, .val (.long lp), .second, iv kk, iv mg, iv cI, .val (.long (((cI.toInt64) * (kk.toInt64)) * (500 : Int64))), .second, rv b2, iv 1, .val (.long (own_mn la lb)), .second, .val (.long (own_mx la lb)), .second, rv b7, rv b9, .unset] [])) (fun t k => XS.astore X10.here hx rfl (hb hby at_141) rfl rfl (l' := #[iv kw, iv cw, .val (.long la), .second, .val (.long lb), .second, .val (.long lv), .second, .val (.long lp), .second, iv kk, iv mg, iv cI, .val (.long (((cI.toInt64) * (kk.toInt64)) * (500 : Int64))), .second, rv b2, iv 1, .val (.long (own_mn la lb)), .second, .val (.long (own_mx la lb)), .second, rv b7, rv b9, .unset]) rfl k) ?_
    refine own_go (b := T10.setTop (mkF m 145 #[iv kw, iv cw, .val (.long la), .second, .val (.long lb), .second, .val (.long lv), .second, .val (.long lp), .second, iv kk, iv mg, iv cI, .val (.long (((cI.toInt64) * (kk.toInt64)) * (500 : Int64))), .second, rv b2, iv 1, .val (.long (own_mn la lb)), .second, .val (.long (own_mx la lb)), .second, rv b7, rv b9, .unset] [(.ref b7)])) (fun t k => XS.aload X10.here hx rfl (hb hby at_143) rfl rfl k) ?_
    obtain ⟨cq11, kq11, q11a, q11b, q11c⟩ := isOf hZ rfl ((Ek8.ext E9).keep K10)
    obtain ⟨_, _, ⟨T11, L11, k11, n11⟩, -, X11, ⟨Lc11, hQ11, l11, y11, z11⟩, st11⟩ := X10.virtualBack hx (y := (⟨"com/example/vertumnus/vertumnus/cost/Round", "microsEach", "()D"⟩ : MethodName)) (z := (⟨"com/example/vertumnus/vertumnus/cost/Round", "microsEach", "()D"⟩ : MethodName)) hown (mvT hZ (hw _ (List.mem_of_getElem? (i := 21) rfl))) (mvT hZ (hw _ (List.mem_of_getElem? (i := 22) rfl))) (notFace_of_selects (args := #[]) (mvT hZ (hw _ (List.mem_of_getElem? (i := 24) rfl)))) (mvT hZ (hw _ (List.mem_of_getElem? (i := 24) rfl))) (mvT hZ (hw _ (List.mem_of_getElem? (i := 23) rfl))) (by decide) (backOf (W := 0) (rm3 l Z a0 hw [] b7 (own_mn la lb) (mg.toInt64) T10.heap n0 Zs10 ((Fn8_.ext E9).keep K10 (ninS (Nat.ne_of_lt (Nat.lt_of_lt_of_le (Ek8).lt (Nat.le_of_eq g9.symm))) nin0)) ((Fc8_.ext E9).keep K10 (ninS (Nat.ne_of_lt (Nat.lt_of_lt_of_le (Ek8).lt (Nat.le_of_eq g9.symm))) nin0)) (own_nz (by omega))) hZ (hw _ (List.mem_of_getElem? (i := 25) rfl)) (hw _ (List.mem_of_getElem? (i := 4) rfl)) (by decide) (by decide)) q11a q11c (g := (mkF m 145 #[iv kw, iv cw, .val (.long la), .second, .val (.long lb), .second, .val (.long lv), .second, .val (.long lp), .second, iv kk, iv mg, iv cI, .val (.long (((cI.toInt64) * (kk.toInt64)) * (500 : Int64))), .second, rv b2, iv 1, .val (.long (own_mn la lb)), .second, .val (.long (own_mx la lb)), .second, rv b7, rv b9, .unset] [(.ref b7)])) rfl (by rw [hml]; rfl) (Steps.refl _) (argsL := []) (rest := []) (lenOf pd_2 rfl) rfl (by show 2 * 0 + _ ≤ _; exact Nat.le_of_eq rfl) (hb hby at_145) (fun _ _ => ⟨rfl, rfl, (by decide : 3 + 0 ≤ _), (by decide : 15 + 0 ≤ _)⟩)
    dsimp only [Pt.U, Pt.locs, Pt.cells, Pt.slots] at X11 l11 y11 z11 st11 hQ11
    subst l11 y11 z11
    obtain ⟨rfl, N11q, e11⟩ := hQ11
    have N11 := Fr.app N10 N11q
    obtain ⟨lq11, X11, N11⟩ : ∃ lq, Stand p l e room_1 s m #[(.int kw), (.int cw), (.long la), (.long lb), (.long lv), (.long lp)] below meth c T11 lq 3 15 ∧ Fr n0 lq := ⟨_, X11, N11⟩
    refine own_tr (b := T11.setTop (mkF m 148 #[iv kw, iv cw, .val (.long la), .second, .val (.long lb), .second, .val (.long lv), .second, .val (.long lp), .second, iv kk, iv mg, iv cI, .val (.long (((cI.toInt64) * (kk.toInt64)) * (500 : Int64))), .second, rv b2, iv 1, .val (.long (own_mn la lb)), .second, .val (.long (own_mx la lb)), .second, rv b7, rv b9, .unset] [(.double (Jvm.FP.Core.own_me (own_mn la lb) (mg.toInt64)))])) st11 ?_
    refine own_go (b := T11.setTop (mkF m 150 #[iv kw, iv cw, .val (.long la), .second, .val (.long lb), .second, .val (.long lv), .second, .val (.long lp), .second, iv kk, iv mg, iv cI, .val (.long (((cI.toInt64) * (kk.toInt64)) * (500 : Int64))), .second, rv b2, iv 1, .val (.long (own_mn la lb)), .second, .val (.long (own_mx la lb)), .second, rv b7, rv b9, .unset] [(.ref b9), (.double (Jvm.FP.Core.own_me (own_mn la lb) (mg.toInt64)))])) (fun t k => XS.aload X11.here hx rfl (hb hby at_148) rfl rfl k) ?_
    obtain ⟨cq12, kq12, q12a, q12b, q12c⟩ := isOf hZ e11 Ek10
    obtain ⟨_, _, ⟨T12, L12, k12, n12⟩, -, X12, ⟨Lc12, hQ12, l12, y12, z12⟩, st12⟩ := X11.virtualBack hx (y := (⟨"com/example/vertumnus/vertumnus/cost/Round", "microsEach", "()D"⟩ : MethodName)) (z := (⟨"com/example/vertumnus/vertumnus/cost/Round", "microsEach", "()D"⟩ : MethodName)) hown (mvT hZ (hw _ (List.mem_of_getElem? (i := 21) rfl))) (mvT hZ (hw _ (List.mem_of_getElem? (i := 22) rfl))) (notFace_of_selects (args := #[]) (mvT hZ (hw _ (List.mem_of_getElem? (i := 24) rfl)))) (mvT hZ (hw _ (List.mem_of_getElem? (i := 24) rfl))) (mvT hZ (hw _ (List.mem_of_getElem? (i := 23) rfl))) (by decide) (backOf (W := 2) (rm3 l Z a0 hw [] b9 (own_mx la lb) (mg.toInt64) T10.heap n0 Zs10 Fn10_ Fc10_ (own_nz (by omega))) hZ (hw _ (List.mem_of_getElem? (i := 25) rfl)) (hw _ (List.mem_of_getElem? (i := 4) rfl)) (by decide) (by decide)) q12a q12c (g := (mkF m 150 #[iv kw, iv cw, .val (.long la), .second, .val (.long lb), .second, .val (.long lv), .second, .val (.long lp), .second, iv kk, iv mg, iv cI, .val (.long (((cI.toInt64) * (kk.toInt64)) * (500 : Int64))), .second, rv b2, iv 1, .val (.long (own_mn la lb)), .second, .val (.long (own_mx la lb)), .second, rv b7, rv b9, .unset] [(.ref b9), (.double (Jvm.FP.Core.own_me (own_mn la lb) (mg.toInt64)))])) rfl (by rw [hml]; rfl) (Steps.refl _) (argsL := []) (rest := [(.double (Jvm.FP.Core.own_me (own_mn la lb) (mg.toInt64)))]) (lenOf pd_2 rfl) rfl (by show 2 * 0 + _ ≤ _; exact Nat.le_of_eq rfl) (hb hby at_150) (fun _ _ => ⟨rfl, e11, (by decide : 3 + 0 ≤ _), (by decide : 15 + 0 ≤ _)⟩)
    dsimp only [Pt.U, Pt.locs, Pt.cells, Pt.slots] at X12 l12 y12 z12 st12 hQ12
    subst l12 y12 z12
    obtain ⟨rfl, N12q, e12⟩ := hQ12
    have N12 := Fr.app N11 N12q
    obtain ⟨lq12, X12, N12⟩ : ∃ lq, Stand p l e room_1 s m #[(.int kw), (.int cw), (.long la), (.long lb), (.long lv), (.long lp)] below meth c T12 lq 3 15 ∧ Fr n0 lq := ⟨_, X12, N12⟩
    refine own_tr (b := T12.setTop (mkF m 153 #[iv kw, iv cw, .val (.long la), .second, .val (.long lb), .second, .val (.long lv), .second, .val (.long lp), .second, iv kk, iv mg, iv cI, .val (.long (((cI.toInt64) * (kk.toInt64)) * (500 : Int64))), .second, rv b2, iv 1, .val (.long (own_mn la lb)), .second, .val (.long (own_mx la lb)), .second, rv b7, rv b9, .unset] [(.double (Jvm.FP.Core.own_me (own_mx la lb) (mg.toInt64))), (.double (Jvm.FP.Core.own_me (own_mn la lb) (mg.toInt64)))])) st12 ?_
    have hg : ¬ (0 : Int32) < (cmpValue (FP.dcmp (Jvm.FP.Core.own_me (own_mn la lb) (mg.toInt64)) (Jvm.FP.Core.own_me (own_mx la lb) (mg.toInt64))) .g) := own_cmpg (own_mo bm.1 bm.2)
    refine own_go (b := T12.setTop (mkF m 154 #[iv kw, iv cw, .val (.long la), .second, .val (.long lb), .second, .val (.long lv), .second, .val (.long lp), .second, iv kk, iv mg, iv cI, .val (.long (((cI.toInt64) * (kk.toInt64)) * (500 : Int64))), .second, rv b2, iv 1, .val (.long (own_mn la lb)), .second, .val (.long (own_mx la lb)), .second, rv b7, rv b9, .unset] [(.int (cmpValue (FP.dcmp (Jvm.FP.Core.own_me (own_mn la lb) (mg.toInt64)) (Jvm.FP.Core.own_me (own_mx la lb) (mg.toInt64))) .g))])) (fun t k => XS.dcmpS X12.here hx rfl (hb hby at_153) rfl rfl k) ?_
    refine own_go (b := T12.setTop (mkF m 157 #[iv kw, iv cw, .val (.long la), .second, .val (.long lb), .second, .val (.long lv), .second, .val (.long lp), .second, iv kk, iv mg, iv cI, .val (.long (((cI.toInt64) * (kk.toInt64)) * (500 : Int64))), .second, rv b2, iv 1, .val (.long (own_mn la lb)), .second, .val (.long (own_mx la lb)), .second, rv b7, rv b9, .unset] [])) (fun t k => XS.ifNo X12.here hx rfl (hb hby at_154) rfl ((if0 _ _).trans (flt hg).2.2.1) k) ?_
    refine own_go (b := T12.setTop (mkF m 158 #[iv kw, iv cw, .val (.long la), .second, .val (.long lb), .second, .val (.long lv), .second, .val (.long lp), .second, iv kk, iv mg, iv cI, .val (.long (((cI.toInt64) * (kk.toInt64)) * (500 : Int64))), .second, rv b2, iv 1, .val (.long (own_mn la lb)), .second, .val (.long (own_mx la lb)), .second, rv b7, rv b9, .unset] [(.int 1)])) (fun t k => XS.iconst X12.here hx rfl (hb hby at_157) k) ?_
    refine own_go (b := T12.setTop (mkF m 162 #[iv kw, iv cw, .val (.long la), .second, .val (.long lb), .second, .val (.long lv), .second, .val (.long lp), .second, iv kk, iv mg, iv cI, .val (.long (((cI.toInt64) * (kk.toInt64)) * (500 : Int64))), .second, rv b2, iv 1, .val (.long (own_mn la lb)), .second, .val (.long (own_mx la lb)), .second, rv b7, rv b9, .unset] [(.int 1)])) (fun t k => XS.goto X12.here hx rfl (pc0 := 158) (pc' := 162) rfl (hb hby at_158) (by decide) (by decide) k) ?_
    refine own_go (b := T12.setTop (mkF m 164 #[iv kw, iv cw, .val (.long la), .second, .val (.long lb), .second, .val (.long lv), .second, .val (.long lp), .second, iv kk, iv mg, iv cI, .val (.long (((cI.toInt64) * (kk.toInt64)) * (500 : Int64))), .second, rv b2, iv 1, .val (.long (own_mn la lb)), .second, .val (.long (own_mx la lb)), .second, rv b7, rv b9, iv 1] [])) (fun t k => XS.istore X12.here hx rfl (hb hby at_162) rfl (l' := #[iv kw, iv cw, .val (.long la), .second, .val (.long lb), .second, .val (.long lv), .second, .val (.long lp), .second, iv kk, iv mg, iv cI, .val (.long (((cI.toInt64) * (kk.toInt64)) * (500 : Int64))), .second, rv b2, iv 1, .val (.long (own_mn la lb)), .second, .val (.long (own_mx la lb)), .second, rv b7, rv b9, iv 1]) rfl k) ?_
    refine own_go (b := T12.setTop (mkF m 166 #[iv kw, iv cw, .val (.long la), .second, .val (.long lb), .second, .val (.long lv), .second, .val (.long lp), .second, iv kk, iv mg, iv cI, .val (.long (((cI.toInt64) * (kk.toInt64)) * (500 : Int64))), .second, rv b2, iv 1, .val (.long (own_mn la lb)), .second, .val (.long (own_mx la lb)), .second, rv b7, rv b9, iv 1] [(.int 1)])) (fun t k => XS.iload X12.here hx rfl (hb hby at_164) rfl  k) ?_
    refine own_go (b := T12.setTop (mkF m 169 #[iv kw, iv cw, .val (.long la), .second, .val (.long lb), .second, .val (.long lv), .second, .val (.long lp), .second, iv kk, iv mg, iv cI, .val (.long (((cI.toInt64) * (kk.toInt64)) * (500 : Int64))), .second, rv b2, iv 1, .val (.long (own_mn la lb)), .second, .val (.long (own_mx la lb)), .second, rv b7, rv b9, iv 1] [])) (fun t k => XS.ifNo X12.here hx rfl (hb hby at_166) rfl ((if0 _ _).trans (feq (by decide : ¬ ((1 : Int32) = (0 : Int32)))).1) k) ?_
    refine own_go (b := T12.setTop (mkF m 171 #[iv kw, iv cw, .val (.long la), .second, .val (.long lb), .second, .val (.long lv), .second, .val (.long lp), .second, iv kk, iv mg, iv cI, .val (.long (((cI.toInt64) * (kk.toInt64)) * (500 : Int64))), .second, rv b2, iv 1, .val (.long (own_mn la lb)), .second, .val (.long (own_mx la lb)), .second, rv b7, rv b9, iv 1] [(.int 1)])) (fun t k => XS.iload X12.here hx rfl (hb hby at_169) rfl  k) ?_
    refine own_go (b := T12.setTop (mkF m 174 #[iv kw, iv cw, .val (.long la), .second, .val (.long lb), .second, .val (.long lv), .second, .val (.long lp), .second, iv kk, iv mg, iv cI, .val (.long (((cI.toInt64) * (kk.toInt64)) * (500 : Int64))), .second, rv b2, iv 1, .val (.long (own_mn la lb)), .second, .val (.long (own_mx la lb)), .second, rv b7, rv b9, iv 1] [])) (fun t k => XS.ifNo X12.here hx rfl (hb hby at_171) rfl ((if0 _ _).trans (feq (by decide : ¬ ((1 : Int32) = (0 : Int32)))).1) k) ?_
    refine own_go (b := T12.setTop (mkF m 175 #[iv kw, iv cw, .val (.long la), .second, .val (.long lb), .second, .val (.long lv), .second, .val (.long lp), .second, iv kk, iv mg, iv cI, .val (.long (((cI.toInt64) * (kk.toInt64)) * (500 : Int64))), .second, rv b2, iv 1, .val (.long (own_mn la lb)), .second, .val (.long (own_mx la lb)), .second, rv b7, rv b9, iv 1] [(.int 1)])) (fun t k => XS.iconst X12.here hx rfl (hb hby at_174) k) ?_
    refine own_go (b := T12.setTop (mkF m 179 #[iv kw, iv cw, .val (.long la), .second, .val (.long lb), .second, .val (.long lv), .second, .val (.long lp), .second, iv kk, iv mg, iv cI, .val (.long (((cI.toInt64) * (kk.toInt64)) * (500 : Int64))), .second, rv b2, iv 1, .val (.long (own_mn la lb)), .second, .val (.long (own_mx la lb)), .second, rv b7, rv b9, iv 1] [(.int 1)])) (fun t k => XS.goto X12.here hx rfl (pc0 := 175) (pc' := 179) rfl (hb hby at_175) (by decide) (by decide) k) ?_
    exact own_retN X12 hx hlk (t := .boolean) hrt (by simp) (hb hby at_179) (Nat.le_of_ble_eq_true rfl) (Nat.le_of_ble_eq_true rfl) (⟨rfl, N12⟩)
  · refine own_go (b := s₁.setTop (mkF m 23 #[iv kw, iv cw, .val (.long la), .second, .val (.long lb), .second, .val (.long lv), .second, .val (.long lp), .second, iv kk, iv mg, .unset, .unset, .unset, .unset, .unset, .unset, .unset, .unset, .unset, .unset, .unset, .unset] [])) (fun t k => XS.ifNo X0.here hx rfl (hb hby at_20) rfl ((if0 _ _).trans (feq hc1).1) k) ?_
    refine own_go (b := s₁.setTop (mkF m 25 #[iv kw, iv cw, .val (.long la), .second, .val (.long lb), .second, .val (.long lv), .second, .val (.long lp), .second, iv kk, iv mg, .unset, .unset, .unset, .unset, .unset, .unset, .unset, .unset, .unset, .unset, .unset, .unset] [(.int mg)])) (fun t k => XS.iload X0.here hx rfl (hb hby at_23) rfl  k) ?_
    refine own_go (b := s₁.setTop (mkF m 26 #[iv kw, iv cw, .val (.long la), .second, .val (.long lb), .second, .val (.long lv), .second, .val (.long lp), .second, iv kk, iv mg, .unset, .unset, .unset, .unset, .unset, .unset, .unset, .unset, .unset, .unset, .unset, .unset] [(.int (-mg))])) (fun t k => XS.ineg X0.here hx rfl (hb hby at_25) rfl k) ?_
    refine own_go (b := s₁.setTop (mkF m 31 #[iv kw, iv cw, .val (.long la), .second, .val (.long lb), .second, .val (.long lv), .second, .val (.long lp), .second, iv kk, iv mg, .unset, .unset, .unset, .unset, .unset, .unset, .unset, .unset, .unset, .unset, .unset, .unset] [(.int (-mg))])) (fun t k => XS.goto X0.here hx rfl (pc0 := 26) (pc' := 31) rfl (hb hby at_26) (by decide) (by decide) k) ?_
    refine own_go (b := s₁.setTop (mkF m 33 #[iv kw, iv cw, .val (.long la), .second, .val (.long lb), .second, .val (.long lv), .second, .val (.long lp), .second, iv kk, iv mg, iv (-mg), .unset, .unset, .unset, .unset, .unset, .unset, .unset, .unset, .unset, .unset, .unset] [])) (fun t k => XS.istore X0.here hx rfl (hb hby at_31) rfl (l' := #[iv kw, iv cw, .val (.long la), .second, .val (.long lb), .second, .val (.long lv), .second, .val (.long lp), .second, iv kk, iv mg, iv (-mg), .unset, .unset, .unset, .unset, .unset, .unset, .unset, .unset, .unset, .unset, .unset]) rfl k) ?_
    obtain ⟨cI, hcI⟩ : ∃ y, y = (-mg) := ⟨_, rfl⟩
    have hI : 1 ≤ cI.toInt.natAbs ∧ cI.toInt.natAbs ≤ 4096 := by rw [hcI]; exact own_nb bm.1 bm.2
    refine own_cast (show (mkF m 33 #[iv kw, iv cw, .val (.long la), .second, .val (.long lb), .second, .val (.long lv), .second, .val (.long lp), .second, iv kk, iv mg, iv (-mg), .unset, .unset, .unset, .unset, .unset, .unset, .unset, .unset, .unset, .unset, .unset] []) = (mkF m 33 #[iv kw, iv cw, .val (.long la), .second, .val (.long lb), .second, .val (.long lv), .second, .val (.long lp), .second, iv kk, iv mg, iv cI, .unset, .unset, .unset, .unset, .unset, .unset, .unset, .unset, .unset, .unset, .unset] []) from by rw [hcI]) ?_
    refine own_go (b := s₁.setTop (mkF m 35 #[iv kw, iv cw, .val (.long la), .second, .val (.long lb), .second, .val (.long lv), .second, .val (.long lp), .second, iv kk, iv mg, iv cI, .unset, .unset, .unset, .unset, .unset, .unset, .unset, .unset, .unset, .unset, .unset] [(.int cI)])) (fun t k => XS.iload X0.here hx rfl (hb hby at_33) rfl  k) ?_
    refine own_go (b := s₁.setTop (mkF m 36 #[iv kw, iv cw, .val (.long la), .second, .val (.long lb), .second, .val (.long lv), .second, .val (.long lp), .second, iv kk, iv mg, iv cI, .unset, .unset, .unset, .unset, .unset, .unset, .unset, .unset, .unset, .unset, .unset] [(.long (cI.toInt64))])) (fun t k => XS.i2l X0.here hx rfl (hb hby at_35) rfl k) ?_
    refine own_go (b := s₁.setTop (mkF m 38 #[iv kw, iv cw, .val (.long la), .second, .val (.long lb), .second, .val (.long lv), .second, .val (.long lp), .second, iv kk, iv mg, iv cI, .unset, .unset, .unset, .unset, .unset, .unset, .unset, .unset, .unset, .unset, .unset] [(.int kk), (.long (cI.toInt64))])) (fun t k => XS.iload X0.here hx rfl (hb hby at_36) rfl  k) ?_
    refine own_go (b := s₁.setTop (mkF m 39 #[iv kw, iv cw, .val (.long la), .second, .val (.long lb), .second, .val (.long lv), .second, .val (.long lp), .second, iv kk, iv mg, iv cI, .unset, .unset, .unset, .unset, .unset, .unset, .unset, .unset, .unset, .unset, .unset] [(.long (kk.toInt64)), (.long (cI.toInt64))])) (fun t k => XS.i2l X0.here hx rfl (hb hby at_38) rfl k) ?_
    refine own_go (b := s₁.setTop (mkF m 40 #[iv kw, iv cw, .val (.long la), .second, .val (.long lb), .second, .val (.long lv), .second, .val (.long lp), .second, iv kk, iv mg, iv cI, .unset, .unset, .unset, .unset, .unset, .unset, .unset, .unset, .unset, .unset, .unset] [(.long ((cI.toInt64) * (kk.toInt64)))])) (fun t k => XS.lmul X0.here hx rfl (hb hby at_39) rfl k) ?_
    refine own_go (b := s₁.setTop (mkF m 43 #[iv kw, iv cw, .val (.long la), .second, .val (.long lb), .second, .val (.long lv), .second, .val (.long lp), .second, iv kk, iv mg, iv cI, .unset, .unset, .unset, .unset, .unset, .unset, .unset, .unset, .unset, .unset, .unset] [(.long 500), (.long ((cI.toInt64) * (kk.toInt64)))])) (fun t k => X0.ldc2Long hx hown (mvT hZ (hw _ (List.mem_of_getElem? (i := 1) rfl))) (g := (mkF m 40 #[iv kw, iv cw, .val (.long la), .second, .val (.long lb), .second, .val (.long lv), .second, .val (.long lp), .second, iv kk, iv mg, iv cI, .unset, .unset, .unset, .unset, .unset, .unset, .unset, .unset, .unset, .unset, .unset] [(.long ((cI.toInt64) * (kk.toInt64)))])) rfl (hb hby at_40) t k) ?_
    refine own_go (b := s₁.setTop (mkF m 44 #[iv kw, iv cw, .val (.long la), .second, .val (.long lb), .second, .val (.long lv), .second, .val (.long lp), .second, iv kk, iv mg, iv cI, .unset, .unset, .unset, .unset, .unset, .unset, .unset, .unset, .unset, .unset, .unset] [(.long (((cI.toInt64) * (kk.toInt64)) * (500 : Int64)))])) (fun t k => XS.lmul X0.here hx rfl (hb hby at_43) rfl k) ?_
    refine own_go (b := s₁.setTop (mkF m 46 #[iv kw, iv cw, .val (.long la), .second, .val (.long lb), .second, .val (.long lv), .second, .val (.long lp), .second, iv kk, iv mg, iv cI, .val (.long (((cI.toInt64) * (kk.toInt64)) * (500 : Int64))), .second, .unset, .unset, .unset, .unset, .unset, .unset, .unset, .unset, .unset] [])) (fun t k => XS.lstore X0.here hx rfl (hb hby at_44) rfl (l' := #[iv kw, iv cw, .val (.long la), .second, .val (.long lb), .second, .val (.long lv), .second, .val (.long lp), .second, iv kk, iv mg, iv cI, .val (.long (((cI.toInt64) * (kk.toInt64)) * (500 : Int64))), .second, .unset, .unset, .unset, .unset, .unset, .unset, .unset, .unset, .unset]) rfl k) ?_
    obtain ⟨T13, h13, X13, e13, E13, A13, D13, -, st13⟩ := newO X0 hx hZ hown (hw _ (List.mem_of_getElem? (i := 2) rfl)) (hw _ (List.mem_of_getElem? (i := 3) rfl)) (hw _ (List.mem_of_getElem? (i := 4) rfl)) e0 (g := (mkF m 46 #[iv kw, iv cw, .val (.long la), .second, .val (.long lb), .second, .val (.long lv), .second, .val (.long lp), .second, iv kk, iv mg, iv cI, .val (.long (((cI.toInt64) * (kk.toInt64)) * (500 : Int64))), .second, .unset, .unset, .unset, .unset, .unset, .unset, .unset, .unset, .unset] [])) rfl (hb hby at_46) (by decide) (by decide)
    obtain ⟨b13, g13⟩ : ∃ z, z = h0.size := ⟨_, rfl⟩
    rw [← g13] at A13 D13 st13
    have g_b13 : n0 ≤ b13 := Nat.le_trans Z0 (Nat.le_of_eq g13.symm)
    have Zs13 : n0 ≤ h13.size := Nat.le_trans Z0 E13.1
    have F_count_b13 : Fld Z h13 b13 "com/example/vertumnus/vertumnus/cost/Round" "count" "J" (.long 0) := D13 (Or.inr (hw _ (List.mem_of_getElem? (i := 12) rfl))) (ty := .long) (by decide)
    have F_nanos_b13 : Fld Z h13 b13 "com/example/vertumnus/vertumnus/cost/Round" "nanos" "J" (.long 0) := D13 (Or.inr (hw _ (List.mem_of_getElem? (i := 14) rfl))) (ty := .long) (by decide)
    have F_verifyNanos_b13 : Fld Z h13 b13 "com/example/vertumnus/vertumnus/cost/Round" "verifyNanos" "J" (.long 0) := D13 (Or.inr (hw _ (List.mem_of_getElem? (i := 16) rfl))) (ty := .long) (by decide)
    have F_peakBytes_b13 : Fld Z h13 b13 "com/example/vertumnus/vertumnus/cost/Round" "peakBytes" "J" (.long 0) := D13 (Or.inr (hw _ (List.mem_of_getElem? (i := 18) rfl))) (ty := .long) (by decide)
    have F_retainedBytes_b13 : Fld Z h13 b13 "com/example/vertumnus/vertumnus/cost/Round" "retainedBytes" "J" (.long 0) := D13 (Or.inr (hw _ (List.mem_of_getElem? (i := 20) rfl))) (ty := .long) (by decide)
    refine own_go (b := T13.setTop (mkF m 49 #[iv kw, iv cw, .val (.long la), .second, .val (.long lb), .second, .val (.long lv), .second, .val (.long lp), .second, iv kk, iv mg, iv cI, .val (.long (((cI.toInt64) * (kk.toInt64)) * (500 : Int64))), .second, .unset, .unset, .unset, .unset, .unset, .unset, .unset, .unset, .unset] [(.ref b13)])) st13 ?_
    refine own_go (b := T13.setTop (mkF m 50 #[iv kw, iv cw, .val (.long la), .second, .val (.long lb), .second, .val (.long lv), .second, .val (.long lp), .second, iv kk, iv mg, iv cI, .val (.long (((cI.toInt64) * (kk.toInt64)) * (500 : Int64))), .second, .unset, .unset, .unset, .unset, .unset, .unset, .unset, .unset, .unset] [(.ref b13), (.ref b13)])) (fun t k => XS.dup X13.here hx rfl (hb hby at_49) rfl rfl k) ?_
    refine own_go (b := T13.setTop (mkF m 52 #[iv kw, iv cw, .val (.long la), .second, .val (.long lb), .second, .val (.long lv), .second, .val (.long lp), .second, iv kk, iv mg, iv cI, .val (.long (((cI.toInt64) * (kk.toInt64)) * (500 : Int64))), .second, .unset, .unset, .unset, .unset, .unset, .unset, .unset, .unset, .unset] [(.int cI), (.ref b13), (.ref b13)])) (fun t k => XS.iload X13.here hx rfl (hb hby at_50) rfl  k) ?_
    refine own_go (b := T13.setTop (mkF m 53 #[iv kw, iv cw, .val (.long la), .second, .val (.long lb), .second, .val (.long lv), .second, .val (.long lp), .second, iv kk, iv mg, iv cI, .val (.long (((cI.toInt64) * (kk.toInt64)) * (500 : Int64))), .second, .unset, .unset, .unset, .unset, .unset, .unset, .unset, .unset, .unset] [(.long (cI.toInt64)), (.ref b13), (.ref b13)])) (fun t k => XS.i2l X13.here hx rfl (hb hby at_52) rfl k) ?_
    refine own_go (b := T13.setTop (mkF m 55 #[iv kw, iv cw, .val (.long la), .second, .val (.long lb), .second, .val (.long lv), .second, .val (.long lp), .second, iv kk, iv mg, iv cI, .val (.long (((cI.toInt64) * (kk.toInt64)) * (500 : Int64))), .second, .unset, .unset, .unset, .unset, .unset, .unset, .unset, .unset, .unset] [(.long (((cI.toInt64) * (kk.toInt64)) * (500 : Int64))), (.long (cI.toInt64)), (.ref b13), (.ref b13)])) (fun t k => XS.lload X13.here hx rfl (hb hby at_53) rfl  k) ?_
    refine own_go (b := T13.setTop (mkF m 57 #[iv kw, iv cw, .val (.long la), .second, .val (.long lb), .second, .val (.long lv), .second, .val (.long lp), .second, iv kk, iv mg, iv cI, .val (.long (((cI.toInt64) * (kk.toInt64)) * (500 : Int64))), .second, .unset, .unset, .unset, .unset, .unset, .unset, .unset, .unset, .unset] [(.long lv), (.long (((cI.toInt64) * (kk.toInt64)) * (500 : Int64))), (.long (cI.toInt64)), (.ref b13), (.ref b13)])) (fun t k => XS.lload X13.here hx rfl (hb hby at_55) rfl  k) ?_
    refine own_go (b := T13.setTop (mkF m 59 #[iv kw, iv cw, .val (.long la), .second, .val (.long lb), .second, .val (.long lv), .second, .val (.long lp), .second, iv kk, iv mg, iv cI, .val (.long (((cI.toInt64) * (kk.toInt64)) * (500 : Int64))), .second, .unset, .unset, .unset, .unset, .unset, .unset, .unset, .unset, .unset] [(.long lp), (.long lv), (.long (((cI.toInt64) * (kk.toInt64)) * (500 : Int64))), (.long (cI.toInt64)), (.ref b13), (.ref b13)])) (fun t k => XS.lload X13.here hx rfl (hb hby at_57) rfl  k) ?_
    refine own_go (b := T13.setTop (mkF m 60 #[iv kw, iv cw, .val (.long la), .second, .val (.long lb), .second, .val (.long lv), .second, .val (.long lp), .second, iv kk, iv mg, iv cI, .val (.long (((cI.toInt64) * (kk.toInt64)) * (500 : Int64))), .second, .unset, .unset, .unset, .unset, .unset, .unset, .unset, .unset, .unset] [(.long la), (.long lp), (.long lv), (.long (((cI.toInt64) * (kk.toInt64)) * (500 : Int64))), (.long (cI.toInt64)), (.ref b13), (.ref b13)])) (fun t k => XS.lloadN X13.here hx rfl (hb hby at_59) rfl  k) ?_
    obtain ⟨_, _, ⟨T14, L14, k14, n14⟩, -, X14, ⟨Lc14, hQ14, l14, y14, z14⟩, st14⟩ := X13.specialBack hx (y := (⟨"com/example/vertumnus/vertumnus/cost/Round", "<init>", "(JJJJJ)V"⟩ : MethodName)) rfl hown (mvT hZ (hw _ (List.mem_of_getElem? (i := 5) rfl))) (mvT hZ (hw _ (List.mem_of_getElem? (i := 6) rfl))) (mvT hZ (hw _ (List.mem_of_getElem? (i := 7) rfl))) (by decide) (backOf (W := 1) (rm1 l Z a0 hw [] b13 (cI.toInt64) (((cI.toInt64) * (kk.toInt64)) * (500 : Int64)) lv lp la  h13 n0 Zs13 A13 F_count_b13 F_nanos_b13 F_verifyNanos_b13 F_peakBytes_b13 F_retainedBytes_b13 g_b13) hZ (hw _ (List.mem_of_getElem? (i := 7) rfl)) (hw _ (List.mem_of_getElem? (i := 4) rfl)) (by decide) (by decide)) (g := (mkF m 60 #[iv kw, iv cw, .val (.long la), .second, .val (.long lb), .second, .val (.long lv), .second, .val (.long lp), .second, iv kk, iv mg, iv cI, .val (.long (((cI.toInt64) * (kk.toInt64)) * (500 : Int64))), .second, .unset, .unset, .unset, .unset, .unset, .unset, .unset, .unset, .unset] [(.long la), (.long lp), (.long lv), (.long (((cI.toInt64) * (kk.toInt64)) * (500 : Int64))), (.long (cI.toInt64)), (.ref b13), (.ref b13)])) rfl (by rw [hml]; rfl) (Steps.refl _) (a := b13) (argsL := [(.long (cI.toInt64)), (.long (((cI.toInt64) * (kk.toInt64)) * (500 : Int64))), (.long lv), (.long lp), (.long la)]) (rest := [(.ref b13)]) (lenOf pd_1 rfl) rfl (by show 2 * 0 + _ ≤ _; exact Nat.le_of_eq rfl) (hb hby at_60) (fun _ _ => ⟨rfl, e13, (by decide : 1 + 0 ≤ _), (by decide : 5 + 0 ≤ _)⟩)
    dsimp only [Pt.U, Pt.locs, Pt.cells, Pt.slots] at X14 l14 y14 z14 st14 hQ14
    subst l14 y14 z14
    obtain ⟨rfl, N14q, K14, Ek14, Fc14_, Fn14_⟩ := hQ14
    have Zs14 : n0 ≤ T14.heap.size := Nat.le_trans Zs13 K14.1
    have N14 := Fr.app N0 N14q
    obtain ⟨lq14, X14, N14⟩ : ∃ lq, Stand p l e room_1 s m #[(.int kw), (.int cw), (.long la), (.long lb), (.long lv), (.long lp)] below meth c T14 lq 1 5 ∧ Fr n0 lq := ⟨_, X14, N14⟩
    refine own_tr (b := T14.setTop (mkF m 63 #[iv kw, iv cw, .val (.long la), .second, .val (.long lb), .second, .val (.long lv), .second, .val (.long lp), .second, iv kk, iv mg, iv cI, .val (.long (((cI.toInt64) * (kk.toInt64)) * (500 : Int64))), .second, .unset, .unset, .unset, .unset, .unset, .unset, .unset, .unset, .unset] [(.ref b13)])) st14 ?_
    refine own_go (b := T14.setTop (mkF m 65 #[iv kw, iv cw, .val (.long la), .second, .val (.long lb), .second, .val (.long lv), .second, .val (.long lp), .second, iv kk, iv mg, iv cI, .val (.long (((cI.toInt64) * (kk.toInt64)) * (500 : Int64))), .second, rv b13, .unset, .unset, .unset, .unset, .unset, .unset, .unset, .unset] [])) (fun t k => XS.astore X14.here hx rfl (hb hby at_63) rfl rfl (l' := #[iv kw, iv cw, .val (.long la), .second, .val (.long lb), .second, .val (.long lv), .second, .val (.long lp), .second, iv kk, iv mg, iv cI, .val (.long (((cI.toInt64) * (kk.toInt64)) * (500 : Int64))), .second, rv b13, .unset, .unset, .unset, .unset, .unset, .unset, .unset, .unset]) rfl k) ?_
    refine own_go (b := T14.setTop (mkF m 67 #[iv kw, iv cw, .val (.long la), .second, .val (.long lb), .second, .val (.long lv), .second, .val (.long lp), .second, iv kk, iv mg, iv cI, .val (.long (((cI.toInt64) * (kk.toInt64)) * (500 : Int64))), .second, rv b13, .unset, .unset, .unset, .unset, .unset, .unset, .unset, .unset] [(.ref b13)])) (fun t k => XS.aload X14.here hx rfl (hb hby at_65) rfl rfl k) ?_
    obtain ⟨cq15, kq15, q15a, q15b, q15c⟩ := isOf hZ rfl Ek14
    obtain ⟨_, _, ⟨T15, L15, k15, n15⟩, -, X15, ⟨Lc15, hQ15, l15, y15, z15⟩, st15⟩ := X14.virtualBack hx (y := (⟨"com/example/vertumnus/vertumnus/cost/Round", "microsEach", "()D"⟩ : MethodName)) (z := (⟨"com/example/vertumnus/vertumnus/cost/Round", "microsEach", "()D"⟩ : MethodName)) hown (mvT hZ (hw _ (List.mem_of_getElem? (i := 21) rfl))) (mvT hZ (hw _ (List.mem_of_getElem? (i := 22) rfl))) (notFace_of_selects (args := #[]) (mvT hZ (hw _ (List.mem_of_getElem? (i := 24) rfl)))) (mvT hZ (hw _ (List.mem_of_getElem? (i := 24) rfl))) (mvT hZ (hw _ (List.mem_of_getElem? (i := 23) rfl))) (by decide) (backOf (W := 0) (rm3 l Z a0 hw [] b13 (((cI.toInt64) * (kk.toInt64)) * (500 : Int64)) (cI.toInt64) T14.heap n0 Zs14 Fn14_ Fc14_ (own_nz hI.1)) hZ (hw _ (List.mem_of_getElem? (i := 25) rfl)) (hw _ (List.mem_of_getElem? (i := 4) rfl)) (by decide) (by decide)) q15a q15c (g := (mkF m 67 #[iv kw, iv cw, .val (.long la), .second, .val (.long lb), .second, .val (.long lv), .second, .val (.long lp), .second, iv kk, iv mg, iv cI, .val (.long (((cI.toInt64) * (kk.toInt64)) * (500 : Int64))), .second, rv b13, .unset, .unset, .unset, .unset, .unset, .unset, .unset, .unset] [(.ref b13)])) rfl (by rw [hml]; rfl) (Steps.refl _) (argsL := []) (rest := []) (lenOf pd_2 rfl) rfl (by show 2 * 0 + _ ≤ _; exact Nat.le_of_eq rfl) (hb hby at_67) (fun _ _ => ⟨rfl, rfl, (by decide : 1 + 0 ≤ _), (by decide : 5 + 0 ≤ _)⟩)
    dsimp only [Pt.U, Pt.locs, Pt.cells, Pt.slots] at X15 l15 y15 z15 st15 hQ15
    subst l15 y15 z15
    obtain ⟨rfl, N15q, e15⟩ := hQ15
    have N15 := Fr.app N14 N15q
    obtain ⟨lq15, X15, N15⟩ : ∃ lq, Stand p l e room_1 s m #[(.int kw), (.int cw), (.long la), (.long lb), (.long lv), (.long lp)] below meth c T15 lq 1 5 ∧ Fr n0 lq := ⟨_, X15, N15⟩
    refine own_tr (b := T15.setTop (mkF m 70 #[iv kw, iv cw, .val (.long la), .second, .val (.long lb), .second, .val (.long lv), .second, .val (.long lp), .second, iv kk, iv mg, iv cI, .val (.long (((cI.toInt64) * (kk.toInt64)) * (500 : Int64))), .second, rv b13, .unset, .unset, .unset, .unset, .unset, .unset, .unset, .unset] [(.double (Jvm.FP.Core.own_me (((cI.toInt64) * (kk.toInt64)) * (500 : Int64)) (cI.toInt64)))])) st15 ?_
    refine own_go (b := T15.setTop (mkF m 72 #[iv kw, iv cw, .val (.long la), .second, .val (.long lb), .second, .val (.long lv), .second, .val (.long lp), .second, iv kk, iv mg, iv cI, .val (.long (((cI.toInt64) * (kk.toInt64)) * (500 : Int64))), .second, rv b13, .unset, .unset, .unset, .unset, .unset, .unset, .unset, .unset] [(.int kk), (.double (Jvm.FP.Core.own_me (((cI.toInt64) * (kk.toInt64)) * (500 : Int64)) (cI.toInt64)))])) (fun t k => XS.iload X15.here hx rfl (hb hby at_70) rfl  k) ?_
    refine own_go (b := T15.setTop (mkF m 73 #[iv kw, iv cw, .val (.long la), .second, .val (.long lb), .second, .val (.long lv), .second, .val (.long lp), .second, iv kk, iv mg, iv cI, .val (.long (((cI.toInt64) * (kk.toInt64)) * (500 : Int64))), .second, rv b13, .unset, .unset, .unset, .unset, .unset, .unset, .unset, .unset] [(.double (FP.i2d kk)), (.double (Jvm.FP.Core.own_me (((cI.toInt64) * (kk.toInt64)) * (500 : Int64)) (cI.toInt64)))])) (fun t k => XS.i2dS X15.here hx rfl (hb hby at_72) rfl rfl k) ?_
    refine own_go (b := T15.setTop (mkF m 76 #[iv kw, iv cw, .val (.long la), .second, .val (.long lb), .second, .val (.long lv), .second, .val (.long lp), .second, iv kk, iv mg, iv cI, .val (.long (((cI.toInt64) * (kk.toInt64)) * (500 : Int64))), .second, rv b13, .unset, .unset, .unset, .unset, .unset, .unset, .unset, .unset] [(.double (4611686018427387904 : UInt64)), (.double (FP.i2d kk)), (.double (Jvm.FP.Core.own_me (((cI.toInt64) * (kk.toInt64)) * (500 : Int64)) (cI.toInt64)))])) (fun t k => X15.ldc2DoubleC hx hown (mvT hZ (hw _ (List.mem_of_getElem? (i := 27) rfl))) (g := (mkF m 73 #[iv kw, iv cw, .val (.long la), .second, .val (.long lb), .second, .val (.long lv), .second, .val (.long lp), .second, iv kk, iv mg, iv cI, .val (.long (((cI.toInt64) * (kk.toInt64)) * (500 : Int64))), .second, rv b13, .unset, .unset, .unset, .unset, .unset, .unset, .unset, .unset] [(.double (FP.i2d kk)), (.double (Jvm.FP.Core.own_me (((cI.toInt64) * (kk.toInt64)) * (500 : Int64)) (cI.toInt64)))])) rfl (hb hby at_73) t k) ?_
    refine own_go (b := T15.setTop (mkF m 77 #[iv kw, iv cw, .val (.long la), .second, .val (.long lb), .second, .val (.long lv), .second, .val (.long lp), .second, iv kk, iv mg, iv cI, .val (.long (((cI.toInt64) * (kk.toInt64)) * (500 : Int64))), .second, rv b13, .unset, .unset, .unset, .unset, .unset, .unset, .unset, .unset] [(.double (FP.ddiv (FP.i2d kk) (4611686018427387904 : UInt64))), (.double (Jvm.FP.Core.own_me (((cI.toInt64) * (kk.toInt64)) * (500 : Int64)) (cI.toInt64)))])) (fun t k => XS.ddivS X15.here hx rfl (hb hby at_76) rfl (Jvm.Free.Fl.ddiv_out (Jvm.Free.Fl.i2d_fin _).noNaN own_f2 own_n2) rfl k) ?_
    refine own_go (b := T15.setTop (mkF m 78 #[iv kw, iv cw, .val (.long la), .second, .val (.long lb), .second, .val (.long lv), .second, .val (.long lp), .second, iv kk, iv mg, iv cI, .val (.long (((cI.toInt64) * (kk.toInt64)) * (500 : Int64))), .second, rv b13, .unset, .unset, .unset, .unset, .unset, .unset, .unset, .unset] [(.int 0)])) (fun t k => XS.dcmpS X15.here hx rfl (hb hby at_77) rfl (own_cmp0 (own_ex hI.1 hI.2 bk) _) k) ?_
    refine own_go (b := T15.setTop (mkF m 81 #[iv kw, iv cw, .val (.long la), .second, .val (.long lb), .second, .val (.long lv), .second, .val (.long lp), .second, iv kk, iv mg, iv cI, .val (.long (((cI.toInt64) * (kk.toInt64)) * (500 : Int64))), .second, rv b13, .unset, .unset, .unset, .unset, .unset, .unset, .unset, .unset] [])) (fun t k => XS.ifNo X15.here hx rfl (hb hby at_78) rfl ((if0 _ _).trans (teq (rfl : (0 : Int32) = (0 : Int32))).2) k) ?_
    refine own_go (b := T15.setTop (mkF m 82 #[iv kw, iv cw, .val (.long la), .second, .val (.long lb), .second, .val (.long lv), .second, .val (.long lp), .second, iv kk, iv mg, iv cI, .val (.long (((cI.toInt64) * (kk.toInt64)) * (500 : Int64))), .second, rv b13, .unset, .unset, .unset, .unset, .unset, .unset, .unset, .unset] [(.int 1)])) (fun t k => XS.iconst X15.here hx rfl (hb hby at_81) k) ?_
    refine own_go (b := T15.setTop (mkF m 86 #[iv kw, iv cw, .val (.long la), .second, .val (.long lb), .second, .val (.long lv), .second, .val (.long lp), .second, iv kk, iv mg, iv cI, .val (.long (((cI.toInt64) * (kk.toInt64)) * (500 : Int64))), .second, rv b13, .unset, .unset, .unset, .unset, .unset, .unset, .unset, .unset] [(.int 1)])) (fun t k => XS.goto X15.here hx rfl (pc0 := 82) (pc' := 86) rfl (hb hby at_82) (by decide) (by decide) k) ?_
    refine own_go (b := T15.setTop (mkF m 88 #[iv kw, iv cw, .val (.long la), .second, .val (.long lb), .second, .val (.long lv), .second, .val (.long lp), .second, iv kk, iv mg, iv cI, .val (.long (((cI.toInt64) * (kk.toInt64)) * (500 : Int64))), .second, rv b13, iv 1, .unset, .unset, .unset, .unset, .unset, .unset, .unset] [])) (fun t k => XS.istore X15.here hx rfl (hb hby at_86) rfl (l' := #[iv kw, iv cw, .val (.long la), .second, .val (.long lb), .second, .val (.long lv), .second, .val (.long lp), .second, iv kk, iv mg, iv cI, .val (.long (((cI.toInt64) * (kk.toInt64)) * (500 : Int64))), .second, rv b13, iv 1, .unset, .unset, .unset, .unset, .unset, .unset, .unset]) rfl k) ?_
    refine own_go (b := T15.setTop (mkF m 89 #[iv kw, iv cw, .val (.long la), .second, .val (.long lb), .second, .val (.long lv), .second, .val (.long lp), .second, iv kk, iv mg, iv cI, .val (.long (((cI.toInt64) * (kk.toInt64)) * (500 : Int64))), .second, rv b13, iv 1, .unset, .unset, .unset, .unset, .unset, .unset, .unset] [(.long la)])) (fun t k => XS.lloadN X15.here hx rfl (hb hby at_88) rfl  k) ?_
    refine own_go (b := T15.setTop (mkF m 91 #[iv kw, iv cw, .val (.long la), .second, .val (.long lb), .second, .val (.long lv), .second, .val (.long lp), .second, iv kk, iv mg, iv cI, .val (.long (((cI.toInt64) * (kk.toInt64)) * (500 : Int64))), .second, rv b13, iv 1, .unset, .unset, .unset, .unset, .unset, .unset, .unset] [(.long lb), (.long la)])) (fun t k => XS.lload X15.here hx rfl (hb hby at_89) rfl  k) ?_
    obtain ⟨_, _, ⟨T16, L16, k16, n16⟩, -, X16, ⟨Lc16, hQ16, l16, y16, z16⟩, st16⟩ := Jvm.LawKit.callS X15 hx (y := (⟨"java/lang/Math", "min", "(JJ)J"⟩ : MethodName)) hown (mvT hZ (hw _ (List.mem_of_getElem? (i := 28) rfl))) (mvT hZ (hw _ (List.mem_of_getElem? (i := 29) rfl))) (mvT hZ (hw _ (List.mem_of_getElem? (i := 30) rfl))) (mvT hZ (hw _ (List.mem_of_getElem? (i := 31) rfl))) (by decide) (backOf (W := 0) (rm4 l Z a0 hw [] la lb  T14.heap n0 Zs14 ) hZ (hw _ (List.mem_of_getElem? (i := 31) rfl)) (hw _ (List.mem_of_getElem? (i := 30) rfl)) (by decide) (by decide)) (g := (mkF m 91 #[iv kw, iv cw, .val (.long la), .second, .val (.long lb), .second, .val (.long lv), .second, .val (.long lp), .second, iv kk, iv mg, iv cI, .val (.long (((cI.toInt64) * (kk.toInt64)) * (500 : Int64))), .second, rv b13, iv 1, .unset, .unset, .unset, .unset, .unset, .unset, .unset] [(.long lb), (.long la)])) rfl (by rw [hml]; rfl) (argsL := [(.long la), (.long lb)]) (rest := []) (lenOf pd_3 rfl) rfl (by show 2 * 0 + _ ≤ _; exact Nat.le_of_eq rfl) (hb hby at_91) (fun _ _ => ⟨rfl, e15, (by decide : 1 + 0 ≤ _), (by decide : 5 + 0 ≤ _)⟩)
    dsimp only [Pt.U, Pt.locs, Pt.cells, Pt.slots] at X16 l16 y16 z16 st16 hQ16
    subst l16 y16 z16
    obtain ⟨rfl, N16q, e16⟩ := hQ16
    have N16 := Fr.app N15 N16q
    obtain ⟨lq16, X16, N16⟩ : ∃ lq, Stand p l e room_1 s m #[(.int kw), (.int cw), (.long la), (.long lb), (.long lv), (.long lp)] below meth c T16 lq 1 5 ∧ Fr n0 lq := ⟨_, X16, N16⟩
    refine own_go (b := T16.setTop (mkF m 94 #[iv kw, iv cw, .val (.long la), .second, .val (.long lb), .second, .val (.long lv), .second, .val (.long lp), .second, iv kk, iv mg, iv cI, .val (.long (((cI.toInt64) * (kk.toInt64)) * (500 : Int64))), .second, rv b13, iv 1, .unset, .unset, .unset, .unset, .unset, .unset, .unset] [(.long (own_mn la lb))])) st16 ?_
    refine own_go (b := T16.setTop (mkF m 96 #[iv kw, iv cw, .val (.long la), .second, .val (.long lb), .second, .val (.long lv), .second, .val (.long lp), .second, iv kk, iv mg, iv cI, .val (.long (((cI.toInt64) * (kk.toInt64)) * (500 : Int64))), .second, rv b13, iv 1, .val (.long (own_mn la lb)), .second, .unset, .unset, .unset, .unset, .unset] [])) (fun t k => XS.lstore X16.here hx rfl (hb hby at_94) rfl (l' := #[iv kw, iv cw, .val (.long la), .second, .val (.long lb), .second, .val (.long lv), .second, .val (.long lp), .second, iv kk, iv mg, iv cI, .val (.long (((cI.toInt64) * (kk.toInt64)) * (500 : Int64))), .second, rv b13, iv 1, .val (.long (own_mn la lb)), .second, .unset, .unset, .unset, .unset, .unset]) rfl k) ?_
    refine own_go (b := T16.setTop (mkF m 97 #[iv kw, iv cw, .val (.long la), .second, .val (.long lb), .second, .val (.long lv), .second, .val (.long lp), .second, iv kk, iv mg, iv cI, .val (.long (((cI.toInt64) * (kk.toInt64)) * (500 : Int64))), .second, rv b13, iv 1, .val (.long (own_mn la lb)), .second, .unset, .unset, .unset, .unset, .unset] [(.long la)])) (fun t k => XS.lloadN X16.here hx rfl (hb hby at_96) rfl  k) ?_
    refine own_go (b := T16.setTop (mkF m 99 #[iv kw, iv cw, .val (.long la), .second, .val (.long lb), .second, .val (.long lv), .second, .val (.long lp), .second, iv kk, iv mg, iv cI, .val (.long (((cI.toInt64) * (kk.toInt64)) * (500 : Int64))), .second, rv b13, iv 1, .val (.long (own_mn la lb)), .second, .unset, .unset, .unset, .unset, .unset] [(.long lb), (.long la)])) (fun t k => XS.lload X16.here hx rfl (hb hby at_97) rfl  k) ?_
    obtain ⟨_, _, ⟨T17, L17, k17, n17⟩, -, X17, ⟨Lc17, hQ17, l17, y17, z17⟩, st17⟩ := Jvm.LawKit.callS X16 hx (y := (⟨"java/lang/Math", "max", "(JJ)J"⟩ : MethodName)) hown (mvT hZ (hw _ (List.mem_of_getElem? (i := 32) rfl))) (mvT hZ (hw _ (List.mem_of_getElem? (i := 33) rfl))) (mvT hZ (hw _ (List.mem_of_getElem? (i := 30) rfl))) (mvT hZ (hw _ (List.mem_of_getElem? (i := 34) rfl))) (by decide) (backOf (W := 0) (rm5 l Z a0 hw [] la lb  T14.heap n0 Zs14 ) hZ (hw _ (List.mem_of_getElem? (i := 34) rfl)) (hw _ (List.mem_of_getElem? (i := 30) rfl)) (by decide) (by decide)) (g := (mkF m 99 #[iv kw, iv cw, .val (.long la), .second, .val (.long lb), .second, .val (.long lv), .second, .val (.long lp), .second, iv kk, iv mg, iv cI, .val (.long (((cI.toInt64) * (kk.toInt64)) * (500 : Int64))), .second, rv b13, iv 1, .val (.long (own_mn la lb)), .second, .unset, .unset, .unset, .unset, .unset] [(.long lb), (.long la)])) rfl (by rw [hml]; rfl) (argsL := [(.long la), (.long lb)]) (rest := []) (lenOf pd_3 rfl) rfl (by show 2 * 0 + _ ≤ _; exact Nat.le_of_eq rfl) (hb hby at_99) (fun _ _ => ⟨rfl, e16, (by decide : 1 + 0 ≤ _), (by decide : 5 + 0 ≤ _)⟩)
    dsimp only [Pt.U, Pt.locs, Pt.cells, Pt.slots] at X17 l17 y17 z17 st17 hQ17
    subst l17 y17 z17
    obtain ⟨rfl, N17q, e17⟩ := hQ17
    have N17 := Fr.app N16 N17q
    obtain ⟨lq17, X17, N17⟩ : ∃ lq, Stand p l e room_1 s m #[(.int kw), (.int cw), (.long la), (.long lb), (.long lv), (.long lp)] below meth c T17 lq 1 5 ∧ Fr n0 lq := ⟨_, X17, N17⟩
    refine own_go (b := T17.setTop (mkF m 102 #[iv kw, iv cw, .val (.long la), .second, .val (.long lb), .second, .val (.long lv), .second, .val (.long lp), .second, iv kk, iv mg, iv cI, .val (.long (((cI.toInt64) * (kk.toInt64)) * (500 : Int64))), .second, rv b13, iv 1, .val (.long (own_mn la lb)), .second, .unset, .unset, .unset, .unset, .unset] [(.long (own_mx la lb))])) st17 ?_
    refine own_go (b := T17.setTop (mkF m 104 #[iv kw, iv cw, .val (.long la), .second, .val (.long lb), .second, .val (.long lv), .second, .val (.long lp), .second, iv kk, iv mg, iv cI, .val (.long (((cI.toInt64) * (kk.toInt64)) * (500 : Int64))), .second, rv b13, iv 1, .val (.long (own_mn la lb)), .second, .val (.long (own_mx la lb)), .second, .unset, .unset, .unset] [])) (fun t k => XS.lstore X17.here hx rfl (hb hby at_102) rfl (l' := #[iv kw, iv cw, .val (.long la), .second, .val (.long lb), .second, .val (.long lv), .second, .val (.long lp), .second, iv kk, iv mg, iv cI, .val (.long (((cI.toInt64) * (kk.toInt64)) * (500 : Int64))), .second, rv b13, iv 1, .val (.long (own_mn la lb)), .second, .val (.long (own_mx la lb)), .second, .unset, .unset, .unset]) rfl k) ?_
    obtain ⟨T18, h18, X18, e18, E18, A18, D18, -, st18⟩ := newO X17 hx hZ hown (hw _ (List.mem_of_getElem? (i := 2) rfl)) (hw _ (List.mem_of_getElem? (i := 3) rfl)) (hw _ (List.mem_of_getElem? (i := 4) rfl)) e17 (g := (mkF m 104 #[iv kw, iv cw, .val (.long la), .second, .val (.long lb), .second, .val (.long lv), .second, .val (.long lp), .second, iv kk, iv mg, iv cI, .val (.long (((cI.toInt64) * (kk.toInt64)) * (500 : Int64))), .second, rv b13, iv 1, .val (.long (own_mn la lb)), .second, .val (.long (own_mx la lb)), .second, .unset, .unset, .unset] [])) rfl (hb hby at_104) (by decide) (by decide)
    obtain ⟨b18, g18⟩ : ∃ z, z = T14.heap.size := ⟨_, rfl⟩
    rw [← g18] at A18 D18 st18
    have g_b18 : n0 ≤ b18 := Nat.le_trans Zs14 (Nat.le_of_eq g18.symm)
    have Zs18 : n0 ≤ h18.size := Nat.le_trans Zs14 E18.1
    have F_count_b18 : Fld Z h18 b18 "com/example/vertumnus/vertumnus/cost/Round" "count" "J" (.long 0) := D18 (Or.inr (hw _ (List.mem_of_getElem? (i := 12) rfl))) (ty := .long) (by decide)
    have F_nanos_b18 : Fld Z h18 b18 "com/example/vertumnus/vertumnus/cost/Round" "nanos" "J" (.long 0) := D18 (Or.inr (hw _ (List.mem_of_getElem? (i := 14) rfl))) (ty := .long) (by decide)
    have F_verifyNanos_b18 : Fld Z h18 b18 "com/example/vertumnus/vertumnus/cost/Round" "verifyNanos" "J" (.long 0) := D18 (Or.inr (hw _ (List.mem_of_getElem? (i := 16) rfl))) (ty := .long) (by decide)
    have F_peakBytes_b18 : Fld Z h18 b18 "com/example/vertumnus/vertumnus/cost/Round" "peakBytes" "J" (.long 0) := D18 (Or.inr (hw _ (List.mem_of_getElem? (i := 18) rfl))) (ty := .long) (by decide)
    have F_retainedBytes_b18 : Fld Z h18 b18 "com/example/vertumnus/vertumnus/cost/Round" "retainedBytes" "J" (.long 0) := D18 (Or.inr (hw _ (List.mem_of_getElem? (i := 20) rfl))) (ty := .long) (by decide)
    refine own_go (b := T18.setTop (mkF m 107 #[iv kw, iv cw, .val (.long la), .second, .val (.long lb), .second, .val (.long lv), .second, .val (.long lp), .second, iv kk, iv mg, iv cI, .val (.long (((cI.toInt64) * (kk.toInt64)) * (500 : Int64))), .second, rv b13, iv 1, .val (.long (own_mn la lb)), .second, .val (.long (own_mx la lb)), .second, .unset, .unset, .unset] [(.ref b18)])) st18 ?_
    refine own_go (b := T18.setTop (mkF m 108 #[iv kw, iv cw, .val (.long la), .second, .val (.long lb), .second, .val (.long lv), .second, .val (.long lp), .second, iv kk, iv mg, iv cI, .val (.long (((cI.toInt64) * (kk.toInt64)) * (500 : Int64))), .second, rv b13, iv 1, .val (.long (own_mn la lb)), .second, .val (.long (own_mx la lb)), .second, .unset, .unset, .unset] [(.ref b18), (.ref b18)])) (fun t k => XS.dup X18.here hx rfl (hb hby at_107) rfl rfl k) ?_
    refine own_go (b := T18.setTop (mkF m 110 #[iv kw, iv cw, .val (.long la), .second, .val (.long lb), .second, .val (.long lv), .second, .val (.long lp), .second, iv kk, iv mg, iv cI, .val (.long (((cI.toInt64) * (kk.toInt64)) * (500 : Int64))), .second, rv b13, iv 1, .val (.long (own_mn la lb)), .second, .val (.long (own_mx la lb)), .second, .unset, .unset, .unset] [(.int mg), (.ref b18), (.ref b18)])) (fun t k => XS.iload X18.here hx rfl (hb hby at_108) rfl  k) ?_
    refine own_go (b := T18.setTop (mkF m 111 #[iv kw, iv cw, .val (.long la), .second, .val (.long lb), .second, .val (.long lv), .second, .val (.long lp), .second, iv kk, iv mg, iv cI, .val (.long (((cI.toInt64) * (kk.toInt64)) * (500 : Int64))), .second, rv b13, iv 1, .val (.long (own_mn la lb)), .second, .val (.long (own_mx la lb)), .second, .unset, .unset, .unset] [(.long (mg.toInt64)), (.ref b18), (.ref b18)])) (fun t k => XS.i2l X18.here hx rfl (hb hby at_110) rfl k) ?_
    refine own_go (b := T18.setTop (mkF m 113 #[iv kw, iv cw, .val (.long la), .second, .val (.long lb), .second, .val (.long lv), .second, .val (.long lp), .second, iv kk, iv mg, iv cI, .val (.long (((cI.toInt64) * (kk.toInt64)) * (500 : Int64))), .second, rv b13, iv 1, .val (.long (own_mn la lb)), .second, .val (.long (own_mx la lb)), .second, .unset, .unset, .unset] [(.long (own_mn la lb)), (.long (mg.toInt64)), (.ref b18), (.ref b18)])) (fun t k => XS.lload X18.here hx rfl (hb hby at_111) rfl  k) ?_
    refine own_go (b := T18.setTop (mkF m 115 #[iv kw, iv cw, .val (.long la), .second, .val (.long lb), .second, .val (.long lv), .second, .val (.long lp), .second, iv kk, iv mg, iv cI, .val (.long (((cI.toInt64) * (kk.toInt64)) * (500 : Int64))), .second, rv b13, iv 1, .val (.long (own_mn la lb)), .second, .val (.long (own_mx la lb)), .second, .unset, .unset, .unset] [(.long lv), (.long (own_mn la lb)), (.long (mg.toInt64)), (.ref b18), (.ref b18)])) (fun t k => XS.lload X18.here hx rfl (hb hby at_113) rfl  k) ?_
    refine own_go (b := T18.setTop (mkF m 117 #[iv kw, iv cw, .val (.long la), .second, .val (.long lb), .second, .val (.long lv), .second, .val (.long lp), .second, iv kk, iv mg, iv cI, .val (.long (((cI.toInt64) * (kk.toInt64)) * (500 : Int64))), .second, rv b13, iv 1, .val (.long (own_mn la lb)), .second, .val (.long (own_mx la lb)), .second, .unset, .unset, .unset] [(.long lp), (.long lv), (.long (own_mn la lb)), (.long (mg.toInt64)), (.ref b18), (.ref b18)])) (fun t k => XS.lload X18.here hx rfl (hb hby at_115) rfl  k) ?_
    refine own_go (b := T18.setTop (mkF m 119 #[iv kw, iv cw, .val (.long la), .second, .val (.long lb), .second, .val (.long lv), .second, .val (.long lp), .second, iv kk, iv mg, iv cI, .val (.long (((cI.toInt64) * (kk.toInt64)) * (500 : Int64))), .second, rv b13, iv 1, .val (.long (own_mn la lb)), .second, .val (.long (own_mx la lb)), .second, .unset, .unset, .unset] [(.long lb), (.long lp), (.long lv), (.long (own_mn la lb)), (.long (mg.toInt64)), (.ref b18), (.ref b18)])) (fun t k => XS.lload X18.here hx rfl (hb hby at_117) rfl  k) ?_
    obtain ⟨_, _, ⟨T19, L19, k19, n19⟩, -, X19, ⟨Lc19, hQ19, l19, y19, z19⟩, st19⟩ := X18.specialBack hx (y := (⟨"com/example/vertumnus/vertumnus/cost/Round", "<init>", "(JJJJJ)V"⟩ : MethodName)) rfl hown (mvT hZ (hw _ (List.mem_of_getElem? (i := 5) rfl))) (mvT hZ (hw _ (List.mem_of_getElem? (i := 6) rfl))) (mvT hZ (hw _ (List.mem_of_getElem? (i := 7) rfl))) (by decide) (backOf (W := 1) (rm1 l Z a0 hw [] b18 (mg.toInt64) (own_mn la lb) lv lp lb  h18 n0 Zs18 A18 F_count_b18 F_nanos_b18 F_verifyNanos_b18 F_peakBytes_b18 F_retainedBytes_b18 g_b18) hZ (hw _ (List.mem_of_getElem? (i := 7) rfl)) (hw _ (List.mem_of_getElem? (i := 4) rfl)) (by decide) (by decide)) (g := (mkF m 119 #[iv kw, iv cw, .val (.long la), .second, .val (.long lb), .second, .val (.long lv), .second, .val (.long lp), .second, iv kk, iv mg, iv cI, .val (.long (((cI.toInt64) * (kk.toInt64)) * (500 : Int64))), .second, rv b13, iv 1, .val (.long (own_mn la lb)), .second, .val (.long (own_mx la lb)), .second, .unset, .unset, .unset] [(.long lb), (.long lp), (.long lv), (.long (own_mn la lb)), (.long (mg.toInt64)), (.ref b18), (.ref b18)])) rfl (by rw [hml]; rfl) (Steps.refl _) (a := b18) (argsL := [(.long (mg.toInt64)), (.long (own_mn la lb)), (.long lv), (.long lp), (.long lb)]) (rest := [(.ref b18)]) (lenOf pd_1 rfl) rfl (by show 2 * 0 + _ ≤ _; exact Nat.le_of_eq rfl) (hb hby at_119) (fun _ _ => ⟨rfl, e18, (by decide : 2 + 0 ≤ _), (by decide : 10 + 0 ≤ _)⟩)
    dsimp only [Pt.U, Pt.locs, Pt.cells, Pt.slots] at X19 l19 y19 z19 st19 hQ19
    subst l19 y19 z19
    obtain ⟨rfl, N19q, K19, Ek19, Fc19_, Fn19_⟩ := hQ19
    have Zs19 : n0 ≤ T19.heap.size := Nat.le_trans Zs18 K19.1
    have N19 := Fr.app N17 N19q
    obtain ⟨lq19, X19, N19⟩ : ∃ lq, Stand p l e room_1 s m #[(.int kw), (.int cw), (.long la), (.long lb), (.long lv), (.long lp)] below meth c T19 lq 2 10 ∧ Fr n0 lq := ⟨_, X19, N19⟩
    refine own_tr (b := T19.setTop (mkF m 122 #[iv kw, iv cw, .val (.long la), .second, .val (.long lb), .second, .val (.long lv), .second, .val (.long lp), .second, iv kk, iv mg, iv cI, .val (.long (((cI.toInt64) * (kk.toInt64)) * (500 : Int64))), .second, rv b13, iv 1, .val (.long (own_mn la lb)), .second, .val (.long (own_mx la lb)), .second, .unset, .unset, .unset] [(.ref b18)])) st19 ?_
    refine own_go (b := T19.setTop (mkF m 124 #[iv kw, iv cw, .val (.long la), .second, .val (.long lb), .second, .val (.long lv), .second, .val (.long lp), .second, iv kk, iv mg, iv cI, .val (.long (((cI.toInt64) * (kk.toInt64)) * (500 : Int64))), .second, rv b13, iv 1, .val (.long (own_mn la lb)), .second, .val (.long (own_mx la lb)), .second, rv b18, .unset, .unset] [])) (fun t k => XS.astore X19.here hx rfl (hb hby at_122) rfl rfl (l' := #[iv kw, iv cw, .val (.long la), .second, .val (.long lb), .second, .val (.long lv), .second, .val (.long lp), .second, iv kk, iv mg, iv cI, .val (.long (((cI.toInt64) * (kk.toInt64)) * (500 : Int64))), .second, rv b13, iv 1, .val (.long (own_mn la lb)), .second, .val (.long (own_mx la lb)), .second, rv b18, .unset, .unset]) rfl k) ?_
    obtain ⟨T20, h20, X20, e20, E20, A20, D20, -, st20⟩ := newO X19 hx hZ hown (hw _ (List.mem_of_getElem? (i := 2) rfl)) (hw _ (List.mem_of_getElem? (i := 3) rfl)) (hw _ (List.mem_of_getElem? (i := 4) rfl)) rfl (g := (mkF m 124 #[iv kw, iv cw, .val (.long la), .second, .val (.long lb), .second, .val (.long lv), .second, .val (.long lp), .second, iv kk, iv mg, iv cI, .val (.long (((cI.toInt64) * (kk.toInt64)) * (500 : Int64))), .second, rv b13, iv 1, .val (.long (own_mn la lb)), .second, .val (.long (own_mx la lb)), .second, rv b18, .unset, .unset] [])) rfl (hb hby at_124) (by decide) (by decide)
    obtain ⟨b20, g20⟩ : ∃ z, z = T19.heap.size := ⟨_, rfl⟩
    rw [← g20] at A20 D20 st20
    have g_b20 : n0 ≤ b20 := Nat.le_trans Zs19 (Nat.le_of_eq g20.symm)
    have Zs20 : n0 ≤ h20.size := Nat.le_trans Zs19 E20.1
    have F_count_b20 : Fld Z h20 b20 "com/example/vertumnus/vertumnus/cost/Round" "count" "J" (.long 0) := D20 (Or.inr (hw _ (List.mem_of_getElem? (i := 12) rfl))) (ty := .long) (by decide)
    have F_nanos_b20 : Fld Z h20 b20 "com/example/vertumnus/vertumnus/cost/Round" "nanos" "J" (.long 0) := D20 (Or.inr (hw _ (List.mem_of_getElem? (i := 14) rfl))) (ty := .long) (by decide)
    have F_verifyNanos_b20 : Fld Z h20 b20 "com/example/vertumnus/vertumnus/cost/Round" "verifyNanos" "J" (.long 0) := D20 (Or.inr (hw _ (List.mem_of_getElem? (i := 16) rfl))) (ty := .long) (by decide)
    have F_peakBytes_b20 : Fld Z h20 b20 "com/example/vertumnus/vertumnus/cost/Round" "peakBytes" "J" (.long 0) := D20 (Or.inr (hw _ (List.mem_of_getElem? (i := 18) rfl))) (ty := .long) (by decide)
    have F_retainedBytes_b20 : Fld Z h20 b20 "com/example/vertumnus/vertumnus/cost/Round" "retainedBytes" "J" (.long 0) := D20 (Or.inr (hw _ (List.mem_of_getElem? (i := 20) rfl))) (ty := .long) (by decide)
    refine own_go (b := T20.setTop (mkF m 127 #[iv kw, iv cw, .val (.long la), .second, .val (.long lb), .second, .val (.long lv), .second, .val (.long lp), .second, iv kk, iv mg, iv cI, .val (.long (((cI.toInt64) * (kk.toInt64)) * (500 : Int64))), .second, rv b13, iv 1, .val (.long (own_mn la lb)), .second, .val (.long (own_mx la lb)), .second, rv b18, .unset, .unset] [(.ref b20)])) st20 ?_
    refine own_go (b := T20.setTop (mkF m 128 #[iv kw, iv cw, .val (.long la), .second, .val (.long lb), .second, .val (.long lv), .second, .val (.long lp), .second, iv kk, iv mg, iv cI, .val (.long (((cI.toInt64) * (kk.toInt64)) * (500 : Int64))), .second, rv b13, iv 1, .val (.long (own_mn la lb)), .second, .val (.long (own_mx la lb)), .second, rv b18, .unset, .unset] [(.ref b20), (.ref b20)])) (fun t k => XS.dup X20.here hx rfl (hb hby at_127) rfl rfl k) ?_
    refine own_go (b := T20.setTop (mkF m 130 #[iv kw, iv cw, .val (.long la), .second, .val (.long lb), .second, .val (.long lv), .second, .val (.long lp), .second, iv kk, iv mg, iv cI, .val (.long (((cI.toInt64) * (kk.toInt64)) * (500 : Int64))), .second, rv b13, iv 1, .val (.long (own_mn la lb)), .second, .val (.long (own_mx la lb)), .second, rv b18, .unset, .unset] [(.int mg), (.ref b20), (.ref b20)])) (fun t k => XS.iload X20.here hx rfl (hb hby at_128) rfl  k) ?_
    refine own_go (b := T20.setTop (mkF m 131 #[iv kw, iv cw, .val (.long la), .second, .val (.long lb), .second, .val (.long lv), .second, .val (.long lp), .second, iv kk, iv mg, iv cI, .val (.long (((cI.toInt64) * (kk.toInt64)) * (500 : Int64))), .second, rv b13, iv 1, .val (.long (own_mn la lb)), .second, .val (.long (own_mx la lb)), .second, rv b18, .unset, .unset] [(.long (mg.toInt64)), (.ref b20), (.ref b20)])) (fun t k => XS.i2l X20.here hx rfl (hb hby at_130) rfl k) ?_
    refine own_go (b := T20.setTop (mkF m 133 #[iv kw, iv cw, .val (.long la), .second, .val (.long lb), .second, .val (.long lv), .second, .val (.long lp), .second, iv kk, iv mg, iv cI, .val (.long (((cI.toInt64) * (kk.toInt64)) * (500 : Int64))), .second, rv b13, iv 1, .val (.long (own_mn la lb)), .second, .val (.long (own_mx la lb)), .second, rv b18, .unset, .unset] [(.long (own_mx la lb)), (.long (mg.toInt64)), (.ref b20), (.ref b20)])) (fun t k => XS.lload X20.here hx rfl (hb hby at_131) rfl  k) ?_
    refine own_go (b := T20.setTop (mkF m 135 #[iv kw, iv cw, .val (.long la), .second, .val (.long lb), .second, .val (.long lv), .second, .val (.long lp), .second, iv kk, iv mg, iv cI, .val (.long (((cI.toInt64) * (kk.toInt64)) * (500 : Int64))), .second, rv b13, iv 1, .val (.long (own_mn la lb)), .second, .val (.long (own_mx la lb)), .second, rv b18, .unset, .unset] [(.long lp), (.long (own_mx la lb)), (.long (mg.toInt64)), (.ref b20), (.ref b20)])) (fun t k => XS.lload X20.here hx rfl (hb hby at_133) rfl  k) ?_
    refine own_go (b := T20.setTop (mkF m 137 #[iv kw, iv cw, .val (.long la), .second, .val (.long lb), .second, .val (.long lv), .second, .val (.long lp), .second, iv kk, iv mg, iv cI, .val (.long (((cI.toInt64) * (kk.toInt64)) * (500 : Int64))), .second, rv b13, iv 1, .val (.long (own_mn la lb)), .second, .val (.long (own_mx la lb)), .second, rv b18, .unset, .unset] [(.long lv), (.long lp), (.long (own_mx la lb)), (.long (mg.toInt64)), (.ref b20), (.ref b20)])) (fun t k => XS.lload X20.here hx rfl (hb hby at_135) rfl  k) ?_
    refine own_go (b := T20.setTop (mkF m 138 #[iv kw, iv cw, .val (.long la), .second, .val (.long lb), .second, .val (.long lv), .second, .val (.long lp), .second, iv kk, iv mg, iv cI, .val (.long (((cI.toInt64) * (kk.toInt64)) * (500 : Int64))), .second, rv b13, iv 1, .val (.long (own_mn la lb)), .second, .val (.long (own_mx la lb)), .second, rv b18, .unset, .unset] [(.long la), (.long lv), (.long lp), (.long (own_mx la lb)), (.long (mg.toInt64)), (.ref b20), (.ref b20)])) (fun t k => XS.lloadN X20.here hx rfl (hb hby at_137) rfl  k) ?_
    obtain ⟨_, _, ⟨T21, L21, k21, n21⟩, -, X21, ⟨Lc21, hQ21, l21, y21, z21⟩, st21⟩ := X20.specialBack hx (y := (⟨"com/example/vertumnus/vertumnus/cost/Round", "<init>", "(JJJJJ)V"⟩ : MethodName)) rfl hown (mvT hZ (hw _ (List.mem_of_getElem? (i := 5) rfl))) (mvT hZ (hw _ (List.mem_of_getElem? (i := 6) rfl))) (mvT hZ (hw _ (List.mem_of_getElem? (i := 7) rfl))) (by decide) (backOf (W := 1) (rm1 l Z a0 hw [] b20 (mg.toInt64) (own_mx la lb) lp lv la  h20 n0 Zs20 A20 F_count_b20 F_nanos_b20 F_verifyNanos_b20 F_peakBytes_b20 F_retainedBytes_b20 g_b20) hZ (hw _ (List.mem_of_getElem? (i := 7) rfl)) (hw _ (List.mem_of_getElem? (i := 4) rfl)) (by decide) (by decide)) (g := (mkF m 138 #[iv kw, iv cw, .val (.long la), .second, .val (.long lb), .second, .val (.long lv), .second, .val (.long lp), .second, iv kk, iv mg, iv cI, .val (.long (((cI.toInt64) * (kk.toInt64)) * (500 : Int64))), .second, rv b13, iv 1, .val (.long (own_mn la lb)), .second, .val (.long (own_mx la lb)), .second, rv b18, .unset, .unset] [(.long la), (.long lv), (.long lp), (.long (own_mx la lb)), (.long (mg.toInt64)), (.ref b20), (.ref b20)])) rfl (by rw [hml]; rfl) (Steps.refl _) (a := b20) (argsL := [(.long (mg.toInt64)), (.long (own_mx la lb)), (.long lp), (.long lv), (.long la)]) (rest := [(.ref b20)]) (lenOf pd_1 rfl) rfl (by show 2 * 0 + _ ≤ _; exact Nat.le_of_eq rfl) (hb hby at_138) (fun _ _ => ⟨rfl, e20, (by decide : 3 + 0 ≤ _), (by decide : 15 + 0 ≤ _)⟩)
    dsimp only [Pt.U, Pt.locs, Pt.cells, Pt.slots] at X21 l21 y21 z21 st21 hQ21
    subst l21 y21 z21
    obtain ⟨rfl, N21q, K21, Ek21, Fc21_, Fn21_⟩ := hQ21
    have Zs21 : n0 ≤ T21.heap.size := Nat.le_trans Zs20 K21.1
    have N21 := Fr.app N19 N21q
    obtain ⟨lq21, X21, N21⟩ : ∃ lq, Stand p l e room_1 s m #[(.int kw), (.int cw), (.long la), (.long lb), (.long lv), (.long lp)] below meth c T21 lq 3 15 ∧ Fr n0 lq := ⟨_, X21, N21⟩
    refine own_tr (b := T21.setTop (mkF m 141 #[iv kw, iv cw, .val (.long la), .second, .val (.long lb), .second, .val (.long lv), .second, .val (.long lp), .second, iv kk, iv mg, iv cI, .val (.long (((cI.toInt64) * (kk.toInt64)) * (500 : Int64))), .second, rv b13, iv 1, .val (.long (own_mn la lb)), .second, .val (.long (own_mx la lb)), .second, rv b18, .unset, .unset] [(.ref b20)])) st21 ?_
    refine own_go (b := T21.setTop (mkF m 143 #[iv kw, iv cw, .val (.long la), .second, .val (.long lb), .second, .val (.long lv), .second, .val (.long lp), .second, iv kk, iv mg, iv cI, .val (.long (((cI.toInt64) * (kk.toInt64)) * (500 : Int64))), .second, rv b13, iv 1, .val (.long (own_mn la lb)), .second, .val (.long (own_mx la lb)), .second, rv b18, rv b20, .unset] [])) (fun t k => XS.astore X21.here hx rfl (hb hby at_141) rfl rfl (l' := #[iv kw, iv cw, .val (.long la), .second, .val (.long lb), .second, .val (.long lv), .second, .val (.long lp), .second, iv kk, iv mg, iv cI, .val (.long (((cI.toInt64) * (kk.toInt64)) * (500 : Int64))), .second, rv b13, iv 1, .val (.long (own_mn la lb)), .second, .val (.long (own_mx la lb)), .second, rv b18, rv b20, .unset]) rfl k) ?_
    refine own_go (b := T21.setTop (mkF m 145 #[iv kw, iv cw, .val (.long la), .second, .val (.long lb), .second, .val (.long lv), .second, .val (.long lp), .second, iv kk, iv mg, iv cI, .val (.long (((cI.toInt64) * (kk.toInt64)) * (500 : Int64))), .second, rv b13, iv 1, .val (.long (own_mn la lb)), .second, .val (.long (own_mx la lb)), .second, rv b18, rv b20, .unset] [(.ref b18)])) (fun t k => XS.aload X21.here hx rfl (hb hby at_143) rfl rfl k) ?_
    obtain ⟨cq22, kq22, q22a, q22b, q22c⟩ := isOf hZ rfl ((Ek19.ext E20).keep K21)
    obtain ⟨_, _, ⟨T22, L22, k22, n22⟩, -, X22, ⟨Lc22, hQ22, l22, y22, z22⟩, st22⟩ := X21.virtualBack hx (y := (⟨"com/example/vertumnus/vertumnus/cost/Round", "microsEach", "()D"⟩ : MethodName)) (z := (⟨"com/example/vertumnus/vertumnus/cost/Round", "microsEach", "()D"⟩ : MethodName)) hown (mvT hZ (hw _ (List.mem_of_getElem? (i := 21) rfl))) (mvT hZ (hw _ (List.mem_of_getElem? (i := 22) rfl))) (notFace_of_selects (args := #[]) (mvT hZ (hw _ (List.mem_of_getElem? (i := 24) rfl)))) (mvT hZ (hw _ (List.mem_of_getElem? (i := 24) rfl))) (mvT hZ (hw _ (List.mem_of_getElem? (i := 23) rfl))) (by decide) (backOf (W := 0) (rm3 l Z a0 hw [] b18 (own_mn la lb) (mg.toInt64) T21.heap n0 Zs21 ((Fn19_.ext E20).keep K21 (ninS (Nat.ne_of_lt (Nat.lt_of_lt_of_le (Ek19).lt (Nat.le_of_eq g20.symm))) nin0)) ((Fc19_.ext E20).keep K21 (ninS (Nat.ne_of_lt (Nat.lt_of_lt_of_le (Ek19).lt (Nat.le_of_eq g20.symm))) nin0)) (own_nz (by omega))) hZ (hw _ (List.mem_of_getElem? (i := 25) rfl)) (hw _ (List.mem_of_getElem? (i := 4) rfl)) (by decide) (by decide)) q22a q22c (g := (mkF m 145 #[iv kw, iv cw, .val (.long la), .second, .val (.long lb), .second, .val (.long lv), .second, .val (.long lp), .second, iv kk, iv mg, iv cI, .val (.long (((cI.toInt64) * (kk.toInt64)) * (500 : Int64))), .second, rv b13, iv 1, .val (.long (own_mn la lb)), .second, .val (.long (own_mx la lb)), .second, rv b18, rv b20, .unset] [(.ref b18)])) rfl (by rw [hml]; rfl) (Steps.refl _) (argsL := []) (rest := []) (lenOf pd_2 rfl) rfl (by show 2 * 0 + _ ≤ _; exact Nat.le_of_eq rfl) (hb hby at_145) (fun _ _ => ⟨rfl, rfl, (by decide : 3 + 0 ≤ _), (by decide : 15 + 0 ≤ _)⟩)
    dsimp only [Pt.U, Pt.locs, Pt.cells, Pt.slots] at X22 l22 y22 z22 st22 hQ22
    subst l22 y22 z22
    obtain ⟨rfl, N22q, e22⟩ := hQ22
    have N22 := Fr.app N21 N22q
    obtain ⟨lq22, X22, N22⟩ : ∃ lq, Stand p l e room_1 s m #[(.int kw), (.int cw), (.long la), (.long lb), (.long lv), (.long lp)] below meth c T22 lq 3 15 ∧ Fr n0 lq := ⟨_, X22, N22⟩
    refine own_tr (b := T22.setTop (mkF m 148 #[iv kw, iv cw, .val (.long la), .second, .val (.long lb), .second, .val (.long lv), .second, .val (.long lp), .second, iv kk, iv mg, iv cI, .val (.long (((cI.toInt64) * (kk.toInt64)) * (500 : Int64))), .second, rv b13, iv 1, .val (.long (own_mn la lb)), .second, .val (.long (own_mx la lb)), .second, rv b18, rv b20, .unset] [(.double (Jvm.FP.Core.own_me (own_mn la lb) (mg.toInt64)))])) st22 ?_
    refine own_go (b := T22.setTop (mkF m 150 #[iv kw, iv cw, .val (.long la), .second, .val (.long lb), .second, .val (.long lv), .second, .val (.long lp), .second, iv kk, iv mg, iv cI, .val (.long (((cI.toInt64) * (kk.toInt64)) * (500 : Int64))), .second, rv b13, iv 1, .val (.long (own_mn la lb)), .second, .val (.long (own_mx la lb)), .second, rv b18, rv b20, .unset] [(.ref b20), (.double (Jvm.FP.Core.own_me (own_mn la lb) (mg.toInt64)))])) (fun t k => XS.aload X22.here hx rfl (hb hby at_148) rfl rfl k) ?_
    obtain ⟨cq23, kq23, q23a, q23b, q23c⟩ := isOf hZ e22 Ek21
    obtain ⟨_, _, ⟨T23, L23, k23, n23⟩, -, X23, ⟨Lc23, hQ23, l23, y23, z23⟩, st23⟩ := X22.virtualBack hx (y := (⟨"com/example/vertumnus/vertumnus/cost/Round", "microsEach", "()D"⟩ : MethodName)) (z := (⟨"com/example/vertumnus/vertumnus/cost/Round", "microsEach", "()D"⟩ : MethodName)) hown (mvT hZ (hw _ (List.mem_of_getElem? (i := 21) rfl))) (mvT hZ (hw _ (List.mem_of_getElem? (i := 22) rfl))) (notFace_of_selects (args := #[]) (mvT hZ (hw _ (List.mem_of_getElem? (i := 24) rfl)))) (mvT hZ (hw _ (List.mem_of_getElem? (i := 24) rfl))) (mvT hZ (hw _ (List.mem_of_getElem? (i := 23) rfl))) (by decide) (backOf (W := 2) (rm3 l Z a0 hw [] b20 (own_mx la lb) (mg.toInt64) T21.heap n0 Zs21 Fn21_ Fc21_ (own_nz (by omega))) hZ (hw _ (List.mem_of_getElem? (i := 25) rfl)) (hw _ (List.mem_of_getElem? (i := 4) rfl)) (by decide) (by decide)) q23a q23c (g := (mkF m 150 #[iv kw, iv cw, .val (.long la), .second, .val (.long lb), .second, .val (.long lv), .second, .val (.long lp), .second, iv kk, iv mg, iv cI, .val (.long (((cI.toInt64) * (kk.toInt64)) * (500 : Int64))), .second, rv b13, iv 1, .val (.long (own_mn la lb)), .second, .val (.long (own_mx la lb)), .second, rv b18, rv b20, .unset] [(.ref b20), (.double (Jvm.FP.Core.own_me (own_mn la lb) (mg.toInt64)))])) rfl (by rw [hml]; rfl) (Steps.refl _) (argsL := []) (rest := [(.double (Jvm.FP.Core.own_me (own_mn la lb) (mg.toInt64)))]) (lenOf pd_2 rfl) rfl (by show 2 * 0 + _ ≤ _; exact Nat.le_of_eq rfl) (hb hby at_150) (fun _ _ => ⟨rfl, e22, (by decide : 3 + 0 ≤ _), (by decide : 15 + 0 ≤ _)⟩)
    dsimp only [Pt.U, Pt.locs, Pt.cells, Pt.slots] at X23 l23 y23 z23 st23 hQ23
    subst l23 y23 z23
    obtain ⟨rfl, N23q, e23⟩ := hQ23
    have N23 := Fr.app N22 N23q
    obtain ⟨lq23, X23, N23⟩ : ∃ lq, Stand p l e room_1 s m #[(.int kw), (.int cw), (.long la), (.long lb), (.long lv), (.long lp)] below meth c T23 lq 3 15 ∧ Fr n0 lq := ⟨_, X23, N23⟩
    refine own_tr (b := T23.setTop (mkF m 153 #[iv kw, iv cw, .val (.long la), .second, .val (.long lb), .second, .val (.long lv), .second, .val (.long lp), .second, iv kk, iv mg, iv cI, .val (.long (((cI.toInt64) * (kk.toInt64)) * (500 : Int64))), .second, rv b13, iv 1, .val (.long (own_mn la lb)), .second, .val (.long (own_mx la lb)), .second, rv b18, rv b20, .unset] [(.double (Jvm.FP.Core.own_me (own_mx la lb) (mg.toInt64))), (.double (Jvm.FP.Core.own_me (own_mn la lb) (mg.toInt64)))])) st23 ?_
    have hg : ¬ (0 : Int32) < (cmpValue (FP.dcmp (Jvm.FP.Core.own_me (own_mn la lb) (mg.toInt64)) (Jvm.FP.Core.own_me (own_mx la lb) (mg.toInt64))) .g) := own_cmpg (own_mo bm.1 bm.2)
    refine own_go (b := T23.setTop (mkF m 154 #[iv kw, iv cw, .val (.long la), .second, .val (.long lb), .second, .val (.long lv), .second, .val (.long lp), .second, iv kk, iv mg, iv cI, .val (.long (((cI.toInt64) * (kk.toInt64)) * (500 : Int64))), .second, rv b13, iv 1, .val (.long (own_mn la lb)), .second, .val (.long (own_mx la lb)), .second, rv b18, rv b20, .unset] [(.int (cmpValue (FP.dcmp (Jvm.FP.Core.own_me (own_mn la lb) (mg.toInt64)) (Jvm.FP.Core.own_me (own_mx la lb) (mg.toInt64))) .g))])) (fun t k => XS.dcmpS X23.here hx rfl (hb hby at_153) rfl rfl k) ?_
    refine own_go (b := T23.setTop (mkF m 157 #[iv kw, iv cw, .val (.long la), .second, .val (.long lb), .second, .val (.long lv), .second, .val (.long lp), .second, iv kk, iv mg, iv cI, .val (.long (((cI.toInt64) * (kk.toInt64)) * (500 : Int64))), .second, rv b13, iv 1, .val (.long (own_mn la lb)), .second, .val (.long (own_mx la lb)), .second, rv b18, rv b20, .unset] [])) (fun t k => XS.ifNo X23.here hx rfl (hb hby at_154) rfl ((if0 _ _).trans (flt hg).2.2.1) k) ?_
    refine own_go (b := T23.setTop (mkF m 158 #[iv kw, iv cw, .val (.long la), .second, .val (.long lb), .second, .val (.long lv), .second, .val (.long lp), .second, iv kk, iv mg, iv cI, .val (.long (((cI.toInt64) * (kk.toInt64)) * (500 : Int64))), .second, rv b13, iv 1, .val (.long (own_mn la lb)), .second, .val (.long (own_mx la lb)), .second, rv b18, rv b20, .unset] [(.int 1)])) (fun t k => XS.iconst X23.here hx rfl (hb hby at_157) k) ?_
    refine own_go (b := T23.setTop (mkF m 162 #[iv kw, iv cw, .val (.long la), .second, .val (.long lb), .second, .val (.long lv), .second, .val (.long lp), .second, iv kk, iv mg, iv cI, .val (.long (((cI.toInt64) * (kk.toInt64)) * (500 : Int64))), .second, rv b13, iv 1, .val (.long (own_mn la lb)), .second, .val (.long (own_mx la lb)), .second, rv b18, rv b20, .unset] [(.int 1)])) (fun t k => XS.goto X23.here hx rfl (pc0 := 158) (pc' := 162) rfl (hb hby at_158) (by decide) (by decide) k) ?_
    refine own_go (b := T23.setTop (mkF m 164 #[iv kw, iv cw, .val (.long la), .second, .val (.long lb), .second, .val (.long lv), .second, .val (.long lp), .second, iv kk, iv mg, iv cI, .val (.long (((cI.toInt64) * (kk.toInt64)) * (500 : Int64))), .second, rv b13, iv 1, .val (.long (own_mn la lb)), .second, .val (.long (own_mx la lb)), .second, rv b18, rv b20, iv 1] [])) (fun t k => XS.istore X23.here hx rfl (hb hby at_162) rfl (l' := #[iv kw, iv cw, .val (.long la), .second, .val (.long lb), .second, .val (.long lv), .second, .val (.long lp), .second, iv kk, iv mg, iv cI, .val (.long (((cI.toInt64) * (kk.toInt64)) * (500 : Int64))), .second, rv b13, iv 1, .val (.long (own_mn la lb)), .second, .val (.long (own_mx la lb)), .second, rv b18, rv b20, iv 1]) rfl k) ?_
    refine own_go (b := T23.setTop (mkF m 166 #[iv kw, iv cw, .val (.long la), .second, .val (.long lb), .second, .val (.long lv), .second, .val (.long lp), .second, iv kk, iv mg, iv cI, .val (.long (((cI.toInt64) * (kk.toInt64)) * (500 : Int64))), .second, rv b13, iv 1, .val (.long (own_mn la lb)), .second, .val (.long (own_mx la lb)), .second, rv b18, rv b20, iv 1] [(.int 1)])) (fun t k => XS.iload X23.here hx rfl (hb hby at_164) rfl  k) ?_
    refine own_go (b := T23.setTop (mkF m 169 #[iv kw, iv cw, .val (.long la), .second, .val (.long lb), .second, .val (.long lv), .second, .val (.long lp), .second, iv kk, iv mg, iv cI, .val (.long (((cI.toInt64) * (kk.toInt64)) * (500 : Int64))), .second, rv b13, iv 1, .val (.long (own_mn la lb)), .second, .val (.long (own_mx la lb)), .second, rv b18, rv b20, iv 1] [])) (fun t k => XS.ifNo X23.here hx rfl (hb hby at_166) rfl ((if0 _ _).trans (feq (by decide : ¬ ((1 : Int32) = (0 : Int32)))).1) k) ?_
    refine own_go (b := T23.setTop (mkF m 171 #[iv kw, iv cw, .val (.long la), .second, .val (.long lb), .second, .val (.long lv), .second, .val (.long lp), .second, iv kk, iv mg, iv cI, .val (.long (((cI.toInt64) * (kk.toInt64)) * (500 : Int64))), .second, rv b13, iv 1, .val (.long (own_mn la lb)), .second, .val (.long (own_mx la lb)), .second, rv b18, rv b20, iv 1] [(.int 1)])) (fun t k => XS.iload X23.here hx rfl (hb hby at_169) rfl  k) ?_
    refine own_go (b := T23.setTop (mkF m 174 #[iv kw, iv cw, .val (.long la), .second, .val (.long lb), .second, .val (.long lv), .second, .val (.long lp), .second, iv kk, iv mg, iv cI, .val (.long (((cI.toInt64) * (kk.toInt64)) * (500 : Int64))), .second, rv b13, iv 1, .val (.long (own_mn la lb)), .second, .val (.long (own_mx la lb)), .second, rv b18, rv b20, iv 1] [])) (fun t k => XS.ifNo X23.here hx rfl (hb hby at_171) rfl ((if0 _ _).trans (feq (by decide : ¬ ((1 : Int32) = (0 : Int32)))).1) k) ?_
    refine own_go (b := T23.setTop (mkF m 175 #[iv kw, iv cw, .val (.long la), .second, .val (.long lb), .second, .val (.long lv), .second, .val (.long lp), .second, iv kk, iv mg, iv cI, .val (.long (((cI.toInt64) * (kk.toInt64)) * (500 : Int64))), .second, rv b13, iv 1, .val (.long (own_mn la lb)), .second, .val (.long (own_mx la lb)), .second, rv b18, rv b20, iv 1] [(.int 1)])) (fun t k => XS.iconst X23.here hx rfl (hb hby at_174) k) ?_
    refine own_go (b := T23.setTop (mkF m 179 #[iv kw, iv cw, .val (.long la), .second, .val (.long lb), .second, .val (.long lv), .second, .val (.long lp), .second, iv kk, iv mg, iv cI, .val (.long (((cI.toInt64) * (kk.toInt64)) * (500 : Int64))), .second, rv b13, iv 1, .val (.long (own_mn la lb)), .second, .val (.long (own_mx la lb)), .second, rv b18, rv b20, iv 1] [(.int 1)])) (fun t k => XS.goto X23.here hx rfl (pc0 := 175) (pc' := 179) rfl (hb hby at_175) (by decide) (by decide) k) ?_
    exact own_retN X23 hx hlk (t := .boolean) hrt (by simp) (hb hby at_179) (Nat.le_of_ble_eq_true rfl) (Nat.le_of_ble_eq_true rfl) (⟨rfl, N23⟩)
set_option maxRecDepth 65536 in
set_option maxHeartbeats 40000000 in
theorem comes_1 {Post : Tables → Env → Array Value → State → Outcome → State → Prop} (hpost : ∀ tb e args s v u, (limb_1_1.after args s (.returned v) u = true ∧ limb_1_2.after args s (.returned v) u = true ∧ True) → FrameEnd s (.returned v) u (Jvm.fieldLocs frame_1_writes args s ++ Jvm.arrayLocs frame_1_arrays args s ++ Jvm.staticLocs frame_1_statics s) 16 128 → Post tb e args s (.returned v) u) :
    ArmFor flags0 classFile x code maxLocals ret World_1 tables_1 room_1 Calls_1 rest_1 Pre_1 Post := by
  intro l hfl _ _ p e ha hc hk s m args below hf hA hF happ hP
  obtain ⟨hcalls, hrest, hpre⟩ := hP
  obtain ⟨-, -, -, hnamed, -, -, -, hat⟩ := (Spec.applies_iff hf).mp happ
  obtain ⟨hg, hn⟩ := and_e (Cond.before_iff.mp (show (Jvm.Cond.and given_1 narrow_1).before args s = true from hpre))
  obtain ⟨g1, g2⟩ := and_e hg
  obtain ⟨g3, g4⟩ := and_e g2
  obtain ⟨g5, g6⟩ := and_e g4
  obtain ⟨g7, g8⟩ := and_e g6
  obtain ⟨g9, g10⟩ := and_e g8
  obtain ⟨g11, g12⟩ := and_e g10
  obtain ⟨w0, w1, w2, w3, w4, w5, rfl⟩ : ∃ w0 w1 w2 w3 w4 w5 : Value, args = #[w0, w1, w2, w3, w4, w5] := by
    have hs : args.size = 6 := by simpa [Cond.value, given_1] using g1
    obtain ⟨L⟩ := args
    match L, hs with
    | [w0, w1, w2, w3, w4, w5], _ => exact ⟨w0, w1, w2, w3, w4, w5, rfl⟩
  have hw := fun d (hd : d ∈ tables_1) => atoms_spec (ws := Jvm.Cond.code x code maxLocals ret :: tables_1) hat d (List.mem_cons_of_mem _ hd)
  have hfit : Fit s := fun {y c} hc i hi => by
    obtain ⟨ha, rfl⟩ := Array.getElem?_eq_some_iff.mp hc
    have q := List.all_eq_true.mp ((Array.all_eq_true_iff_forall_mem.mp hF) _ (Array.getElem_mem ha)) i (List.mem_range.mpr hi)
    simpa [Array.getElem?_eq_getElem hi] using q
  obtain ⟨i0, ei0⟩ := is_v g3
  obtain rfl : w0 = (.int i0) := Option.some.inj ei0
  obtain ⟨i1, ei1⟩ := is_v g5
  obtain rfl : w1 = (.int i1) := Option.some.inj ei1
  obtain ⟨i2, ei2⟩ := isL_v g7
  obtain rfl : w2 = (.long i2) := Option.some.inj ei2
  obtain ⟨i3, ei3⟩ := isL_v g9
  obtain rfl : w3 = (.long i3) := Option.some.inj ei3
  obtain ⟨i4, ei4⟩ := isL_v g11
  obtain rfl : w4 = (.long i4) := Option.some.inj ei4
  obtain ⟨i5, ei5⟩ := isL_v g12
  obtain rfl : w5 = (.long i5) := Option.some.inj ei5
  obtain ⟨n, o, h1, h2, h3, _, L, rfl, ⟨rfl, N⟩, hq⟩ := rm0 l s _ hw tables_1 i0 i1 i2 i3 i4 i5  s.heap s.heap.size (Nat.le_refl _)  p e ha hc hk s m _ below hf ((Spec.applies_iff_loose hf).mp happ).1 ⟨rfl, State.Warmed39.refl s, rfl⟩ trivial
  refine ⟨n, _, h1, h2, h3, hpost _ _ _ _ _ _ ⟨Cond.after_iff.mpr rfl, Cond.after_iff.mpr (eq_i res_at (Term.int_eval (1)) rfl), trivial⟩ ⟨hq.1, hq.2.1, (hq.2.2.sift fun y hy => Or.inr (N y hy)).mono (by decide) (by decide)⟩⟩
theorem main_1_1 : Claimed_1_1 := comes_1 fun _ _ _ _ _ _ h hF => ⟨h.1, hF⟩
theorem main_1_2 : Claimed_1_2 := comes_1 fun _ _ _ _ _ _ h hF => ⟨h.2.1, hF⟩
end Jvm.Pilot.@@N@@
namespace Jvm.Pilot.@@N@@
open Jvm Jvm.ClassFile Sem Op Lib Jvm.Free Jvm.Stand Jvm.Pilot.@@N@@.Jvm.D
/-! MADE BY PROGRAM (witnessworld.py) out of the Statement's table words and the real class files: 10 classes; the members and pool entries that the words name. The judged class is class 1, her method 1. -/
namespace start1
open Jvm.ClassFile
def u (s : String) : CpInfo := .utf8 (stringToUtf16 s)
/-- a pool by its gaps: so many unusable entries, then the entry; so many at the end -/
def gap : Nat → List CpInfo → List CpInfo
  | 0, r => r
  | n + 1, r => .unusable :: gap n r
def poolList (es : List (Nat × CpInfo)) (last : Nat) : List CpInfo := es.foldr (fun e r => gap e.1 (e.2 :: r)) (gap last [])
def pool (es : List (Nat × CpInfo)) (last : Nat) : Array CpInfo := ⟨poolList es last⟩
def fileOf (pool : Array CpInfo) (this : Nat) (attrs : Array Attribute := #[]) (ms : Array MethodInfo := #[]) (fl : Nat := 33) (sup : Nat := 0) (ifs : Array Nat := #[]) (fds : Array FieldInfo := #[]) : ClassFile where
  minorVersion := 0
  majorVersion := 65
  constantPool := pool
  accessFlags := fl
  thisClass := this
  superClass := sup
  interfaces := ifs
  fields := fds
  methods := ms
  attributes := attrs
def plain (name : String) (sup : Option ClassId) : Class where
  name := name
  kind := .ordinary
  loader := none
  accessFlags := 33
  super := sup
  interfaces := #[]
  cf := none
  fields := #[]
  methods := #[]
  instanceTypes := #[]
  staticTypes := #[]
  resolved := #[]
  callSites := []
  init := .initialized
  statics := none
  mirror := none

def pool0 : Array CpInfo := pool [(5, u "<init>"), (0, u "()V"), (1, .class_ 10), (1, u "java/lang/Object")] 113

def k0c0 : Code := { maxStack := 0, maxLocals := 1, code := object_method_1_code, exceptionTable := #[], attributes := #[] }
def k0m0 : Method := { name := "<init>", desc := "()V", sig := { parameters := [], returnType := none }, accessFlags := 1, code := some k0c0 }
/-- java/lang/Object -/
def k0 : Class := { plain "java/lang/Object" none with
  accessFlags := 33
  interfaces := #[]
  cf := some (fileOf pool0 8 #[] #[{ accessFlags := 1, nameIndex := 5, descriptorIndex := 6, attributes := #[] }] 33 0 #[] #[])
  fields := #[]
  methods := #[k0m0]
  instanceTypes := #[]
  staticTypes := #[]
  resolved := Array.replicate 124 none
  statics := none }

def pool1 : Array CpInfo := pool [(2, .class_ 4), (1, u "java/lang/Object"), (0, u "<init>"), (0, u "()V"), (0, .integer 1048576), (0, .long 500), (1, .class_ 11), (0, u "com/example/vertumnus/vertumnus/cost/Round"), (0, .methodref 10 13), (0, .nameAndType 5 14), (0, u "(JJJJJ)V"), (0, .methodref 10 16), (0, .nameAndType 17 18), (0, u "microsEach"), (0, u "()D"), (0, .double 4611686018427387904), (1, .methodref 22 23), (0, .class_ 24), (0, .nameAndType 25 26), (0, u "java/lang/Math"), (0, u "min"), (0, u "(JJ)J"), (0, .methodref 22 28), (0, .nameAndType 29 26), (0, u "max"), (0, .class_ 31), (0, u "com/example/vertumnus/vertumnus/cost/RoundMicrosEachPinLaw"), (2, u "law"), (0, u "(IIJJJJ)Z")] 3

def k1m0 : Method := { name := "<init>", desc := "()V", sig := { parameters := [], returnType := none }, accessFlags := 1, code := none }
def k1c1 : Code := { maxStack := 12, maxLocals := 24, code := code, exceptionTable := #[], attributes := #[] }
def k1m1 : Method := { name := "law", desc := "(IIJJJJ)Z", sig := { parameters := [.int, .int, .long, .long, .long, .long], returnType := some .boolean }, accessFlags := 9, code := some k1c1 }
/-- com/example/vertumnus/vertumnus/cost/RoundMicrosEachPinLaw -/
def k1 : Class := { plain "com/example/vertumnus/vertumnus/cost/RoundMicrosEachPinLaw" (some 0) with
  accessFlags := 49
  interfaces := #[]
  cf := some (fileOf pool1 30 #[] #[{ accessFlags := 1, nameIndex := 5, descriptorIndex := 6, attributes := #[] }, { accessFlags := 9, nameIndex := 34, descriptorIndex := 35, attributes := #[] }] 49 2 #[] #[])
  fields := #[]
  methods := #[k1m0, k1m1]
  instanceTypes := #[]
  staticTypes := #[]
  resolved := Array.replicate 39 none
  statics := none }

def pool2 : Array CpInfo := pool [(1, .methodref 2 3), (0, .class_ 4), (0, .nameAndType 5 6), (0, u "java/lang/Object"), (0, u "<init>"), (0, u "()V"), (0, .fieldref 8 9), (0, .class_ 10), (0, .nameAndType 11 12), (0, u "com/example/vertumnus/vertumnus/cost/Round"), (0, u "count"), (0, u "J"), (0, .fieldref 8 14), (0, .nameAndType 15 12), (0, u "nanos"), (0, .fieldref 8 17), (0, .nameAndType 18 12), (0, u "verifyNanos"), (0, .fieldref 8 20), (0, .nameAndType 21 12), (0, u "peakBytes"), (0, .fieldref 8 23), (0, .nameAndType 24 12), (0, u "retainedBytes"), (11, u "(JJJJJ)V"), (51, .double 4652007308841189376), (5, u "COUNT"), (0, u "Ljava/lang/String;"), (1, u "NANOS"), (0, u "VERIFY_NANOS"), (0, u "PEAK_BYTES"), (0, u "RETAINED_BYTES"), (8, u "microsEach"), (0, u "()D")] 24

def k2c0 : Code := { maxStack := 3, maxLocals := 11, code := prog_29_method_1_code, exceptionTable := #[], attributes := #[] }
def k2m0 : Method := { name := "<init>", desc := "(JJJJJ)V", sig := { parameters := [.long, .long, .long, .long, .long], returnType := none }, accessFlags := 0, code := some k2c0 }
def k2c1 : Code := { maxStack := 4, maxLocals := 1, code := prog_29_method_6_code, exceptionTable := #[], attributes := #[] }
def k2m1 : Method := { name := "microsEach", desc := "()D", sig := { parameters := [], returnType := some .double }, accessFlags := 0, code := some k2c1 }
/-- com/example/vertumnus/vertumnus/cost/Round -/
def k2 : Class := { plain "com/example/vertumnus/vertumnus/cost/Round" (some 0) with
  accessFlags := 32
  interfaces := #[]
  cf := some (fileOf pool2 8 #[] #[{ accessFlags := 0, nameIndex := 5, descriptorIndex := 36, attributes := #[] }, { accessFlags := 0, nameIndex := 109, descriptorIndex := 110, attributes := #[] }] 32 2 #[] #[{ accessFlags := 26, nameIndex := 94, descriptorIndex := 95, attributes := #[] }, { accessFlags := 26, nameIndex := 97, descriptorIndex := 95, attributes := #[] }, { accessFlags := 26, nameIndex := 98, descriptorIndex := 95, attributes := #[] }, { accessFlags := 26, nameIndex := 99, descriptorIndex := 95, attributes := #[] }, { accessFlags := 26, nameIndex := 100, descriptorIndex := 95, attributes := #[] }, { accessFlags := 18, nameIndex := 11, descriptorIndex := 12, attributes := #[] }, { accessFlags := 18, nameIndex := 15, descriptorIndex := 12, attributes := #[] }, { accessFlags := 18, nameIndex := 18, descriptorIndex := 12, attributes := #[] }, { accessFlags := 18, nameIndex := 21, descriptorIndex := 12, attributes := #[] }, { accessFlags := 18, nameIndex := 24, descriptorIndex := 12, attributes := #[] }])
  fields := #[{ name := "COUNT", type := (.object "java/lang/String"), accessFlags := 26, slot := 0, constantValue := 0 }, { name := "NANOS", type := (.object "java/lang/String"), accessFlags := 26, slot := 1, constantValue := 0 }, { name := "VERIFY_NANOS", type := (.object "java/lang/String"), accessFlags := 26, slot := 2, constantValue := 0 }, { name := "PEAK_BYTES", type := (.object "java/lang/String"), accessFlags := 26, slot := 3, constantValue := 0 }, { name := "RETAINED_BYTES", type := (.object "java/lang/String"), accessFlags := 26, slot := 4, constantValue := 0 }, { name := "count", type := .long, accessFlags := 18, slot := 0, constantValue := 0 }, { name := "nanos", type := .long, accessFlags := 18, slot := 1, constantValue := 0 }, { name := "verifyNanos", type := .long, accessFlags := 18, slot := 2, constantValue := 0 }, { name := "peakBytes", type := .long, accessFlags := 18, slot := 3, constantValue := 0 }, { name := "retainedBytes", type := .long, accessFlags := 18, slot := 4, constantValue := 0 }]
  methods := #[k2m0, k2m1]
  instanceTypes := #[.long, .long, .long, .long, .long]
  staticTypes := #[(.object "java/lang/String"), (.object "java/lang/String"), (.object "java/lang/String"), (.object "java/lang/String"), (.object "java/lang/String")]
  resolved := Array.replicate 135 none
  statics := none }

def pool3 : Array CpInfo := pool [(1, .class_ 2), (0, u "java/lang/Math"), (1, .class_ 6), (1, u "java/lang/Object"), (0, u "<init>"), (0, u "()V"), (89, .class_ 100), (1, u "java/lang/Math$RandomNumberGeneratorHolder"), (20, u "(JJ)J"), (50, u "negativeZeroFloatBits"), (0, u "J"), (2, u "negativeZeroDoubleBits"), (21, u "max"), (2, u "min"), (43, u "$assertionsDisabled"), (0, u "Z"), (91, u "twoToTheDoubleScaleDown"), (0, u "D"), (4, u "twoToTheDoubleScaleUp"), (9, u "E"), (3, u "PI"), (2, u "TAU"), (2, u "DEGREES_TO_RADIANS"), (0, u "RADIANS_TO_DEGREES")] 94

def k3m0 : Method := { name := "<init>", desc := "()V", sig := { parameters := [], returnType := none }, accessFlags := 2, code := none }
def k3c1 : Code := { maxStack := 4, maxLocals := 4, code := jdk_29_method_66_code, exceptionTable := #[], attributes := #[] }
def k3m1 : Method := { name := "max", desc := "(JJ)J", sig := { parameters := [.long, .long], returnType := some .long }, accessFlags := 9, code := some k3c1 }
def k3c2 : Code := { maxStack := 4, maxLocals := 4, code := jdk_29_method_70_code, exceptionTable := #[], attributes := #[] }
def k3m2 : Method := { name := "min", desc := "(JJ)J", sig := { parameters := [.long, .long], returnType := some .long }, accessFlags := 9, code := some k3c2 }
/-- java/lang/Math -/
def k3 : Class := { plain "java/lang/Math" (some 0) with
  accessFlags := 49
  interfaces := #[]
  cf := some (fileOf pool3 1 #[.nestMembers #[98]] #[{ accessFlags := 2, nameIndex := 7, descriptorIndex := 8, attributes := #[] }, { accessFlags := 9, nameIndex := 198, descriptorIndex := 121, attributes := #[] }, { accessFlags := 9, nameIndex := 201, descriptorIndex := 121, attributes := #[] }] 49 4 #[] #[{ accessFlags := 25, nameIndex := 354, descriptorIndex := 339, attributes := #[] }, { accessFlags := 25, nameIndex := 358, descriptorIndex := 339, attributes := #[] }, { accessFlags := 25, nameIndex := 361, descriptorIndex := 339, attributes := #[] }, { accessFlags := 26, nameIndex := 364, descriptorIndex := 339, attributes := #[] }, { accessFlags := 26, nameIndex := 365, descriptorIndex := 339, attributes := #[] }, { accessFlags := 26, nameIndex := 172, descriptorIndex := 173, attributes := #[] }, { accessFlags := 26, nameIndex := 176, descriptorIndex := 173, attributes := #[] }, { accessFlags := 8, nameIndex := 344, descriptorIndex := 339, attributes := #[] }, { accessFlags := 8, nameIndex := 338, descriptorIndex := 339, attributes := #[] }, { accessFlags := 4120, nameIndex := 245, descriptorIndex := 246, attributes := #[] }])
  fields := #[{ name := "E", type := .double, accessFlags := 25, slot := 0, constantValue := 0 }, { name := "PI", type := .double, accessFlags := 25, slot := 1, constantValue := 0 }, { name := "TAU", type := .double, accessFlags := 25, slot := 2, constantValue := 0 }, { name := "DEGREES_TO_RADIANS", type := .double, accessFlags := 26, slot := 3, constantValue := 0 }, { name := "RADIANS_TO_DEGREES", type := .double, accessFlags := 26, slot := 4, constantValue := 0 }, { name := "negativeZeroFloatBits", type := .long, accessFlags := 26, slot := 5, constantValue := 0 }, { name := "negativeZeroDoubleBits", type := .long, accessFlags := 26, slot := 6, constantValue := 0 }, { name := "twoToTheDoubleScaleUp", type := .double, accessFlags := 8, slot := 7, constantValue := 0 }, { name := "twoToTheDoubleScaleDown", type := .double, accessFlags := 8, slot := 8, constantValue := 0 }, { name := "$assertionsDisabled", type := .boolean, accessFlags := 4120, slot := 9, constantValue := 0 }]
  methods := #[k3m0, k3m1, k3m2]
  instanceTypes := #[]
  staticTypes := #[.double, .double, .double, .double, .double, .long, .long, .double, .double, .boolean]
  resolved := Array.replicate 460 none
  statics := none }

def pool4 : Array CpInfo := pool [(1, u "java/lang/Cloneable"), (0, .class_ 1), (0, u "java/lang/Object"), (0, .class_ 3)] 3

/-- java/lang/Cloneable -/
def k4 : Class := { plain "java/lang/Cloneable" (some 0) with
  accessFlags := 1537
  interfaces := #[]
  cf := some (fileOf pool4 2 #[] #[] 1537 4 #[] #[])
  fields := #[]
  methods := #[]
  instanceTypes := #[]
  staticTypes := #[]
  resolved := Array.replicate 8 none
  statics := none }

def pool5 : Array CpInfo := pool [(1, u "java/io/Serializable"), (0, .class_ 1), (0, u "java/lang/Object"), (0, .class_ 3)] 3

/-- java/io/Serializable -/
def k5 : Class := { plain "java/io/Serializable" (some 0) with
  accessFlags := 1537
  interfaces := #[]
  cf := some (fileOf pool5 2 #[] #[] 1537 4 #[] #[])
  fields := #[]
  methods := #[]
  instanceTypes := #[]
  staticTypes := #[]
  resolved := Array.replicate 8 none
  statics := none }

/-- the primitive byte -/
def k6 : Class := { plain "byte" none with kind := .primitive 'B', accessFlags := 0x411 }
/-- [B -/
def k7 : Class := { plain "[B" (some 0) with kind := .array 6 .byte, interfaces := #[4, 5], accessFlags := 1041 }

/-- the primitive int -/
def k8 : Class := { plain "int" none with kind := .primitive 'I', accessFlags := 0x411 }
/-- [I -/
def k9 : Class := { plain "[I" (some 0) with kind := .array 8 .int, interfaces := #[4, 5], accessFlags := 1041 }

def heap : Heap := #[]
def classes : Array Class := #[k0, k1, k2, k3, k4, k5, k6, k7, k8, k9]
def interned : List (Array UInt16 × Addr) := []
def slotsUsed : Nat := 0
def theMethod : MethodId := ⟨1, 1⟩
def args0 : Array Value := #[.int 5, .int 3, .long 7, .long 9, .long 1, .long 2]
def aboutOver (below : List Frame) : State where
  vm := { classes := classes, interned := interned.toArray }
  heap := heap
  slotsUsed := slotsUsed
  threads := #[{ frames := .invoking theMethod args0 :: below }]
def below0 : List Frame := [.native { method := ⟨0, 0⟩, args := #[] }]
def about1 : State := aboutOver below0
def p0 : Program := .bare "" "" ""
def e0 : Env := launch0.env 0 0 0
theorem w_frames : about1.frames = Frame.invoking theMethod args0 :: below0 := rfl
set_option maxRecDepth 65536 in
theorem w_args : argsFit about1.vm theMethod args0 = true := by decide +kernel
set_option maxRecDepth 65536 in
theorem w_heap : heapFits about1 = true := by decide +kernel
set_option maxRecDepth 65536 in
theorem w_runnable : about1.curStatus? = some .runnable := by decide +kernel
set_option maxRecDepth 65536 in
theorem w_alone : about1.alone = true := by decide +kernel
set_option maxRecDepth 65536 in
theorem w_named : about1.methodNamed? x = some theMethod := by decide +kernel
set_option maxRecDepth 65536 in
theorem w_hears : about1.hears theMethod below0 = true := by decide +kernel
set_option maxRecDepth 65536 in
theorem w_ripe : about1.ripe theMethod args0 below0 = true := by decide +kernel
theorem w_running : about1.status = .running := rfl
set_option maxRecDepth 65536 in
theorem w_room : about1.hasRoom e0.platform room_1 = true :=
  launch0.hasRoom_least _ room_1 (by decide +kernel) (by decide +kernel) (by decide +kernel) (by decide +kernel) (by decide +kernel) (by decide +kernel)
theorem allAtoms_all (ts : List Jvm.Cond) (a : Array Jvm.Value) (st : Jvm.State) : (allAtoms ts).before a st = ts.all (fun c => c.before a st) := by
  induction ts with
  | nil => rfl
  | cons c t ih =>
    show (Jvm.Cond.and c (allAtoms t)).before a st = _
    rw [Jvm.Cond.before_and, ih, List.all_cons]
def words1 : List Jvm.Cond := Jvm.Cond.code x code maxLocals ret :: tables_1
/-- a 'code' word, met by the world's own term for the bytes: nothing is compared byte by byte -/
theorem code_word {y : MethodName} {bytes : ByteArray} {mx : Nat} {rt : Option FieldType} {a : Array Value} {s : State} {m : MethodId} {meth : Method} {c : Code} (h1 : s.methodNamed? y = some m) (h2 : s.vm.method? m = some meth) (h3 : meth.code = some c) (h4 : c.code = bytes)
    (h5 : (c.maxLocals == mx && c.exceptionTable.isEmpty && decide (c.maxStack ≤ mostOperands) && decide (meth.sig.returnType = rt) && !meth.locks && decide (parseMethodDescriptor y.desc = some meth.sig)) = true) : (Jvm.Cond.code y bytes mx rt).before a s = true := by
  simp only [Bool.and_eq_true, beq_iff_eq, Bool.not_eq_true', decide_eq_true_eq] at h5
  obtain ⟨⟨⟨⟨⟨g1, g2⟩, g3⟩, g4⟩, g5⟩, g6⟩ := h5
  simp [Cond.before, Cond.holds, Cond.value, h1, h2, h3, h4, g1, g2, g3, g4, g5, g6]
def isCode : Jvm.Cond → Bool
  | .code _ _ _ _ => true
  | _ => false
theorem all_split {L : List Jvm.Cond} {P : Jvm.Cond → Bool} (h1 : L.all (fun c => isCode c || P c) = true) (h2 : ∀ c ∈ L.filter isCode, P c = true) : L.all P = true := by
  refine List.all_eq_true.mpr fun c hc => ?_
  have h := List.all_eq_true.mp h1 c hc
  rcases Bool.eq_false_or_eq_true (isCode c) with hi | hi
  · exact h2 c (List.mem_filter.mpr ⟨hc, hi⟩)
  · simpa [hi] using h
set_option maxRecDepth 65536 in
theorem w_c0 : (Jvm.Cond.code x code maxLocals ret).before args0 about1 = true := code_word (m := ⟨1, 1⟩) (meth := k1m1) (c := k1c1) (by decide +kernel) rfl rfl rfl (by decide +kernel)
set_option maxRecDepth 65536 in
theorem w_c1 : (Jvm.Cond.code ({ cls := "com/example/vertumnus/vertumnus/cost/Round", name := "<init>", desc := "(JJJJJ)V" } : Jvm.MethodName) prog_29_method_1_code (11 : Nat) (Option.none : Option Jvm.ClassFile.FieldType)).before args0 about1 = true := code_word (m := ⟨2, 0⟩) (meth := k2m0) (c := k2c0) (by decide +kernel) rfl rfl rfl (by decide +kernel)
set_option maxRecDepth 65536 in
theorem w_c2 : (Jvm.Cond.code ({ cls := "java/lang/Object", name := "<init>", desc := "()V" } : Jvm.MethodName) object_method_1_code (1 : Nat) (Option.none : Option Jvm.ClassFile.FieldType)).before args0 about1 = true := code_word (m := ⟨0, 0⟩) (meth := k0m0) (c := k0c0) (by decide +kernel) rfl rfl rfl (by decide +kernel)
set_option maxRecDepth 65536 in
theorem w_c3 : (Jvm.Cond.code ({ cls := "com/example/vertumnus/vertumnus/cost/Round", name := "microsEach", desc := "()D" } : Jvm.MethodName) prog_29_method_6_code (1 : Nat) (Option.some Jvm.ClassFile.FieldType.double)).before args0 about1 = true := code_word (m := ⟨2, 1⟩) (meth := k2m1) (c := k2c1) (by decide +kernel) rfl rfl rfl (by decide +kernel)
set_option maxRecDepth 65536 in
theorem w_c4 : (Jvm.Cond.code ({ cls := "java/lang/Math", name := "min", desc := "(JJ)J" } : Jvm.MethodName) jdk_29_method_70_code (4 : Nat) (Option.some Jvm.ClassFile.FieldType.long)).before args0 about1 = true := code_word (m := ⟨3, 2⟩) (meth := k3m2) (c := k3c2) (by decide +kernel) rfl rfl rfl (by decide +kernel)
set_option maxRecDepth 65536 in
theorem w_c5 : (Jvm.Cond.code ({ cls := "java/lang/Math", name := "max", desc := "(JJ)J" } : Jvm.MethodName) jdk_29_method_66_code (4 : Nat) (Option.some Jvm.ClassFile.FieldType.long)).before args0 about1 = true := code_word (m := ⟨3, 1⟩) (meth := k3m1) (c := k3c1) (by decide +kernel) rfl rfl rfl (by decide +kernel)
def codes1 : List Jvm.Cond := [Jvm.Cond.code x code maxLocals ret, Jvm.Cond.code ({ cls := "com/example/vertumnus/vertumnus/cost/Round", name := "<init>", desc := "(JJJJJ)V" } : Jvm.MethodName) prog_29_method_1_code (11 : Nat) (Option.none : Option Jvm.ClassFile.FieldType), Jvm.Cond.code ({ cls := "java/lang/Object", name := "<init>", desc := "()V" } : Jvm.MethodName) object_method_1_code (1 : Nat) (Option.none : Option Jvm.ClassFile.FieldType), Jvm.Cond.code ({ cls := "com/example/vertumnus/vertumnus/cost/Round", name := "microsEach", desc := "()D" } : Jvm.MethodName) prog_29_method_6_code (1 : Nat) (Option.some Jvm.ClassFile.FieldType.double), Jvm.Cond.code ({ cls := "java/lang/Math", name := "min", desc := "(JJ)J" } : Jvm.MethodName) jdk_29_method_70_code (4 : Nat) (Option.some Jvm.ClassFile.FieldType.long), Jvm.Cond.code ({ cls := "java/lang/Math", name := "max", desc := "(JJ)J" } : Jvm.MethodName) jdk_29_method_66_code (4 : Nat) (Option.some Jvm.ClassFile.FieldType.long)]
set_option maxRecDepth 65536 in
theorem codes_eq : words1.filter isCode = codes1 := rfl
theorem w_codes : ∀ c ∈ words1.filter isCode, c.before args0 about1 = true := by
  rw [codes_eq]
  intro c hc
  simp only [codes1, List.mem_cons, List.not_mem_nil, or_false] at hc
  rcases hc with rfl | rfl | rfl | rfl | rfl | rfl
  · exact w_c0
  · exact w_c1
  · exact w_c2
  · exact w_c3
  · exact w_c4
  · exact w_c5
set_option maxRecDepth 65536 in
theorem w_t1 : (words1.take 24).all (fun c => isCode c || c.before args0 about1) = true := by decide +kernel
set_option maxRecDepth 65536 in
theorem w_t2 : (words1.drop 24).all (fun c => isCode c || c.before args0 about1) = true := by decide +kernel
theorem w_tables : (allAtoms (Jvm.Cond.code x code maxLocals ret :: tables_1)).before args0 about1 = true := by
  rw [allAtoms_all]
  show words1.all (fun c => c.before args0 about1) = true
  refine all_split ?_ w_codes
  rw [← List.take_append_drop 24 words1, List.all_append, w_t1, w_t2]
  rfl
set_option maxRecDepth 65536 in
theorem w_case : (Jvm.Cond.and given_1 narrow_1).before args0 about1 = true := by decide +kernel
theorem w_applies : (headSpec (Jvm.Cond.code x code maxLocals ret :: tables_1) room_1).applies x e0.platform about1 = true :=
  (Spec.applies_iff w_frames).mpr ⟨w_running, w_runnable, w_alone, w_named, w_hears, w_ripe, w_room, w_tables⟩
theorem atStart : AtStart classFile x code maxLocals ret World_1 tables_1 room_1 Calls_1 rest_1 Pre_1 launch0 p0 e0 about1 theMethod args0 below0 :=
  ⟨lists_1, trivial, launch0.admits_env _ _ _, launch0.least_env, fairChoices_fair.cas, fairChoices_fair.clock, w_frames, w_args, w_heap, w_applies, trivial, trivial, w_case⟩
end start1
theorem witness_1 : WitnessClaimed_1 := ⟨start1.p0, start1.e0, start1.about1, start1.theMethod, start1.args0, start1.below0, start1.atStart⟩
end Jvm.Pilot.@@N@@
