import JvmDerived
import JvmDerived.Pilot.@@N@@Statement
import JvmDerived.Pilot.@@N@@Code
set_option linter.unusedVariables false
set_option linter.unusedSimpArgs false
namespace Jvm.RoadKit
open Sem ClassFile Op Lib Jvm.Stand Jvm.Free Jvm.LawKit
section New
variable {p : Program} {l : Launch} {e : Env} {R : Room} {s : State} {m : MethodId} {args : Array Value} {below : List Frame} {meth : Method} {c : Code} {T : State} {locs : List Loc} {cells slots : Nat}
theorem retI (X : Stand p l e R s m args below meth c T locs cells slots) (hx : p.tables.exec = Jvm.exec) {pc : Nat} {Ls : Array Slot} {z : Int32} {rest : List Value} (hret : meth.sig.returnType = some .int) (hd : decode c.code pc = .ok (.ireturn, 1)) {fs : List Frame}
    (hl : ∀ (f : JFrame) (acts : List Action), f.method = m → f.locked = none → f.entered = [] → (doReturn e (T.setTop f) acts (some (.int z))).1 = T.setFrames fs) : Steps p.tables e below (T.setTop (mkF m pc Ls (.int z :: rest))) (T.setFrames fs) := by
  have hm' : T.vm.method? m = some meth := X.method'
  have hn : narrow .int (.int z) = .int z := rfl
  show Steps p.tables e below (T.setTop { method := m, pc := pc, locals := Ls, stack := _ :: rest, locked := none }) _
  jvm_step X.here [X.here.top, hx, hd, hm', hret, hn]
  first | (intro acts; rw [hl _ acts rfl rfl rfl]) | rw [hl _ _ rfl rfl rfl]
  exact Steps.refl _
/-- from the state a the run ends, within its caller's frames, in an outcome of which P holds -/
def own_Endz (tb : Tables) (e : Env) (below : List Frame) (P : Outcome → State → Prop) (a : State) : Prop := ∃ s₂ o, Steps tb e below a s₂ ∧ s₂.status = .running ∧ Ended s₂ below o ∧ P o s₂
abbrev own_EndQ (s : State) (k n : Nat) (Q : Option Value → Heap → List Loc → Prop) : Outcome → State → Prop := fun o U' => ∃ v L, o = .returned v ∧ Q v U'.heap L ∧ FrameEnd s o U' L k n
theorem own_go {tb : Tables} {P : Outcome → State → Prop} {a b : State} (h : ∀ t, Steps tb e below b t → Steps tb e below a t) (k : own_Endz tb e below P b) : own_Endz tb e below P a := by
  obtain ⟨s2, o, h1, r⟩ := k
  exact ⟨s2, o, h _ h1, r⟩
theorem own_tr {tb : Tables} {P : Outcome → State → Prop} {a b : State} (h : Steps tb e below a b) (k : own_Endz tb e below P b) : own_Endz tb e below P a := by
  obtain ⟨s2, o, h1, r⟩ := k
  exact ⟨s2, o, h.trans h1, r⟩
theorem own_cast {tb : Tables} {P : Outcome → State → Prop} {g g' : JFrame} (q : g = g') (k : own_Endz tb e below P (T.setTop g')) : own_Endz tb e below P (T.setTop g) := q ▸ k
theorem own_retN (X : Stand p l e R s m args below meth c T locs cells slots) (hx : p.tables.exec = Jvm.exec) (hlk : meth.locks = false) {pc : Nat} {Ls : Array Slot} {z : Int32} {t : FieldType} {rest : List Value} (hret : meth.sig.returnType = some t) (ht : t = .boolean ∨ t = .byte ∨ t = .char ∨ t = .short)
    (hd : decode c.code pc = .ok (.ireturn, 1)) {k n : Nat} {Q : Option Value → Heap → List Loc → Prop} (hk : cells ≤ k) (hn : slots ≤ n) (q : Q (some (.int (nar t z))) T.heap locs) : own_Endz p.tables e below (own_EndQ s k n Q) (T.setTop (mkF m pc Ls (.int z :: rest))) := by
  obtain ⟨fs, hr, hrun, hended, hW, hsame⟩ := X.leave (v := some (.int (nar t z))) (fun h => by rw [hret] at h; cases h) hlk
  exact ⟨_, _, retN X hx hret ht hd hr, hrun, hended, _, _, rfl, q, ⟨_, rfl⟩, hW, hsame.mono hk hn⟩
theorem own_retI (X : Stand p l e R s m args below meth c T locs cells slots) (hx : p.tables.exec = Jvm.exec) (hlk : meth.locks = false) {pc : Nat} {Ls : Array Slot} {z : Int32} {rest : List Value} (hret : meth.sig.returnType = some .int)
    (hd : decode c.code pc = .ok (.ireturn, 1)) {k n : Nat} {Q : Option Value → Heap → List Loc → Prop} (hk : cells ≤ k) (hn : slots ≤ n) (q : Q (some (.int z)) T.heap locs) : own_Endz p.tables e below (own_EndQ s k n Q) (T.setTop (mkF m pc Ls (.int z :: rest))) := by
  obtain ⟨fs, hr, hrun, hended, hW, hsame⟩ := X.leave (v := some (.int z)) (fun h => by rw [hret] at h; cases h) hlk
  exact ⟨_, _, retI X hx hret hd hr, hrun, hended, _, _, rfl, q, ⟨_, rfl⟩, hW, hsame.mono hk hn⟩
theorem own_retA (X : Stand p l e R s m args below meth c T locs cells slots) (hx : p.tables.exec = Jvm.exec) (hlk : meth.locks = false) {pc : Nat} {Ls : Array Slot} {w : Value} {t : FieldType} {rest : List Value} (hret : meth.sig.returnType = some t) (ht : t.isReference = true) (hw : w.isRef = true)
    (hd : decode c.code pc = .ok (.areturn, 1)) {k n : Nat} {Q : Option Value → Heap → List Loc → Prop} (hk : cells ≤ k) (hn : slots ≤ n) (q : Q (some w) T.heap locs) : own_Endz p.tables e below (own_EndQ s k n Q) (T.setTop (mkF m pc Ls (w :: rest))) := by
  obtain ⟨fs, hr, hrun, hended, hW, hsame⟩ := X.leave (v := some w) (fun h => by rw [hret] at h; cases h) hlk
  have hnw : narrow t w = w := by cases t <;> first | (cases ht; done) | rfl
  exact ⟨_, _, retOut X hx hret hnw (Or.inr (Or.inr (Or.inr (Or.inr ⟨rfl, ht, hw⟩)))) hd hr, hrun, hended, _, _, rfl, q, ⟨_, rfl⟩, hW, hsame.mono hk hn⟩
theorem own_retV (X : Stand p l e R s m args below meth c T locs cells slots) (hx : p.tables.exec = Jvm.exec) (hlk : meth.locks = false) {pc : Nat} {Ls : Array Slot} (hret : meth.sig.returnType = none)
    (hd : decode c.code pc = .ok (.return_, 1)) {k n : Nat} {Q : Option Value → Heap → List Loc → Prop} (hk : cells ≤ k) (hn : slots ≤ n) (q : Q none T.heap locs) : own_Endz p.tables e below (own_EndQ s k n Q) (T.setTop (mkF m pc Ls [])) := by
  obtain ⟨fs, hr, hrun, hended, hW, hsame⟩ := X.leave (v := none) (fun _ => rfl) hlk
  exact ⟨_, _, X.returnOut hx hret hd hr, hrun, hended, _, _, rfl, q, ⟨_, rfl⟩, hW, hsame.mono hk hn⟩
theorem own_ev {t u : Term} {k : Int32} {args : Array Value} (h : (Cond.eq t (.int k)).value args s none s [] = some true) : t.eval args s none [] s = some (.int k) := by
  simp only [Cond.value, Term.eval] at h
  split at h <;> simp_all
theorem own_fld {t : Term} {C n d : String} {k : Int32} {x : Addr} {args : Array Value} (ht : t.eval args s none [] s = some (.ref x)) (h : (Cond.eq (.field t C n d) (.int k)).value args s none s [] = some true) : Fld s s.heap x C n d (.int k) :=
  Fld.start ((fld_at ht).symm.trans (own_ev (u := t) h))
theorem own_enum {Z : State} {h : Heap} {C f d : String} {ad : Nat → Addr} {n : Nat} (hn : n ≤ 2 ^ 31) (F : ∀ i, i < n → Fld Z h (ad i) C f d (.int i.toInt32)) (i j : Nat) (hi : i < n) (hj : j < n) : ad i = ad j ↔ i = j := by
  refine ⟨fun q => Classical.byContradiction fun ne => (F i hi).ne (F j hj) (fun v => ne ?_) q, fun q => q ▸ rfl⟩
  have q1 := congrArg Int32.toInt (Value.int.inj v)
  rw [len_toInt (by omega), len_toInt (by omega)] at q1
  omega
theorem own_cat {v : Value} (h : v.isRef = true) : v.category = 1 := by cases v <;> first | rfl | (cases h)
theorem own_evR {t u : Term} {a : Addr} {args : Array Value} (hu : u.eval args s none [] s = some (.ref a)) (h : (Cond.eq t u).value args s none s [] = some true) : t.eval args s none [] s = some (.ref a) := by
  simp only [Cond.value, hu] at h
  split at h <;> simp_all
theorem own_len {t : Term} {x : Addr} {cl : Cell} {k : Int32} {args : Array Value} (ht : t.eval args s none [] s = some (.ref x)) (hc : s.heap[x]? = some cl) (h : (Cond.eq (.length t) (.int k)).value args s none s [] = some true) : cl.slots.size.toInt32 = k ∧ cl.slots.size < 2 ^ 31 := by
  have e := own_ev (u := t) h
  obtain ⟨x', cl', e1, e2, e3⟩ := Term.length_spec e
  cases ht.symm.trans e1
  have e4 : cl' = cl := by
    simp only [State.arrayAt?, Option.bind_eq_bind, hc, Option.bind_some] at e2
    obtain ⟨k1, -, e2⟩ := Option.bind_eq_some_iff.mp e2
    split at e2
    · cases e2
    · split at e2
      · exact (Option.some.inj e2).symm
      · cases e2
  subst e4
  refine ⟨(Value.int.inj e3).symm, Classical.byContradiction fun hn => ?_⟩
  simp [Term.eval, ht, e2] at e
  exact hn e.1
theorem own_elem {t u : Term} {x a : Addr} {cl : Cell} {k : Int32} {args : Array Value} (ht : t.eval args s none [] s = some (.ref x)) (hc : s.heap[x]? = some cl) (hu : u.eval args s none [] s = some (.ref a)) (h : (Cond.eq (.elem t (.int k)) u).value args s none s [] = some true) : cl.slots[k.toNatClampNeg]? = some (.ref a) := by
  have e := own_evR hu h
  exact (elem_in e ht (Term.int_eval k) hc).2
theorem own_ite {α : Type} {P : α → Prop} {q : Prop} [Decidable q] {a b : α} (ha : P a) (hb : P b) : P (if q then a else b) := by split <;> assumption
theorem own_i {x y : Int32} (h : x ≠ y) : (Value.int x) ≠ .int y := fun q => h (Value.int.inj q)
end New
end Jvm.RoadKit
namespace Jvm.RoadKit
open Sem ClassFile Op Lib Jvm.Stand Jvm.Free Jvm.LawKit
theorem own_evi {s : State} {t u : Term} {k : Int32} {args : Array Value} {idx : List Nat} (hu : u.eval args s none idx s = some (.int k)) (h : (Cond.eq t u).value args s none s idx = some true) : t.eval args s none idx s = some (.int k) := by
  simp only [Cond.value, hu] at h
  split at h <;> simp_all
theorem own_nat32 {i : Nat} (h : i < 2 ^ 31) : i.toInt32.toNatClampNeg = i := by
  simp only [Int32.toNatClampNeg, len_toInt h]; rfl
theorem own_tab {s : State} {t u : Term} {args a0 : Array Value} {x : Addr} {n : Int32} {g : Nat → Int32} (ht : ∀ idx, t.eval args s none idx s = some (.ref x)) (hx : (Cond.exactly t "[B").value args s none s [] = some true) (hl : (Cond.eq (.length t) (.int n)).value args s none s [] = some true)
    (ha : (Cond.all t (.eq (.elem t (.index 0)) u)).value args s none s [] = some true) (hu : ∀ i, u.eval args s none [i] s = some (.int (g i))) (wa : (Cond.arrayClass .byte).before a0 s = true) : ∃ cl, Arr s s.heap x cl .byte ∧ cl.slots.size.toInt32 = n ∧ cl.slots.size < 2 ^ 31 ∧ ∀ i, i < cl.slots.size → cl.slots[i]? = some (.int (g i)) := by
  obtain ⟨cl, k, h1, h2, h3, h4, -⟩ := Exa.start (ht []) hx
  have e := own_evi (k := n) rfl hl
  obtain ⟨x', cl', e1, e2, e3⟩ := Term.length_spec e
  cases (ht []).symm.trans e1
  have e4 : cl' = cl ∧ cl.vm ≠ .unknown := by
    simp only [State.arrayAt?, Option.bind_eq_bind, h1, Option.bind_some] at e2
    obtain ⟨k1, -, e2⟩ := Option.bind_eq_some_iff.mp e2
    split at e2
    · cases e2
    · rename_i hq
      split at e2
      · exact ⟨(Option.some.inj e2).symm, fun q => hq (Or.inl q)⟩
      · cases e2
  obtain ⟨rfl, e5⟩ := e4
  obtain ⟨c, kc, comp, f1, f2, f3⟩ := Cond.arrayClass_spec wa
  have f1' : s.vm.findClass "[B" = some c := f1
  cases h2.symm.trans f1'
  have hA : Arr s s.heap x cl' .byte := ⟨h1, ⟨(fun k q => by rw [q] at h4; cases h4), kc, f2, comp, f3⟩, e5⟩
  have hsz : cl'.slots.size < 2 ^ 31 := Classical.byContradiction fun hn => by
    simp [Term.eval, ht, e2] at e
    exact hn e.1
  refine ⟨cl', hA, (Value.int.inj e3).symm, hsz, fun i hi => ?_⟩
  have w := Cond.all_elim (ht []) e2 ha i hi
  have v := own_evi (hu i) w
  have r := (elem_in v (ht [i]) (Term.index_eval _) h1).2
  rw [own_nat32 (by omega)] at r
  exact r
end Jvm.RoadKit
namespace Jvm.Pilot.@@N@@
open Jvm Jvm.ClassFile Sem Op Lib Jvm.Free Jvm.Stand Jvm.LawKit Jvm.RoadKit Bundle Jvm.Pilot.@@N@@.Jvm.D
def own_ng (a : Nat) : Int32 := -(a.toInt32)
def own_d (a : Nat) : Int32 := (48 + a % 10).toInt32
def own_digs (N : Nat) : Nat → List Int32
  | 0 => []
  | n + 1 => own_digs (N / 10) n ++ [own_d N]
def own_sz (x : Int32) : Int32 := if (-10 : Int32) < x then 1 else if (-100 : Int32) < x then 2 else if (-1000 : Int32) < x then 3 else if (-10000 : Int32) < x then 4 else if (-100000 : Int32) < x then 5 else if (-1000000 : Int32) < x then 6 else if (-10000000 : Int32) < x then 7 else if (-100000000 : Int32) < x then 8 else if (-1000000000 : Int32) < x then 9 else 10
def own_ln (N : Nat) : Nat := if N < 10 then 1 else if N < 100 then 2 else if N < 1000 then 3 else if N < 10000 then 4 else if N < 100000 then 5 else if N < 1000000 then 6 else if N < 10000000 then 7 else if N < 100000000 then 8 else if N < 1000000000 then 9 else 10
theorem own_ng_int {a : Nat} (h : a < 2147483648) : (own_ng a).toInt = -(a : Int) := by
  have h1 := c_ineg a.toInt32
  have h2 := len_toInt (n := a) (by omega)
  have h3 := rng32 (-(a.toInt32))
  unfold own_ng
  omega
theorem own_nn {N : Nat} (h : N < 2147483648) : ¬ (N.toInt32 < 0) := by
  rw [Int32.lt_iff_toInt_lt, len_toInt (by omega)]
  have e0 : (0 : Int32).toInt = 0 := by decide
  omega
theorem own_ng_div {a : Nat} (h : a < 2147483648) : own_ng a / 100 = own_ng (a / 10 / 10) := by
  rw [← Int32.toInt_inj, own_ng_int (by omega)]
  have h1 := own_ng_int h
  have h2 := c_idiv (own_ng a) 100 100 (by decide) (by decide)
  rcases Nat.eq_zero_or_pos a with rfl | hp
  · have := h2.1 (by omega); omega
  · have := h2.2 (by omega); omega
theorem own_ng_rem {a : Nat} (h : a < 2147483648) : own_ng (a / 10 / 10) * 100 - own_ng a = (a % 100).toInt32 := by
  rw [← Int32.toInt_inj, len_toInt (by omega)]
  have h1 := own_ng_int h
  have h2 := own_ng_int (a := a / 10 / 10) (by omega)
  have h3 := c_imul (own_ng (a / 10 / 10)) 100
  have h4 := c_isub (own_ng (a / 10 / 10) * 100) (own_ng a)
  have e1 : (100 : Int32).toInt = 100 := by decide
  rw [e1] at h3
  have h5 := rng32 (own_ng (a / 10 / 10) * 100 - own_ng a)
  have h6 : a / 10 / 10 = a / 100 := by omega
  rw [h6] at h2 h3 h4 h5 ⊢
  omega
theorem own_ng_neg (a : Nat) : -(own_ng a) = a.toInt32 := by unfold own_ng; exact Int32.neg_neg
theorem own_ng_gt {a : Nat} {k : Int32} {m : Nat} (h : a < 2147483648) (hk : k.toInt = -(m : Int)) (ha : a < m) : k < own_ng a := by
  rw [Int32.lt_iff_toInt_lt, own_ng_int h, hk]; omega
theorem own_ng_ngt {a : Nat} {k : Int32} {m : Nat} (h : a < 2147483648) (hk : k.toInt = -(m : Int)) (ha : m ≤ a) : ¬ k < own_ng a := by
  rw [Int32.lt_iff_toInt_lt, own_ng_int h, hk]; omega
theorem own_ng_lt {a : Nat} {k : Int32} {m : Nat} (h : a < 2147483648) (hk : k.toInt = -(m : Int)) (ha : m < a) : own_ng a < k := by
  rw [Int32.lt_iff_toInt_lt, own_ng_int h, hk]; omega
theorem own_ng_nlt {a : Nat} {k : Int32} {m : Nat} (h : a < 2147483648) (hk : k.toInt = -(m : Int)) (ha : a ≤ m) : ¬ own_ng a < k := by
  rw [Int32.lt_iff_toInt_lt, own_ng_int h, hk]; omega
theorem own_d_int (a : Nat) : (own_d a).toInt = 48 + (a % 10 : Nat) := by
  unfold own_d; rw [len_toInt (by omega)]; omega
theorem own_d_ones (a : Nat) : own_d (a % 100) = own_d a := by unfold own_d; congr 2; omega
theorem own_d_tens (a : Nat) : own_d (a % 100 / 10) = own_d (a / 10) := by unfold own_d; congr 2; omega
theorem own_nar (a : Nat) : nar .byte (own_d a) = own_d a := by
  rw [← Int32.toInt_inj]
  have h1 := own_d_int a
  have h2 := c_i2b (own_d a)
  show ((own_d a).toInt8.toInt32).toInt = _
  omega
theorem own_d_byte (a : Nat) : (own_d a).toInt8.toInt32 = own_d a := own_nar a
theorem own_d_range (a : Nat) : ¬ own_d a < 0 ∧ ¬ (255 : Int32) < own_d a := by
  have h1 := own_d_int a
  have e0 : (0 : Int32).toInt = 0 := by decide
  have e1 : (255 : Int32).toInt = 255 := by decide
  simp only [Int32.lt_iff_toInt_lt]
  omega
theorem own_digs_len (N n : Nat) : (own_digs N n).length = n := by
  induction n generalizing N with
  | zero => rfl
  | succ n ih => simp [own_digs, ih]
theorem own_digs_mem {N n : Nat} {c : Int32} (h : c ∈ own_digs N n) : ∃ a, c = own_d a := by
  induction n generalizing N with
  | zero => simp [own_digs] at h
  | succ n ih =>
    simp only [own_digs, List.mem_append, List.mem_singleton] at h
    rcases h with h | h
    · exact ih h
    · exact ⟨_, h⟩
theorem own_digs_at (N n k : Nat) (h : k < n) : (own_digs N n).getD (n - 1 - k) 0 = own_d (N / 10 ^ k) := by
  induction n generalizing N k with
  | zero => omega
  | succ n ih =>
    simp only [own_digs, List.getD_eq_getElem?_getD]
    rcases k with _ | k
    · rw [List.getElem?_append_right (by rw [own_digs_len]; omega), own_digs_len]
      simp
    · rw [List.getElem?_append_left (by rw [own_digs_len]; omega)]
      have := ih (N / 10) k (by omega)
      rw [List.getD_eq_getElem?_getD] at this
      rw [show n + 1 - 1 - (k + 1) = n - 1 - k from by omega, this, Nat.div_div_eq_div_mul, Nat.pow_succ, Nat.mul_comm]
theorem own_digs_lo (N n : Nat) : (own_digs N n).map (fun c => c.toInt8.toInt32) = own_digs N n := by
  induction n generalizing N with
  | zero => rfl
  | succ n ih => simp [own_digs, ih, own_d_byte]
theorem own_ln_le (N : Nat) : 1 ≤ own_ln N ∧ own_ln N ≤ 10 := by
  unfold own_ln
  repeat' split
  all_goals omega
theorem own_lens {N : Nat} (hN : N < 2147483648) : (own_sz (own_ng N) = 1 ∧ own_ln N = 1 ∧ 0 ≤ N ∧ N < 10) ∨ (own_sz (own_ng N) = 2 ∧ own_ln N = 2 ∧ 10 ≤ N ∧ N < 100) ∨ (own_sz (own_ng N) = 3 ∧ own_ln N = 3 ∧ 100 ≤ N ∧ N < 1000) ∨ (own_sz (own_ng N) = 4 ∧ own_ln N = 4 ∧ 1000 ≤ N ∧ N < 10000) ∨ (own_sz (own_ng N) = 5 ∧ own_ln N = 5 ∧ 10000 ≤ N ∧ N < 100000) ∨ (own_sz (own_ng N) = 6 ∧ own_ln N = 6 ∧ 100000 ≤ N ∧ N < 1000000) ∨ (own_sz (own_ng N) = 7 ∧ own_ln N = 7 ∧ 1000000 ≤ N ∧ N < 10000000) ∨ (own_sz (own_ng N) = 8 ∧ own_ln N = 8 ∧ 10000000 ≤ N ∧ N < 100000000) ∨ (own_sz (own_ng N) = 9 ∧ own_ln N = 9 ∧ 100000000 ≤ N ∧ N < 1000000000) ∨ (own_sz (own_ng N) = 10 ∧ own_ln N = 10 ∧ 1000000000 ≤ N ∧ N < 10000000000) := by
  have q : ∀ (k : Int32) (m : Nat), k.toInt = -(m : Int) → ((k < own_ng N) = (N < m)) := fun k m hk => by
    by_cases h : N < m
    · rw [eq_true h, eq_true (own_ng_gt hN hk h)]
    · rw [eq_false h, eq_false (own_ng_ngt hN hk (by omega))]
  unfold own_sz own_ln
  simp only [q (-10) 10 (by decide), q (-100) 100 (by decide), q (-1000) 1000 (by decide), q (-10000) 10000 (by decide), q (-100000) 100000 (by decide), q (-1000000) 1000000 (by decide), q (-10000000) 10000000 (by decide), q (-100000000) 100000000 (by decide), q (-1000000000) 1000000000 (by decide)]
  by_cases h1 : N < 10
  · simp [h1]
  by_cases h2 : N < 100
  · simp [h1, h2]; omega
  by_cases h3 : N < 1000
  · simp [h1, h2, h3]; omega
  by_cases h4 : N < 10000
  · simp [h1, h2, h3, h4]; omega
  by_cases h5 : N < 100000
  · simp [h1, h2, h3, h4, h5]; omega
  by_cases h6 : N < 1000000
  · simp [h1, h2, h3, h4, h5, h6]; omega
  by_cases h7 : N < 10000000
  · simp [h1, h2, h3, h4, h5, h6, h7]; omega
  by_cases h8 : N < 100000000
  · simp [h1, h2, h3, h4, h5, h6, h7, h8]; omega
  by_cases h9 : N < 1000000000
  · simp [h1, h2, h3, h4, h5, h6, h7, h8, h9]; omega
  · simp [h1, h2, h3, h4, h5, h6, h7, h8, h9]; omega
theorem own_pow_int {k : Nat} (hk : k ≤ 9) : ((10 ^ k : Nat).toInt32).toInt = (10 ^ k : Nat) := by
  rw [len_toInt]
  have : 10 ^ k ≤ 10 ^ 9 := Nat.pow_le_pow_right (by decide) hk
  omega
theorem own_char {N k : Nat} (hN : N < 2147483648) (hk : k ≤ 9) : ((48 : Int32) + (N.toInt32 / (10 ^ k : Nat).toInt32) % 10).toUInt32.toUInt16.toUInt32.toInt32 = own_d (N / 10 ^ k) := by
  have hp : 0 < 10 ^ k := Nat.pow_pos (by decide)
  have e := own_pow_int hk
  have h0 := len_toInt (n := N) (by omega)
  have h1 := (c_idiv N.toInt32 (10 ^ k : Nat).toInt32 _ e (fun q => by rw [q] at e; have : (-1 : Int32).toInt = -1 := by decide
                                                                       omega)).1 (by omega)
  have hd : ((N : Int) / ((10 ^ k : Nat) : Int)) = ((N / 10 ^ k : Nat) : Int) := by norm_cast
  have hle : N / 10 ^ k ≤ N := Nat.div_le_self _ _
  rw [h0, hd] at h1
  generalize N / 10 ^ k = M at *
  have h2 := (c_irem (N.toInt32 / (10 ^ k : Nat).toInt32) 10 10 (by decide)).1 (by omega)
  rw [h1] at h2
  have h3 := c_iadd 48 ((N.toInt32 / (10 ^ k : Nat).toInt32) % 10)
  have e48 : (48 : Int32).toInt = 48 := by decide
  rw [e48] at h3
  have h4 := rng32 (48 + (N.toInt32 / (10 ^ k : Nat).toInt32) % 10)
  have h5 := c_i2c (48 + (N.toInt32 / (10 ^ k : Nat).toInt32) % 10)
  rw [← Int32.toInt_inj, own_d_int]
  omega
def own_lo (c : Int32) : Int32 := c.toInt8.toInt32
def own_lat (cs : List Int32) : Prop := ∀ c ∈ cs, ¬ c < 0 ∧ ¬ (255 : Int32) < c
def own_Str (Z : State) (h : Heap) (lo : Nat) (a : Addr) (cs : List Int32) : Prop := ∃ (t : Addr) (kb : ClassId), lo ≤ a ∧ lo ≤ t ∧ Exa Z h a "java/lang/String" ∧ Fld Z h a "java/lang/String" "value" "[B" (.ref t) ∧ Fld Z h a "java/lang/String" "coder" "B" (.int (0 : Int32)) ∧ Arv Z h t kb .byte (Int32.ofNat cs.length) ((cs.map own_lo).map Value.int) (.int (0 : Int32)) ∧ own_lat cs ∧ cs.length ≤ 4000
theorem own_Str.keep {Z : State} {h h' : Heap} {lo : Nat} {a : Addr} {cs : List Int32} {ws : List Addr} (S : own_Str Z h lo a cs) (K : Keep h h' ws) (hw : ∀ x ∈ ws, x < lo) : own_Str Z h' lo a cs := by
  obtain ⟨t, kb, h1, h2, h3, h4, h5, h6, h7⟩ := S
  have ha : a ∉ ws := fun q => absurd (hw a q) (Nat.not_lt.mpr h1)
  have ht : t ∉ ws := fun q => absurd (hw t q) (Nat.not_lt.mpr h2)
  exact ⟨t, kb, h1, h2, h3.keep K, h4.keep K ha, h5.keep K ha, h6.keep K ht, h7⟩
theorem own_Str.low {Z : State} {h : Heap} {lo lo' : Nat} {a : Addr} {cs : List Int32} (S : own_Str Z h lo a cs) (q : lo' ≤ lo) : own_Str Z h lo' a cs := by
  obtain ⟨t, kb, h1, h2, r⟩ := S
  exact ⟨t, kb, Nat.le_trans q h1, Nat.le_trans q h2, r⟩
theorem own_StrE {Z : State} {h : Heap} {lo : Nat} {a : Addr} {cs : List Int32} (S : own_Str Z h lo a cs) : Exa Z h a "java/lang/String" := by
  obtain ⟨t, kb, h1, h2, h3, r⟩ := S
  exact h3
theorem own_ofn {c : Int32} (h : ¬ c < 0 ∧ ¬ (255 : Int32) < c) : ∃ k : Fin 256, c = Int32.ofNat k.val := by
  simp only [Int32.lt_iff_toInt_lt] at h
  have e0 : (0 : Int32).toInt = 0 := by decide
  have e1 : (255 : Int32).toInt = 255 := by decide
  have hk : c.toInt.toNat < 256 := by omega
  refine ⟨⟨c.toInt.toNat, hk⟩, ?_⟩
  rw [← Int32.toInt_inj]
  have e2 : (Int32.ofNat c.toInt.toNat).toInt = (c.toInt.toNat : Int) := len_toInt (n := c.toInt.toNat) (by omega)
  show c.toInt = (Int32.ofNat c.toInt.toNat).toInt
  omega
theorem own_ch {c : Int32} (h : ¬ c < 0 ∧ ¬ (255 : Int32) < c) : nar .char (((own_lo c) &&& (255 : Int32)).toUInt32.toUInt16.toUInt32.toInt32) = c := by
  have t : ∀ k : Fin 256, nar .char (((own_lo (Int32.ofNat k.val)) &&& (255 : Int32)).toUInt32.toUInt16.toUInt32.toInt32) = Int32.ofNat k.val := by decide +kernel
  obtain ⟨k, rfl⟩ := own_ofn h
  exact t k
theorem own_chn {c : Int32} (h : ¬ c < 0 ∧ ¬ (255 : Int32) < c) : nar .char c = c := by
  have t : ∀ k : Fin 256, nar .char (Int32.ofNat k.val) = Int32.ofNat k.val := by decide +kernel
  obtain ⟨k, rfl⟩ := own_ofn h
  exact t k
theorem own_latD {cs : List Int32} (h : own_lat cs) (i : Nat) : ¬ cs.getD i 0 < 0 ∧ ¬ (255 : Int32) < cs.getD i 0 := by
  rw [List.getD_eq_getElem?_getD]
  cases hq : cs[i]? with
  | none => decide
  | some c => exact h c (List.mem_of_getElem? hq)
theorem own_sh0 (x : Int32) : x >>> ((0 : Int32) &&& 31) = x := by
  rw [← Int32.toInt_inj, c_ishr x 0 0 (by decide)]; simp
theorem own_i32n {n : Nat} (h : n ≤ 4000) : ¬ ((n.toInt32) < (0 : Int32)) := by
  rw [Int32.lt_iff_toInt_lt, len_toInt (by omega)]
  have e0 : (0 : Int32).toInt = 0 := by decide
  omega
theorem own_i32l {i n : Nat} (h : n ≤ 4000) (hi : i < n) : (i.toInt32) < (Int32.ofNat n) := by
  have e : (Int32.ofNat n).toInt = (n : Int) := len_toInt (n := n) (by omega)
  rw [Int32.lt_iff_toInt_lt, len_toInt (by omega), e]; omega
theorem own_bat {cl : Cell} {cs : List Int32} {i : Nat} (hl : cs.length ≤ 4000) (hi : i < cs.length) (Sz : cl.slots.size = (Int32.ofNat cs.length).toNatClampNeg) (H : Has cl ((cs.map own_lo).map Value.int) (.int (0 : Int32))) : ¬ ((i.toInt32) < 0 ∨ cl.slots.size ≤ (i.toInt32).toNatClampNeg) ∧ cl.slots[(i.toInt32).toNatClampNeg]? = some (.int (own_lo (cs.getD i 0))) := by
  have hin := inb_of Sz ⟨own_i32n (by omega), own_i32l hl hi⟩
  refine ⟨hin, H.at hin ?_⟩
  have e : (i.toInt32).toNatClampNeg = i := by simp only [Int32.toNatClampNeg, len_toInt (show i < 2 ^ 31 by omega)]; rfl
  rw [e, List.getD_eq_getElem?_getD, List.getD_eq_getElem?_getD]
  simp [List.getElem?_map, List.getElem?_eq_getElem hi]
theorem own_digs_lat (N n : Nat) : own_lat (own_digs N n) := fun c hc => by obtain ⟨a, rfl⟩ := own_digs_mem hc; exact own_d_range a
theorem own_digs_bytes (N n : Nat) : ((own_digs N n).map own_lo).map Value.int = (own_digs N n).map Value.int := by
  have e : (own_digs N n).map own_lo = own_digs N n := own_digs_lo N n
  rw [e]
def own_dgz (v : Int32) : Int32 := if v < (10 : Int32) then 1 else if v < (100 : Int32) then 2 else if v < (1000 : Int32) then 3 else if v < (10000 : Int32) then 4 else if v < (100000 : Int32) then 5 else if v < (1000000 : Int32) then 6 else if v < (10000000 : Int32) then 7 else if v < (100000000 : Int32) then 8 else if v < (1000000000 : Int32) then 9 else 10
theorem own_dgz_eq {N : Nat} (hN : N < 2147483648) : own_dgz N.toInt32 = (own_ln N).toInt32 := by
  have q : ∀ (k : Int32) (m : Nat), k.toInt = (m : Int) → ((N.toInt32 < k) = (N < m)) := fun k m hk => by
    rw [Int32.lt_iff_toInt_lt, len_toInt (by omega), hk]; exact propext ⟨fun h => by omega, fun h => by omega⟩
  unfold own_dgz own_ln
  simp only [q 10 10 (by decide), q 100 100 (by decide), q 1000 1000 (by decide), q 10000 10000 (by decide), q 100000 100000 (by decide), q 1000000 1000000 (by decide), q 10000000 10000000 (by decide), q 100000000 100000000 (by decide), q 1000000000 1000000000 (by decide)]
  repeat' split
  all_goals rfl
theorem own_klt {k n : Nat} (hk : k ≤ 9) (hn : n ≤ 10) (h : k.toInt32 < n.toInt32) : k < n := by
  rw [Int32.lt_iff_toInt_lt, len_toInt (by omega), len_toInt (by omega)] at h; omega
theorem own_idx {k n : Nat} (hn : n ≤ 10) (h : k < n) : n.toInt32 - 1 - k.toInt32 = Int32.ofNat (n - 1 - k) := by
  rw [← Int32.toInt_inj]
  have h1 := c_isub n.toInt32 1
  have h2 := c_isub (n.toInt32 - 1) k.toInt32
  have e1 : (1 : Int32).toInt = 1 := by decide
  have e2 := len_toInt (n := n) (by omega)
  have e3 := len_toInt (n := k) (by omega)
  have e4 : (Int32.ofNat (n - 1 - k)).toInt = ((n - 1 - k : Nat) : Int) := len_toInt (n := n - 1 - k) (by omega)
  have h3 := rng32 (n.toInt32 - 1 - k.toInt32)
  rw [e4]; omega
theorem own_pow_nz {k : Nat} (hk : k ≤ 9) : ¬ ((10 ^ k : Nat).toInt32 = (0 : Int32)) := fun q => by
  have e := own_pow_int hk
  rw [q] at e
  have : 0 < 10 ^ k := Nat.pow_pos (by decide)
  have e0 : (0 : Int32).toInt = 0 := by decide
  omega
theorem own_mask (x : Int32) : ∃ N : Nat, N < 2147483648 ∧ x &&& 2147483647 = N.toInt32 := by
  have h1 := c_mask x 2147483647 31 (by decide) (by decide)
  refine ⟨(x &&& 2147483647).toInt.toNat, by omega, ?_⟩
  rw [← Int32.toInt_inj, len_toInt (by omega)]
  omega
theorem own_tabs {cl : Cell} (f : Nat → Nat) (g : Nat → Int32) (hg : ∀ i, i < 100 → g i = own_d (f i)) (hl : cl.slots.size.toInt32 = 100) (hs : cl.slots.size < 2 ^ 31) (he : ∀ i, i < cl.slots.size → cl.slots[i]? = some (.int (g i))) (r : Nat) (hr : r < 100) :
    ¬ (r.toInt32 < 0 ∨ cl.slots.size ≤ r.toInt32.toNatClampNeg) ∧ cl.slots[r.toInt32.toNatClampNeg]? = some (.int (own_d (f r))) := by
  have e := congrArg Int32.toInt hl
  rw [len_toInt hs] at e
  have e1 : (100 : Int32).toInt = 100 := by decide
  rw [own_nat32 (by omega)]
  refine ⟨fun q => q.elim (own_nn (by omega)) (fun q => by omega), ?_⟩
  rw [he r (by omega), hg r hr]
theorem own_obs (x c : Int64) : (¬ lcmpW x c < 0 ∧ ¬ 0 < lcmpW x c) ↔ lcmpW x c = 0 := by
  rw [lw_lt, lw_gt, lw_eq]
  simp only [Int64.lt_iff_toInt_lt, ← Int64.toInt_inj]
  omega
theorem d3_0 : decode jdk_33_method_13_code 0 = .ok (.iconst 1, 1) := by decide +kernel
theorem d3_1 : decode jdk_33_method_13_code 1 = .ok (.istore_n 1, 1) := by decide +kernel
theorem d3_2 : decode jdk_33_method_13_code 2 = .ok (.iload_n 0, 1) := by decide +kernel
theorem d3_3 : decode jdk_33_method_13_code 3 = .ok (.ifCond .lt 8, 3) := by decide +kernel
theorem d3_6 : decode jdk_33_method_13_code 6 = .ok (.iconst 0, 1) := by decide +kernel
theorem d3_7 : decode jdk_33_method_13_code 7 = .ok (.istore_n 1, 1) := by decide +kernel
theorem d3_8 : decode jdk_33_method_13_code 8 = .ok (.iload_n 0, 1) := by decide +kernel
theorem d3_9 : decode jdk_33_method_13_code 9 = .ok (.ineg, 1) := by decide +kernel
theorem d3_10 : decode jdk_33_method_13_code 10 = .ok (.istore_n 0, 1) := by decide +kernel
theorem d3_11 : decode jdk_33_method_13_code 11 = .ok (.bipush (-10), 2) := by decide +kernel
theorem d3_13 : decode jdk_33_method_13_code 13 = .ok (.istore_n 2, 1) := by decide +kernel
theorem d3_14 : decode jdk_33_method_13_code 14 = .ok (.iconst 1, 1) := by decide +kernel
theorem d3_15 : decode jdk_33_method_13_code 15 = .ok (.istore_n 3, 1) := by decide +kernel
theorem d3_16 : decode jdk_33_method_13_code 16 = .ok (.iload_n 3, 1) := by decide +kernel
theorem d3_17 : decode jdk_33_method_13_code 17 = .ok (.bipush 10, 2) := by decide +kernel
theorem d3_19 : decode jdk_33_method_13_code 19 = .ok (.if_icmp .ge 23, 3) := by decide +kernel
theorem d3_22 : decode jdk_33_method_13_code 22 = .ok (.iload_n 0, 1) := by decide +kernel
theorem d3_23 : decode jdk_33_method_13_code 23 = .ok (.iload_n 2, 1) := by decide +kernel
theorem d3_24 : decode jdk_33_method_13_code 24 = .ok (.if_icmp .le 7, 3) := by decide +kernel
theorem d3_27 : decode jdk_33_method_13_code 27 = .ok (.iload_n 3, 1) := by decide +kernel
theorem d3_28 : decode jdk_33_method_13_code 28 = .ok (.iload_n 1, 1) := by decide +kernel
theorem d3_29 : decode jdk_33_method_13_code 29 = .ok (.iadd, 1) := by decide +kernel
theorem d3_30 : decode jdk_33_method_13_code 30 = .ok (.ireturn, 1) := by decide +kernel
theorem d3_31 : decode jdk_33_method_13_code 31 = .ok (.bipush 10, 2) := by decide +kernel
theorem d3_33 : decode jdk_33_method_13_code 33 = .ok (.iload_n 2, 1) := by decide +kernel
theorem d3_34 : decode jdk_33_method_13_code 34 = .ok (.imul, 1) := by decide +kernel
theorem d3_35 : decode jdk_33_method_13_code 35 = .ok (.istore_n 2, 1) := by decide +kernel
theorem d3_36 : decode jdk_33_method_13_code 36 = .ok (.iinc 3 1, 3) := by decide +kernel
theorem d3_39 : decode jdk_33_method_13_code 39 = .ok (.goto (-23), 3) := by decide +kernel
theorem d3_42 : decode jdk_33_method_13_code 42 = .ok (.bipush 10, 2) := by decide +kernel
theorem d3_44 : decode jdk_33_method_13_code 44 = .ok (.iload_n 1, 1) := by decide +kernel
theorem d3_45 : decode jdk_33_method_13_code 45 = .ok (.iadd, 1) := by decide +kernel
theorem d3_46 : decode jdk_33_method_13_code 46 = .ok (.ireturn, 1) := by decide +kernel
theorem pn_0 : plainName "java/lang/Integer" = true := by first | (simp [plainName, overriddenIn]; done) | decide +kernel
theorem ef_3 (m : MethodId) (ct : Int32) : entryFrame m #[(.int ct)] 4 = mkF m 0 #[iv ct, .unset, .unset, .unset] [] := by first | (simp [entryFrame, mkF, argsToLocals, Value.category]; done) | rfl
def Q3 (Z : State) (ct : Int32) (N : Nat) (h0 : Heap) (n0 : Nat) (v : Option Value) (h : Heap) (L : List Loc) : Prop := v = some (.int (own_sz (own_ng N))) ∧ Fr n0 L ∧ h = h0
set_option maxRecDepth 65536 in
set_option maxHeartbeats 40000000 in
theorem rm3 (l : Launch) (Z : State) (a0 : Array Value) (hw : ∀ d ∈ tables_1, d.before a0 Z = true) (ws : List Jvm.Cond) (ct : Int32) (N : Nat) (h0 : Heap) (n0 : Nat) (Z0 : n0 ≤ h0.size) (hct : ct = N.toInt32) (hN : N < 2147483648) :
    MetFree l (⟨"java/lang/Integer", "stringSize", "(I)I"⟩ : MethodName) (head1 (Jvm.Cond.code (⟨"java/lang/Integer", "stringSize", "(I)I"⟩ : MethodName) jdk_33_method_13_code 4 (some .int) :: ws) ({ frames := 0, cells := 0, slots := 0, locals := 0 } : Room)) (fun a U => a = #[(.int ct)] ∧ Z.Warmed39 U.vm ∧ U.heap = h0) (fun _ _ _ _ _ => True) (fun _ U o U' => ∃ v L, o = .returned v ∧ Q3 Z ct N h0 n0 v U'.heap L ∧ FrameEnd U o U' L ({ frames := 0, cells := 0, slots := 0, locals := 0 } : Room).cells ({ frames := 0, cells := 0, slots := 0, locals := 0 } : Room).slots) := by
  refine MetFree.of_bodySF (plainFor_of_name pn_0) hisR ?_
  intro p e s m args below meth c s₁ Bd hml0 hP hK
  obtain ⟨rfl, hZ, hh⟩ := hP
  have hx := Bd.exec
  have hby := Bd.bytes
  have hml : c.maxLocals = 4 := hml0
  have hown : s.vm.findClass "java/lang/Integer" = some m.cls := findClass_of_methodNamed Bd.named
  have hnm := (name_of_methodNamed Bd.named Bd.method).1
  have hlk : meth.locks = false := Bd.notSynchronized
  have hrt := Bd.returns
  have X0 : Stand p l e ({ frames := 0, cells := 0, slots := 0, locals := 0 } : Room) s m #[(.int ct)] below meth c s₁ [] 0 0 := Stand.of_body Bd
  have e0 : s₁.heap = h0 := by rw [← hh, Bd.state]; rfl
  have N0 := Fr.nil n0
  show own_Endz p.tables e below (own_EndQ s ({ frames := 0, cells := 0, slots := 0, locals := 0 } : Room).cells ({ frames := 0, cells := 0, slots := 0, locals := 0 } : Room).slots (Q3 Z ct N h0 n0)) (s₁.setTop (entryFrame m #[(.int ct)] 4))
  refine own_cast (ef_3 m ct) ?_
  subst hct
  refine own_go (b := s₁.setTop (mkF m 1 #[iv (N.toInt32), .unset, .unset, .unset] [(.int 1)])) (fun t k => XS.iconst X0.here hx rfl (hb hby d3_0) k) ?_
  refine own_go (b := s₁.setTop (mkF m 2 #[iv (N.toInt32), iv 1, .unset, .unset] [])) (fun t k => XS.istoreN X0.here hx rfl (hb hby d3_1) rfl (l' := #[iv (N.toInt32), iv 1, .unset, .unset]) rfl k) ?_
  refine own_go (b := s₁.setTop (mkF m 3 #[iv (N.toInt32), iv 1, .unset, .unset] [(.int (N.toInt32))])) (fun t k => XS.iloadN X0.here hx rfl (hb hby d3_2) rfl  k) ?_
  refine own_go (b := s₁.setTop (mkF m 6 #[iv (N.toInt32), iv 1, .unset, .unset] [])) (fun t k => XS.ifNo X0.here hx rfl (hb hby d3_3) rfl ((if0 _ _).trans (flt (own_nn hN)).1) k) ?_
  refine own_go (b := s₁.setTop (mkF m 7 #[iv (N.toInt32), iv 1, .unset, .unset] [(.int 0)])) (fun t k => XS.iconst X0.here hx rfl (hb hby d3_6) k) ?_
  refine own_go (b := s₁.setTop (mkF m 8 #[iv (N.toInt32), iv 0, .unset, .unset] [])) (fun t k => XS.istoreN X0.here hx rfl (hb hby d3_7) rfl (l' := #[iv (N.toInt32), iv 0, .unset, .unset]) rfl k) ?_
  refine own_go (b := s₁.setTop (mkF m 9 #[iv (N.toInt32), iv 0, .unset, .unset] [(.int (N.toInt32))])) (fun t k => XS.iloadN X0.here hx rfl (hb hby d3_8) rfl  k) ?_
  refine own_go (b := s₁.setTop (mkF m 10 #[iv (N.toInt32), iv 0, .unset, .unset] [(.int (-(N.toInt32)))])) (fun t k => XS.ineg X0.here hx rfl (hb hby d3_9) rfl k) ?_
  refine own_go (b := s₁.setTop (mkF m 11 #[iv (-(N.toInt32)), iv 0, .unset, .unset] [])) (fun t k => XS.istoreN X0.here hx rfl (hb hby d3_10) rfl (l' := #[iv (-(N.toInt32)), iv 0, .unset, .unset]) rfl k) ?_
  show own_Endz p.tables e below (own_EndQ s ({ frames := 0, cells := 0, slots := 0, locals := 0 } : Room).cells ({ frames := 0, cells := 0, slots := 0, locals := 0 } : Room).slots (Q3 Z ((N.toInt32)) N h0 n0)) (s₁.setTop (mkF m 11 #[iv (own_ng N), iv 0, .unset, .unset] []))
  refine own_go (b := s₁.setTop (mkF m 13 #[iv (own_ng N), iv 0, .unset, .unset] [(.int (-10))])) (fun t k => XS.bipush X0.here hx rfl (hb hby d3_11) k) ?_
  refine own_go (b := s₁.setTop (mkF m 14 #[iv (own_ng N), iv 0, iv (-10), .unset] [])) (fun t k => XS.istoreN X0.here hx rfl (hb hby d3_13) rfl (l' := #[iv (own_ng N), iv 0, iv (-10), .unset]) rfl k) ?_
  refine own_go (b := s₁.setTop (mkF m 15 #[iv (own_ng N), iv 0, iv (-10), .unset] [(.int 1)])) (fun t k => XS.iconst X0.here hx rfl (hb hby d3_14) k) ?_
  refine own_go (b := s₁.setTop (mkF m 16 #[iv (own_ng N), iv 0, iv (-10), iv 1] [])) (fun t k => XS.istoreN X0.here hx rfl (hb hby d3_15) rfl (l' := #[iv (own_ng N), iv 0, iv (-10), iv 1]) rfl k) ?_
  refine own_go (b := s₁.setTop (mkF m 17 #[iv (own_ng N), iv 0, iv (-10), iv 1] [(.int 1)])) (fun t k => XS.iloadN X0.here hx rfl (hb hby d3_16) rfl  k) ?_
  refine own_go (b := s₁.setTop (mkF m 19 #[iv (own_ng N), iv 0, iv (-10), iv 1] [(.int 10), (.int 1)])) (fun t k => XS.bipush X0.here hx rfl (hb hby d3_17) k) ?_
  refine own_go (b := s₁.setTop (mkF m 22 #[iv (own_ng N), iv 0, iv (-10), iv 1] [])) (fun t k => XS.icmpNo X0.here hx rfl (hb hby d3_19) rfl (tlt (by decide : (1 : Int32) < (10 : Int32))).2.1 k) ?_
  refine own_go (b := s₁.setTop (mkF m 23 #[iv (own_ng N), iv 0, iv (-10), iv 1] [(.int (own_ng N))])) (fun t k => XS.iloadN X0.here hx rfl (hb hby d3_22) rfl  k) ?_
  refine own_go (b := s₁.setTop (mkF m 24 #[iv (own_ng N), iv 0, iv (-10), iv 1] [(.int (-10)), (.int (own_ng N))])) (fun t k => XS.iloadN X0.here hx rfl (hb hby d3_23) rfl  k) ?_
  by_cases hc1 : (-10 : Int32) < (own_ng N)
  · refine own_go (b := s₁.setTop (mkF m 27 #[iv (own_ng N), iv 0, iv (-10), iv 1] [])) (fun t k => XS.icmpNo X0.here hx rfl (hb hby d3_24) rfl (tlt hc1).2.2.2 k) ?_
    refine own_go (b := s₁.setTop (mkF m 28 #[iv (own_ng N), iv 0, iv (-10), iv 1] [(.int 1)])) (fun t k => XS.iloadN X0.here hx rfl (hb hby d3_27) rfl  k) ?_
    refine own_go (b := s₁.setTop (mkF m 29 #[iv (own_ng N), iv 0, iv (-10), iv 1] [(.int 0), (.int 1)])) (fun t k => XS.iloadN X0.here hx rfl (hb hby d3_28) rfl  k) ?_
    refine own_go (b := s₁.setTop (mkF m 30 #[iv (own_ng N), iv 0, iv (-10), iv 1] [(.int ((1 : Int32) + (0 : Int32)))])) (fun t k => XS.iadd X0.here hx rfl (hb hby d3_29) rfl k) ?_
    rw [show ((1 : Int32) + (0 : Int32)) = (1 : Int32) from by decide]
    exact own_retI X0 hx hlk hrt (hb hby d3_30) (Nat.le_of_ble_eq_true rfl) (Nat.le_of_ble_eq_true rfl) (⟨by first | rfl | (simp only [own_sz, eq_true hc1, if_true, if_false]; done) | (simp only [own_sz, eq_true hc1, if_true, if_false]; rfl) | (simp [own_sz, eq_true hc1]; done) | (simp [own_sz, eq_true hc1]; rfl), N0, e0⟩)
  · refine own_go (b := s₁.setTop (mkF m 31 #[iv (own_ng N), iv 0, iv (-10), iv 1] [])) (fun t k => XS.icmpYes X0.here hx rfl (pc0 := 24) (pc' := 31) rfl (hb hby d3_24) rfl (flt hc1).2.2.2 (by decide) (by decide) k) ?_
    refine own_go (b := s₁.setTop (mkF m 33 #[iv (own_ng N), iv 0, iv (-10), iv 1] [(.int 10)])) (fun t k => XS.bipush X0.here hx rfl (hb hby d3_31) k) ?_
    refine own_go (b := s₁.setTop (mkF m 34 #[iv (own_ng N), iv 0, iv (-10), iv 1] [(.int (-10)), (.int 10)])) (fun t k => XS.iloadN X0.here hx rfl (hb hby d3_33) rfl  k) ?_
    refine own_go (b := s₁.setTop (mkF m 35 #[iv (own_ng N), iv 0, iv (-10), iv 1] [(.int ((10 : Int32) * (-10 : Int32)))])) (fun t k => XS.imul X0.here hx rfl (hb hby d3_34) rfl k) ?_
    rw [show ((10 : Int32) * (-10 : Int32)) = (-100 : Int32) from by decide]
    refine own_go (b := s₁.setTop (mkF m 36 #[iv (own_ng N), iv 0, iv (-100), iv 1] [])) (fun t k => XS.istoreN X0.here hx rfl (hb hby d3_35) rfl (l' := #[iv (own_ng N), iv 0, iv (-100), iv 1]) rfl k) ?_
    refine own_go (b := s₁.setTop (mkF m 39 #[iv (own_ng N), iv 0, iv (-100), iv 2] [])) (fun t k => XS.iinc X0.here hx rfl (hb hby d3_36) rfl (l' := #[iv (own_ng N), iv 0, iv (-100), iv 2]) rfl k) ?_
    refine own_go (b := s₁.setTop (mkF m 16 #[iv (own_ng N), iv 0, iv (-100), iv 2] [])) (fun t k => XS.goto X0.here hx rfl (pc0 := 39) (pc' := 16) rfl (hb hby d3_39) (by decide) (by decide) k) ?_
    refine own_go (b := s₁.setTop (mkF m 17 #[iv (own_ng N), iv 0, iv (-100), iv 2] [(.int 2)])) (fun t k => XS.iloadN X0.here hx rfl (hb hby d3_16) rfl  k) ?_
    refine own_go (b := s₁.setTop (mkF m 19 #[iv (own_ng N), iv 0, iv (-100), iv 2] [(.int 10), (.int 2)])) (fun t k => XS.bipush X0.here hx rfl (hb hby d3_17) k) ?_
    refine own_go (b := s₁.setTop (mkF m 22 #[iv (own_ng N), iv 0, iv (-100), iv 2] [])) (fun t k => XS.icmpNo X0.here hx rfl (hb hby d3_19) rfl (tlt (by decide : (2 : Int32) < (10 : Int32))).2.1 k) ?_
    refine own_go (b := s₁.setTop (mkF m 23 #[iv (own_ng N), iv 0, iv (-100), iv 2] [(.int (own_ng N))])) (fun t k => XS.iloadN X0.here hx rfl (hb hby d3_22) rfl  k) ?_
    refine own_go (b := s₁.setTop (mkF m 24 #[iv (own_ng N), iv 0, iv (-100), iv 2] [(.int (-100)), (.int (own_ng N))])) (fun t k => XS.iloadN X0.here hx rfl (hb hby d3_23) rfl  k) ?_
    by_cases hc2 : (-100 : Int32) < (own_ng N)
    · refine own_go (b := s₁.setTop (mkF m 27 #[iv (own_ng N), iv 0, iv (-100), iv 2] [])) (fun t k => XS.icmpNo X0.here hx rfl (hb hby d3_24) rfl (tlt hc2).2.2.2 k) ?_
      refine own_go (b := s₁.setTop (mkF m 28 #[iv (own_ng N), iv 0, iv (-100), iv 2] [(.int 2)])) (fun t k => XS.iloadN X0.here hx rfl (hb hby d3_27) rfl  k) ?_
      refine own_go (b := s₁.setTop (mkF m 29 #[iv (own_ng N), iv 0, iv (-100), iv 2] [(.int 0), (.int 2)])) (fun t k => XS.iloadN X0.here hx rfl (hb hby d3_28) rfl  k) ?_
      refine own_go (b := s₁.setTop (mkF m 30 #[iv (own_ng N), iv 0, iv (-100), iv 2] [(.int ((2 : Int32) + (0 : Int32)))])) (fun t k => XS.iadd X0.here hx rfl (hb hby d3_29) rfl k) ?_
      rw [show ((2 : Int32) + (0 : Int32)) = (2 : Int32) from by decide]
      exact own_retI X0 hx hlk hrt (hb hby d3_30) (Nat.le_of_ble_eq_true rfl) (Nat.le_of_ble_eq_true rfl) (⟨by first | rfl | (simp only [own_sz, eq_false hc1, eq_true hc2, if_true, if_false]; done) | (simp only [own_sz, eq_false hc1, eq_true hc2, if_true, if_false]; rfl) | (simp [own_sz, eq_false hc1, eq_true hc2]; done) | (simp [own_sz, eq_false hc1, eq_true hc2]; rfl), N0, e0⟩)
    · refine own_go (b := s₁.setTop (mkF m 31 #[iv (own_ng N), iv 0, iv (-100), iv 2] [])) (fun t k => XS.icmpYes X0.here hx rfl (pc0 := 24) (pc' := 31) rfl (hb hby d3_24) rfl (flt hc2).2.2.2 (by decide) (by decide) k) ?_
      refine own_go (b := s₁.setTop (mkF m 33 #[iv (own_ng N), iv 0, iv (-100), iv 2] [(.int 10)])) (fun t k => XS.bipush X0.here hx rfl (hb hby d3_31) k) ?_
      refine own_go (b := s₁.setTop (mkF m 34 #[iv (own_ng N), iv 0, iv (-100), iv 2] [(.int (-100)), (.int 10)])) (fun t k => XS.iloadN X0.here hx rfl (hb hby d3_33) rfl  k) ?_
      refine own_go (b := s₁.setTop (mkF m 35 #[iv (own_ng N), iv 0, iv (-100), iv 2] [(.int ((10 : Int32) * (-100 : Int32)))])) (fun t k => XS.imul X0.here hx rfl (hb hby d3_34) rfl k) ?_
      rw [show ((10 : Int32) * (-100 : Int32)) = (-1000 : Int32) from by decide]
      refine own_go (b := s₁.setTop (mkF m 36 #[iv (own_ng N), iv 0, iv (-1000), iv 2] [])) (fun t k => XS.istoreN X0.here hx rfl (hb hby d3_35) rfl (l' := #[iv (own_ng N), iv 0, iv (-1000), iv 2]) rfl k) ?_
      refine own_go (b := s₁.setTop (mkF m 39 #[iv (own_ng N), iv 0, iv (-1000), iv 3] [])) (fun t k => XS.iinc X0.here hx rfl (hb hby d3_36) rfl (l' := #[iv (own_ng N), iv 0, iv (-1000), iv 3]) rfl k) ?_
      refine own_go (b := s₁.setTop (mkF m 16 #[iv (own_ng N), iv 0, iv (-1000), iv 3] [])) (fun t k => XS.goto X0.here hx rfl (pc0 := 39) (pc' := 16) rfl (hb hby d3_39) (by decide) (by decide) k) ?_
      refine own_go (b := s₁.setTop (mkF m 17 #[iv (own_ng N), iv 0, iv (-1000), iv 3] [(.int 3)])) (fun t k => XS.iloadN X0.here hx rfl (hb hby d3_16) rfl  k) ?_
      refine own_go (b := s₁.setTop (mkF m 19 #[iv (own_ng N), iv 0, iv (-1000), iv 3] [(.int 10), (.int 3)])) (fun t k => XS.bipush X0.here hx rfl (hb hby d3_17) k) ?_
      refine own_go (b := s₁.setTop (mkF m 22 #[iv (own_ng N), iv 0, iv (-1000), iv 3] [])) (fun t k => XS.icmpNo X0.here hx rfl (hb hby d3_19) rfl (tlt (by decide : (3 : Int32) < (10 : Int32))).2.1 k) ?_
      refine own_go (b := s₁.setTop (mkF m 23 #[iv (own_ng N), iv 0, iv (-1000), iv 3] [(.int (own_ng N))])) (fun t k => XS.iloadN X0.here hx rfl (hb hby d3_22) rfl  k) ?_
      refine own_go (b := s₁.setTop (mkF m 24 #[iv (own_ng N), iv 0, iv (-1000), iv 3] [(.int (-1000)), (.int (own_ng N))])) (fun t k => XS.iloadN X0.here hx rfl (hb hby d3_23) rfl  k) ?_
      by_cases hc3 : (-1000 : Int32) < (own_ng N)
      · refine own_go (b := s₁.setTop (mkF m 27 #[iv (own_ng N), iv 0, iv (-1000), iv 3] [])) (fun t k => XS.icmpNo X0.here hx rfl (hb hby d3_24) rfl (tlt hc3).2.2.2 k) ?_
        refine own_go (b := s₁.setTop (mkF m 28 #[iv (own_ng N), iv 0, iv (-1000), iv 3] [(.int 3)])) (fun t k => XS.iloadN X0.here hx rfl (hb hby d3_27) rfl  k) ?_
        refine own_go (b := s₁.setTop (mkF m 29 #[iv (own_ng N), iv 0, iv (-1000), iv 3] [(.int 0), (.int 3)])) (fun t k => XS.iloadN X0.here hx rfl (hb hby d3_28) rfl  k) ?_
        refine own_go (b := s₁.setTop (mkF m 30 #[iv (own_ng N), iv 0, iv (-1000), iv 3] [(.int ((3 : Int32) + (0 : Int32)))])) (fun t k => XS.iadd X0.here hx rfl (hb hby d3_29) rfl k) ?_
        rw [show ((3 : Int32) + (0 : Int32)) = (3 : Int32) from by decide]
        exact own_retI X0 hx hlk hrt (hb hby d3_30) (Nat.le_of_ble_eq_true rfl) (Nat.le_of_ble_eq_true rfl) (⟨by first | rfl | (simp only [own_sz, eq_false hc1, eq_false hc2, eq_true hc3, if_true, if_false]; done) | (simp only [own_sz, eq_false hc1, eq_false hc2, eq_true hc3, if_true, if_false]; rfl) | (simp [own_sz, eq_false hc1, eq_false hc2, eq_true hc3]; done) | (simp [own_sz, eq_false hc1, eq_false hc2, eq_true hc3]; rfl), N0, e0⟩)
      · refine own_go (b := s₁.setTop (mkF m 31 #[iv (own_ng N), iv 0, iv (-1000), iv 3] [])) (fun t k => XS.icmpYes X0.here hx rfl (pc0 := 24) (pc' := 31) rfl (hb hby d3_24) rfl (flt hc3).2.2.2 (by decide) (by decide) k) ?_
        refine own_go (b := s₁.setTop (mkF m 33 #[iv (own_ng N), iv 0, iv (-1000), iv 3] [(.int 10)])) (fun t k => XS.bipush X0.here hx rfl (hb hby d3_31) k) ?_
        refine own_go (b := s₁.setTop (mkF m 34 #[iv (own_ng N), iv 0, iv (-1000), iv 3] [(.int (-1000)), (.int 10)])) (fun t k => XS.iloadN X0.here hx rfl (hb hby d3_33) rfl  k) ?_
        refine own_go (b := s₁.setTop (mkF m 35 #[iv (own_ng N), iv 0, iv (-1000), iv 3] [(.int ((10 : Int32) * (-1000 : Int32)))])) (fun t k => XS.imul X0.here hx rfl (hb hby d3_34) rfl k) ?_
        rw [show ((10 : Int32) * (-1000 : Int32)) = (-10000 : Int32) from by decide]
        refine own_go (b := s₁.setTop (mkF m 36 #[iv (own_ng N), iv 0, iv (-10000), iv 3] [])) (fun t k => XS.istoreN X0.here hx rfl (hb hby d3_35) rfl (l' := #[iv (own_ng N), iv 0, iv (-10000), iv 3]) rfl k) ?_
        refine own_go (b := s₁.setTop (mkF m 39 #[iv (own_ng N), iv 0, iv (-10000), iv 4] [])) (fun t k => XS.iinc X0.here hx rfl (hb hby d3_36) rfl (l' := #[iv (own_ng N), iv 0, iv (-10000), iv 4]) rfl k) ?_
        refine own_go (b := s₁.setTop (mkF m 16 #[iv (own_ng N), iv 0, iv (-10000), iv 4] [])) (fun t k => XS.goto X0.here hx rfl (pc0 := 39) (pc' := 16) rfl (hb hby d3_39) (by decide) (by decide) k) ?_
        refine own_go (b := s₁.setTop (mkF m 17 #[iv (own_ng N), iv 0, iv (-10000), iv 4] [(.int 4)])) (fun t k => XS.iloadN X0.here hx rfl (hb hby d3_16) rfl  k) ?_
        refine own_go (b := s₁.setTop (mkF m 19 #[iv (own_ng N), iv 0, iv (-10000), iv 4] [(.int 10), (.int 4)])) (fun t k => XS.bipush X0.here hx rfl (hb hby d3_17) k) ?_
        refine own_go (b := s₁.setTop (mkF m 22 #[iv (own_ng N), iv 0, iv (-10000), iv 4] [])) (fun t k => XS.icmpNo X0.here hx rfl (hb hby d3_19) rfl (tlt (by decide : (4 : Int32) < (10 : Int32))).2.1 k) ?_
        refine own_go (b := s₁.setTop (mkF m 23 #[iv (own_ng N), iv 0, iv (-10000), iv 4] [(.int (own_ng N))])) (fun t k => XS.iloadN X0.here hx rfl (hb hby d3_22) rfl  k) ?_
        refine own_go (b := s₁.setTop (mkF m 24 #[iv (own_ng N), iv 0, iv (-10000), iv 4] [(.int (-10000)), (.int (own_ng N))])) (fun t k => XS.iloadN X0.here hx rfl (hb hby d3_23) rfl  k) ?_
        by_cases hc4 : (-10000 : Int32) < (own_ng N)
        · refine own_go (b := s₁.setTop (mkF m 27 #[iv (own_ng N), iv 0, iv (-10000), iv 4] [])) (fun t k => XS.icmpNo X0.here hx rfl (hb hby d3_24) rfl (tlt hc4).2.2.2 k) ?_
          refine own_go (b := s₁.setTop (mkF m 28 #[iv (own_ng N), iv 0, iv (-10000), iv 4] [(.int 4)])) (fun t k => XS.iloadN X0.here hx rfl (hb hby d3_27) rfl  k) ?_
          refine own_go (b := s₁.setTop (mkF m 29 #[iv (own_ng N), iv 0, iv (-10000), iv 4] [(.int 0), (.int 4)])) (fun t k => XS.iloadN X0.here hx rfl (hb hby d3_28) rfl  k) ?_
          refine own_go (b := s₁.setTop (mkF m 30 #[iv (own_ng N), iv 0, iv (-10000), iv 4] [(.int ((4 : Int32) + (0 : Int32)))])) (fun t k => XS.iadd X0.here hx rfl (hb hby d3_29) rfl k) ?_
          rw [show ((4 : Int32) + (0 : Int32)) = (4 : Int32) from by decide]
          exact own_retI X0 hx hlk hrt (hb hby d3_30) (Nat.le_of_ble_eq_true rfl) (Nat.le_of_ble_eq_true rfl) (⟨by first | rfl | (simp only [own_sz, eq_false hc1, eq_false hc2, eq_false hc3, eq_true hc4, if_true, if_false]; done) | (simp only [own_sz, eq_false hc1, eq_false hc2, eq_false hc3, eq_true hc4, if_true, if_false]; rfl) | (simp [own_sz, eq_false hc1, eq_false hc2, eq_false hc3, eq_true hc4]; done) | (simp [own_sz, eq_false hc1, eq_false hc2, eq_false hc3, eq_true hc4]; rfl), N0, e0⟩)
        · refine own_go (b := s₁.setTop (mkF m 31 #[iv (own_ng N), iv 0, iv (-10000), iv 4] [])) (fun t k => XS.icmpYes X0.here hx rfl (pc0 := 24) (pc' := 31) rfl (hb hby d3_24) rfl (flt hc4).2.2.2 (by decide) (by decide) k) ?_
          refine own_go (b := s₁.setTop (mkF m 33 #[iv (own_ng N), iv 0, iv (-10000), iv 4] [(.int 10)])) (fun t k => XS.bipush X0.here hx rfl (hb hby d3_31) k) ?_
          refine own_go (b := s₁.setTop (mkF m 34 #[iv (own_ng N), iv 0, iv (-10000), iv 4] [(.int (-10000)), (.int 10)])) (fun t k => XS.iloadN X0.here hx rfl (hb hby d3_33) rfl  k) ?_
          refine own_go (b := s₁.setTop (mkF m 35 #[iv (own_ng N), iv 0, iv (-10000), iv 4] [(.int ((10 : Int32) * (-10000 : Int32)))])) (fun t k => XS.imul X0.here hx rfl (hb hby d3_34) rfl k) ?_
          rw [show ((10 : Int32) * (-10000 : Int32)) = (-100000 : Int32) from by decide]
          refine own_go (b := s₁.setTop (mkF m 36 #[iv (own_ng N), iv 0, iv (-100000), iv 4] [])) (fun t k => XS.istoreN X0.here hx rfl (hb hby d3_35) rfl (l' := #[iv (own_ng N), iv 0, iv (-100000), iv 4]) rfl k) ?_
          refine own_go (b := s₁.setTop (mkF m 39 #[iv (own_ng N), iv 0, iv (-100000), iv 5] [])) (fun t k => XS.iinc X0.here hx rfl (hb hby d3_36) rfl (l' := #[iv (own_ng N), iv 0, iv (-100000), iv 5]) rfl k) ?_
          refine own_go (b := s₁.setTop (mkF m 16 #[iv (own_ng N), iv 0, iv (-100000), iv 5] [])) (fun t k => XS.goto X0.here hx rfl (pc0 := 39) (pc' := 16) rfl (hb hby d3_39) (by decide) (by decide) k) ?_
          refine own_go (b := s₁.setTop (mkF m 17 #[iv (own_ng N), iv 0, iv (-100000), iv 5] [(.int 5)])) (fun t k => XS.iloadN X0.here hx rfl (hb hby d3_16) rfl  k) ?_
          refine own_go (b := s₁.setTop (mkF m 19 #[iv (own_ng N), iv 0, iv (-100000), iv 5] [(.int 10), (.int 5)])) (fun t k => XS.bipush X0.here hx rfl (hb hby d3_17) k) ?_
          refine own_go (b := s₁.setTop (mkF m 22 #[iv (own_ng N), iv 0, iv (-100000), iv 5] [])) (fun t k => XS.icmpNo X0.here hx rfl (hb hby d3_19) rfl (tlt (by decide : (5 : Int32) < (10 : Int32))).2.1 k) ?_
          refine own_go (b := s₁.setTop (mkF m 23 #[iv (own_ng N), iv 0, iv (-100000), iv 5] [(.int (own_ng N))])) (fun t k => XS.iloadN X0.here hx rfl (hb hby d3_22) rfl  k) ?_
          refine own_go (b := s₁.setTop (mkF m 24 #[iv (own_ng N), iv 0, iv (-100000), iv 5] [(.int (-100000)), (.int (own_ng N))])) (fun t k => XS.iloadN X0.here hx rfl (hb hby d3_23) rfl  k) ?_
          by_cases hc5 : (-100000 : Int32) < (own_ng N)
          · refine own_go (b := s₁.setTop (mkF m 27 #[iv (own_ng N), iv 0, iv (-100000), iv 5] [])) (fun t k => XS.icmpNo X0.here hx rfl (hb hby d3_24) rfl (tlt hc5).2.2.2 k) ?_
            refine own_go (b := s₁.setTop (mkF m 28 #[iv (own_ng N), iv 0, iv (-100000), iv 5] [(.int 5)])) (fun t k => XS.iloadN X0.here hx rfl (hb hby d3_27) rfl  k) ?_
            refine own_go (b := s₁.setTop (mkF m 29 #[iv (own_ng N), iv 0, iv (-100000), iv 5] [(.int 0), (.int 5)])) (fun t k => XS.iloadN X0.here hx rfl (hb hby d3_28) rfl  k) ?_
            refine own_go (b := s₁.setTop (mkF m 30 #[iv (own_ng N), iv 0, iv (-100000), iv 5] [(.int ((5 : Int32) + (0 : Int32)))])) (fun t k => XS.iadd X0.here hx rfl (hb hby d3_29) rfl k) ?_
            rw [show ((5 : Int32) + (0 : Int32)) = (5 : Int32) from by decide]
            exact own_retI X0 hx hlk hrt (hb hby d3_30) (Nat.le_of_ble_eq_true rfl) (Nat.le_of_ble_eq_true rfl) (⟨by first | rfl | (simp only [own_sz, eq_false hc1, eq_false hc2, eq_false hc3, eq_false hc4, eq_true hc5, if_true, if_false]; done) | (simp only [own_sz, eq_false hc1, eq_false hc2, eq_false hc3, eq_false hc4, eq_true hc5, if_true, if_false]; rfl) | (simp [own_sz, eq_false hc1, eq_false hc2, eq_false hc3, eq_false hc4, eq_true hc5]; done) | (simp [own_sz, eq_false hc1, eq_false hc2, eq_false hc3, eq_false hc4, eq_true hc5]; rfl), N0, e0⟩)
          · refine own_go (b := s₁.setTop (mkF m 31 #[iv (own_ng N), iv 0, iv (-100000), iv 5] [])) (fun t k => XS.icmpYes X0.here hx rfl (pc0 := 24) (pc' := 31) rfl (hb hby d3_24) rfl (flt hc5).2.2.2 (by decide) (by decide) k) ?_
            refine own_go (b := s₁.setTop (mkF m 33 #[iv (own_ng N), iv 0, iv (-100000), iv 5] [(.int 10)])) (fun t k => XS.bipush X0.here hx rfl (hb hby d3_31) k) ?_
            refine own_go (b := s₁.setTop (mkF m 34 #[iv (own_ng N), iv 0, iv (-100000), iv 5] [(.int (-100000)), (.int 10)])) (fun t k => XS.iloadN X0.here hx rfl (hb hby d3_33) rfl  k) ?_
            refine own_go (b := s₁.setTop (mkF m 35 #[iv (own_ng N), iv 0, iv (-100000), iv 5] [(.int ((10 : Int32) * (-100000 : Int32)))])) (fun t k => XS.imul X0.here hx rfl (hb hby d3_34) rfl k) ?_
            rw [show ((10 : Int32) * (-100000 : Int32)) = (-1000000 : Int32) from by decide]
            refine own_go (b := s₁.setTop (mkF m 36 #[iv (own_ng N), iv 0, iv (-1000000), iv 5] [])) (fun t k => XS.istoreN X0.here hx rfl (hb hby d3_35) rfl (l' := #[iv (own_ng N), iv 0, iv (-1000000), iv 5]) rfl k) ?_
            refine own_go (b := s₁.setTop (mkF m 39 #[iv (own_ng N), iv 0, iv (-1000000), iv 6] [])) (fun t k => XS.iinc X0.here hx rfl (hb hby d3_36) rfl (l' := #[iv (own_ng N), iv 0, iv (-1000000), iv 6]) rfl k) ?_
            refine own_go (b := s₁.setTop (mkF m 16 #[iv (own_ng N), iv 0, iv (-1000000), iv 6] [])) (fun t k => XS.goto X0.here hx rfl (pc0 := 39) (pc' := 16) rfl (hb hby d3_39) (by decide) (by decide) k) ?_
            refine own_go (b := s₁.setTop (mkF m 17 #[iv (own_ng N), iv 0, iv (-1000000), iv 6] [(.int 6)])) (fun t k => XS.iloadN X0.here hx rfl (hb hby d3_16) rfl  k) ?_
            refine own_go (b := s₁.setTop (mkF m 19 #[iv (own_ng N), iv 0, iv (-1000000), iv 6] [(.int 10), (.int 6)])) (fun t k => XS.bipush X0.here hx rfl (hb hby d3_17) k) ?_
            refine own_go (b := s₁.setTop (mkF m 22 #[iv (own_ng N), iv 0, iv (-1000000), iv 6] [])) (fun t k => XS.icmpNo X0.here hx rfl (hb hby d3_19) rfl (tlt (by decide : (6 : Int32) < (10 : Int32))).2.1 k) ?_
            refine own_go (b := s₁.setTop (mkF m 23 #[iv (own_ng N), iv 0, iv (-1000000), iv 6] [(.int (own_ng N))])) (fun t k => XS.iloadN X0.here hx rfl (hb hby d3_22) rfl  k) ?_
            refine own_go (b := s₁.setTop (mkF m 24 #[iv (own_ng N), iv 0, iv (-1000000), iv 6] [(.int (-1000000)), (.int (own_ng N))])) (fun t k => XS.iloadN X0.here hx rfl (hb hby d3_23) rfl  k) ?_
            by_cases hc6 : (-1000000 : Int32) < (own_ng N)
            · refine own_go (b := s₁.setTop (mkF m 27 #[iv (own_ng N), iv 0, iv (-1000000), iv 6] [])) (fun t k => XS.icmpNo X0.here hx rfl (hb hby d3_24) rfl (tlt hc6).2.2.2 k) ?_
              refine own_go (b := s₁.setTop (mkF m 28 #[iv (own_ng N), iv 0, iv (-1000000), iv 6] [(.int 6)])) (fun t k => XS.iloadN X0.here hx rfl (hb hby d3_27) rfl  k) ?_
              refine own_go (b := s₁.setTop (mkF m 29 #[iv (own_ng N), iv 0, iv (-1000000), iv 6] [(.int 0), (.int 6)])) (fun t k => XS.iloadN X0.here hx rfl (hb hby d3_28) rfl  k) ?_
              refine own_go (b := s₁.setTop (mkF m 30 #[iv (own_ng N), iv 0, iv (-1000000), iv 6] [(.int ((6 : Int32) + (0 : Int32)))])) (fun t k => XS.iadd X0.here hx rfl (hb hby d3_29) rfl k) ?_
              rw [show ((6 : Int32) + (0 : Int32)) = (6 : Int32) from by decide]
              exact own_retI X0 hx hlk hrt (hb hby d3_30) (Nat.le_of_ble_eq_true rfl) (Nat.le_of_ble_eq_true rfl) (⟨by first | rfl | (simp only [own_sz, eq_false hc1, eq_false hc2, eq_false hc3, eq_false hc4, eq_false hc5, eq_true hc6, if_true, if_false]; done) | (simp only [own_sz, eq_false hc1, eq_false hc2, eq_false hc3, eq_false hc4, eq_false hc5, eq_true hc6, if_true, if_false]; rfl) | (simp [own_sz, eq_false hc1, eq_false hc2, eq_false hc3, eq_false hc4, eq_false hc5, eq_true hc6]; done) | (simp [own_sz, eq_false hc1, eq_false hc2, eq_false hc3, eq_false hc4, eq_false hc5, eq_true hc6]; rfl), N0, e0⟩)
            · refine own_go (b := s₁.setTop (mkF m 31 #[iv (own_ng N), iv 0, iv (-1000000), iv 6] [])) (fun t k => XS.icmpYes X0.here hx rfl (pc0 := 24) (pc' := 31) rfl (hb hby d3_24) rfl (flt hc6).2.2.2 (by decide) (by decide) k) ?_
              refine own_go (b := s₁.setTop (mkF m 33 #[iv (own_ng N), iv 0, iv (-1000000), iv 6] [(.int 10)])) (fun t k => XS.bipush X0.here hx rfl (hb hby d3_31) k) ?_
              refine own_go (b := s₁.setTop (mkF m 34 #[iv (own_ng N), iv 0, iv (-1000000), iv 6] [(.int (-1000000)), (.int 10)])) (fun t k => XS.iloadN X0.here hx rfl (hb hby d3_33) rfl  k) ?_
              refine own_go (b := s₁.setTop (mkF m 35 #[iv (own_ng N), iv 0, iv (-1000000), iv 6] [(.int ((10 : Int32) * (-1000000 : Int32)))])) (fun t k => XS.imul X0.here hx rfl (hb hby d3_34) rfl k) ?_
              rw [show ((10 : Int32) * (-1000000 : Int32)) = (-10000000 : Int32) from by decide]
              refine own_go (b := s₁.setTop (mkF m 36 #[iv (own_ng N), iv 0, iv (-10000000), iv 6] [])) (fun t k => XS.istoreN X0.here hx rfl (hb hby d3_35) rfl (l' := #[iv (own_ng N), iv 0, iv (-10000000), iv 6]) rfl k) ?_
              refine own_go (b := s₁.setTop (mkF m 39 #[iv (own_ng N), iv 0, iv (-10000000), iv 7] [])) (fun t k => XS.iinc X0.here hx rfl (hb hby d3_36) rfl (l' := #[iv (own_ng N), iv 0, iv (-10000000), iv 7]) rfl k) ?_
              refine own_go (b := s₁.setTop (mkF m 16 #[iv (own_ng N), iv 0, iv (-10000000), iv 7] [])) (fun t k => XS.goto X0.here hx rfl (pc0 := 39) (pc' := 16) rfl (hb hby d3_39) (by decide) (by decide) k) ?_
              refine own_go (b := s₁.setTop (mkF m 17 #[iv (own_ng N), iv 0, iv (-10000000), iv 7] [(.int 7)])) (fun t k => XS.iloadN X0.here hx rfl (hb hby d3_16) rfl  k) ?_
              refine own_go (b := s₁.setTop (mkF m 19 #[iv (own_ng N), iv 0, iv (-10000000), iv 7] [(.int 10), (.int 7)])) (fun t k => XS.bipush X0.here hx rfl (hb hby d3_17) k) ?_
              refine own_go (b := s₁.setTop (mkF m 22 #[iv (own_ng N), iv 0, iv (-10000000), iv 7] [])) (fun t k => XS.icmpNo X0.here hx rfl (hb hby d3_19) rfl (tlt (by decide : (7 : Int32) < (10 : Int32))).2.1 k) ?_
              refine own_go (b := s₁.setTop (mkF m 23 #[iv (own_ng N), iv 0, iv (-10000000), iv 7] [(.int (own_ng N))])) (fun t k => XS.iloadN X0.here hx rfl (hb hby d3_22) rfl  k) ?_
              refine own_go (b := s₁.setTop (mkF m 24 #[iv (own_ng N), iv 0, iv (-10000000), iv 7] [(.int (-10000000)), (.int (own_ng N))])) (fun t k => XS.iloadN X0.here hx rfl (hb hby d3_23) rfl  k) ?_
              by_cases hc7 : (-10000000 : Int32) < (own_ng N)
              · refine own_go (b := s₁.setTop (mkF m 27 #[iv (own_ng N), iv 0, iv (-10000000), iv 7] [])) (fun t k => XS.icmpNo X0.here hx rfl (hb hby d3_24) rfl (tlt hc7).2.2.2 k) ?_
                refine own_go (b := s₁.setTop (mkF m 28 #[iv (own_ng N), iv 0, iv (-10000000), iv 7] [(.int 7)])) (fun t k => XS.iloadN X0.here hx rfl (hb hby d3_27) rfl  k) ?_
                refine own_go (b := s₁.setTop (mkF m 29 #[iv (own_ng N), iv 0, iv (-10000000), iv 7] [(.int 0), (.int 7)])) (fun t k => XS.iloadN X0.here hx rfl (hb hby d3_28) rfl  k) ?_
                refine own_go (b := s₁.setTop (mkF m 30 #[iv (own_ng N), iv 0, iv (-10000000), iv 7] [(.int ((7 : Int32) + (0 : Int32)))])) (fun t k => XS.iadd X0.here hx rfl (hb hby d3_29) rfl k) ?_
                rw [show ((7 : Int32) + (0 : Int32)) = (7 : Int32) from by decide]
                exact own_retI X0 hx hlk hrt (hb hby d3_30) (Nat.le_of_ble_eq_true rfl) (Nat.le_of_ble_eq_true rfl) (⟨by first | rfl | (simp only [own_sz, eq_false hc1, eq_false hc2, eq_false hc3, eq_false hc4, eq_false hc5, eq_false hc6, eq_true hc7, if_true, if_false]; done) | (simp only [own_sz, eq_false hc1, eq_false hc2, eq_false hc3, eq_false hc4, eq_false hc5, eq_false hc6, eq_true hc7, if_true, if_false]; rfl) | (simp [own_sz, eq_false hc1, eq_false hc2, eq_false hc3, eq_false hc4, eq_false hc5, eq_false hc6, eq_true hc7]; done) | (simp [own_sz, eq_false hc1, eq_false hc2, eq_false hc3, eq_false hc4, eq_false hc5, eq_false hc6, eq_true hc7]; rfl), N0, e0⟩)
              · refine own_go (b := s₁.setTop (mkF m 31 #[iv (own_ng N), iv 0, iv (-10000000), iv 7] [])) (fun t k => XS.icmpYes X0.here hx rfl (pc0 := 24) (pc' := 31) rfl (hb hby d3_24) rfl (flt hc7).2.2.2 (by decide) (by decide) k) ?_
                refine own_go (b := s₁.setTop (mkF m 33 #[iv (own_ng N), iv 0, iv (-10000000), iv 7] [(.int 10)])) (fun t k => XS.bipush X0.here hx rfl (hb hby d3_31) k) ?_
                refine own_go (b := s₁.setTop (mkF m 34 #[iv (own_ng N), iv 0, iv (-10000000), iv 7] [(.int (-10000000)), (.int 10)])) (fun t k => XS.iloadN X0.here hx rfl (hb hby d3_33) rfl  k) ?_
                refine own_go (b := s₁.setTop (mkF m 35 #[iv (own_ng N), iv 0, iv (-10000000), iv 7] [(.int ((10 : Int32) * (-10000000 : Int32)))])) (fun t k => XS.imul X0.here hx rfl (hb hby d3_34) rfl k) ?_
                rw [show ((10 : Int32) * (-10000000 : Int32)) = (-100000000 : Int32) from by decide]
                refine own_go (b := s₁.setTop (mkF m 36 #[iv (own_ng N), iv 0, iv (-100000000), iv 7] [])) (fun t k => XS.istoreN X0.here hx rfl (hb hby d3_35) rfl (l' := #[iv (own_ng N), iv 0, iv (-100000000), iv 7]) rfl k) ?_
                refine own_go (b := s₁.setTop (mkF m 39 #[iv (own_ng N), iv 0, iv (-100000000), iv 8] [])) (fun t k => XS.iinc X0.here hx rfl (hb hby d3_36) rfl (l' := #[iv (own_ng N), iv 0, iv (-100000000), iv 8]) rfl k) ?_
                refine own_go (b := s₁.setTop (mkF m 16 #[iv (own_ng N), iv 0, iv (-100000000), iv 8] [])) (fun t k => XS.goto X0.here hx rfl (pc0 := 39) (pc' := 16) rfl (hb hby d3_39) (by decide) (by decide) k) ?_
                refine own_go (b := s₁.setTop (mkF m 17 #[iv (own_ng N), iv 0, iv (-100000000), iv 8] [(.int 8)])) (fun t k => XS.iloadN X0.here hx rfl (hb hby d3_16) rfl  k) ?_
                refine own_go (b := s₁.setTop (mkF m 19 #[iv (own_ng N), iv 0, iv (-100000000), iv 8] [(.int 10), (.int 8)])) (fun t k => XS.bipush X0.here hx rfl (hb hby d3_17) k) ?_
                refine own_go (b := s₁.setTop (mkF m 22 #[iv (own_ng N), iv 0, iv (-100000000), iv 8] [])) (fun t k => XS.icmpNo X0.here hx rfl (hb hby d3_19) rfl (tlt (by decide : (8 : Int32) < (10 : Int32))).2.1 k) ?_
                refine own_go (b := s₁.setTop (mkF m 23 #[iv (own_ng N), iv 0, iv (-100000000), iv 8] [(.int (own_ng N))])) (fun t k => XS.iloadN X0.here hx rfl (hb hby d3_22) rfl  k) ?_
                refine own_go (b := s₁.setTop (mkF m 24 #[iv (own_ng N), iv 0, iv (-100000000), iv 8] [(.int (-100000000)), (.int (own_ng N))])) (fun t k => XS.iloadN X0.here hx rfl (hb hby d3_23) rfl  k) ?_
                by_cases hc8 : (-100000000 : Int32) < (own_ng N)
                · refine own_go (b := s₁.setTop (mkF m 27 #[iv (own_ng N), iv 0, iv (-100000000), iv 8] [])) (fun t k => XS.icmpNo X0.here hx rfl (hb hby d3_24) rfl (tlt hc8).2.2.2 k) ?_
                  refine own_go (b := s₁.setTop (mkF m 28 #[iv (own_ng N), iv 0, iv (-100000000), iv 8] [(.int 8)])) (fun t k => XS.iloadN X0.here hx rfl (hb hby d3_27) rfl  k) ?_
                  refine own_go (b := s₁.setTop (mkF m 29 #[iv (own_ng N), iv 0, iv (-100000000), iv 8] [(.int 0), (.int 8)])) (fun t k => XS.iloadN X0.here hx rfl (hb hby d3_28) rfl  k) ?_
                  refine own_go (b := s₁.setTop (mkF m 30 #[iv (own_ng N), iv 0, iv (-100000000), iv 8] [(.int ((8 : Int32) + (0 : Int32)))])) (fun t k => XS.iadd X0.here hx rfl (hb hby d3_29) rfl k) ?_
                  rw [show ((8 : Int32) + (0 : Int32)) = (8 : Int32) from by decide]
                  exact own_retI X0 hx hlk hrt (hb hby d3_30) (Nat.le_of_ble_eq_true rfl) (Nat.le_of_ble_eq_true rfl) (⟨by first | rfl | (simp only [own_sz, eq_false hc1, eq_false hc2, eq_false hc3, eq_false hc4, eq_false hc5, eq_false hc6, eq_false hc7, eq_true hc8, if_true, if_false]; done) | (simp only [own_sz, eq_false hc1, eq_false hc2, eq_false hc3, eq_false hc4, eq_false hc5, eq_false hc6, eq_false hc7, eq_true hc8, if_true, if_false]; rfl) | (simp [own_sz, eq_false hc1, eq_false hc2, eq_false hc3, eq_false hc4, eq_false hc5, eq_false hc6, eq_false hc7, eq_true hc8]; done) | (simp [own_sz, eq_false hc1, eq_false hc2, eq_false hc3, eq_false hc4, eq_false hc5, eq_false hc6, eq_false hc7, eq_true hc8]; rfl), N0, e0⟩)
                · refine own_go (b := s₁.setTop (mkF m 31 #[iv (own_ng N), iv 0, iv (-100000000), iv 8] [])) (fun t k => XS.icmpYes X0.here hx rfl (pc0 := 24) (pc' := 31) rfl (hb hby d3_24) rfl (flt hc8).2.2.2 (by decide) (by decide) k) ?_
                  refine own_go (b := s₁.setTop (mkF m 33 #[iv (own_ng N), iv 0, iv (-100000000), iv 8] [(.int 10)])) (fun t k => XS.bipush X0.here hx rfl (hb hby d3_31) k) ?_
                  refine own_go (b := s₁.setTop (mkF m 34 #[iv (own_ng N), iv 0, iv (-100000000), iv 8] [(.int (-100000000)), (.int 10)])) (fun t k => XS.iloadN X0.here hx rfl (hb hby d3_33) rfl  k) ?_
                  refine own_go (b := s₁.setTop (mkF m 35 #[iv (own_ng N), iv 0, iv (-100000000), iv 8] [(.int ((10 : Int32) * (-100000000 : Int32)))])) (fun t k => XS.imul X0.here hx rfl (hb hby d3_34) rfl k) ?_
                  rw [show ((10 : Int32) * (-100000000 : Int32)) = (-1000000000 : Int32) from by decide]
                  refine own_go (b := s₁.setTop (mkF m 36 #[iv (own_ng N), iv 0, iv (-1000000000), iv 8] [])) (fun t k => XS.istoreN X0.here hx rfl (hb hby d3_35) rfl (l' := #[iv (own_ng N), iv 0, iv (-1000000000), iv 8]) rfl k) ?_
                  refine own_go (b := s₁.setTop (mkF m 39 #[iv (own_ng N), iv 0, iv (-1000000000), iv 9] [])) (fun t k => XS.iinc X0.here hx rfl (hb hby d3_36) rfl (l' := #[iv (own_ng N), iv 0, iv (-1000000000), iv 9]) rfl k) ?_
                  refine own_go (b := s₁.setTop (mkF m 16 #[iv (own_ng N), iv 0, iv (-1000000000), iv 9] [])) (fun t k => XS.goto X0.here hx rfl (pc0 := 39) (pc' := 16) rfl (hb hby d3_39) (by decide) (by decide) k) ?_
                  refine own_go (b := s₁.setTop (mkF m 17 #[iv (own_ng N), iv 0, iv (-1000000000), iv 9] [(.int 9)])) (fun t k => XS.iloadN X0.here hx rfl (hb hby d3_16) rfl  k) ?_
                  refine own_go (b := s₁.setTop (mkF m 19 #[iv (own_ng N), iv 0, iv (-1000000000), iv 9] [(.int 10), (.int 9)])) (fun t k => XS.bipush X0.here hx rfl (hb hby d3_17) k) ?_
                  refine own_go (b := s₁.setTop (mkF m 22 #[iv (own_ng N), iv 0, iv (-1000000000), iv 9] [])) (fun t k => XS.icmpNo X0.here hx rfl (hb hby d3_19) rfl (tlt (by decide : (9 : Int32) < (10 : Int32))).2.1 k) ?_
                  refine own_go (b := s₁.setTop (mkF m 23 #[iv (own_ng N), iv 0, iv (-1000000000), iv 9] [(.int (own_ng N))])) (fun t k => XS.iloadN X0.here hx rfl (hb hby d3_22) rfl  k) ?_
                  refine own_go (b := s₁.setTop (mkF m 24 #[iv (own_ng N), iv 0, iv (-1000000000), iv 9] [(.int (-1000000000)), (.int (own_ng N))])) (fun t k => XS.iloadN X0.here hx rfl (hb hby d3_23) rfl  k) ?_
                  by_cases hc9 : (-1000000000 : Int32) < (own_ng N)
                  · refine own_go (b := s₁.setTop (mkF m 27 #[iv (own_ng N), iv 0, iv (-1000000000), iv 9] [])) (fun t k => XS.icmpNo X0.here hx rfl (hb hby d3_24) rfl (tlt hc9).2.2.2 k) ?_
                    refine own_go (b := s₁.setTop (mkF m 28 #[iv (own_ng N), iv 0, iv (-1000000000), iv 9] [(.int 9)])) (fun t k => XS.iloadN X0.here hx rfl (hb hby d3_27) rfl  k) ?_
                    refine own_go (b := s₁.setTop (mkF m 29 #[iv (own_ng N), iv 0, iv (-1000000000), iv 9] [(.int 0), (.int 9)])) (fun t k => XS.iloadN X0.here hx rfl (hb hby d3_28) rfl  k) ?_
                    refine own_go (b := s₁.setTop (mkF m 30 #[iv (own_ng N), iv 0, iv (-1000000000), iv 9] [(.int ((9 : Int32) + (0 : Int32)))])) (fun t k => XS.iadd X0.here hx rfl (hb hby d3_29) rfl k) ?_
                    rw [show ((9 : Int32) + (0 : Int32)) = (9 : Int32) from by decide]
                    exact own_retI X0 hx hlk hrt (hb hby d3_30) (Nat.le_of_ble_eq_true rfl) (Nat.le_of_ble_eq_true rfl) (⟨by first | rfl | (simp only [own_sz, eq_false hc1, eq_false hc2, eq_false hc3, eq_false hc4, eq_false hc5, eq_false hc6, eq_false hc7, eq_false hc8, eq_true hc9, if_true, if_false]; done) | (simp only [own_sz, eq_false hc1, eq_false hc2, eq_false hc3, eq_false hc4, eq_false hc5, eq_false hc6, eq_false hc7, eq_false hc8, eq_true hc9, if_true, if_false]; rfl) | (simp [own_sz, eq_false hc1, eq_false hc2, eq_false hc3, eq_false hc4, eq_false hc5, eq_false hc6, eq_false hc7, eq_false hc8, eq_true hc9]; done) | (simp [own_sz, eq_false hc1, eq_false hc2, eq_false hc3, eq_false hc4, eq_false hc5, eq_false hc6, eq_false hc7, eq_false hc8, eq_true hc9]; rfl), N0, e0⟩)
                  · refine own_go (b := s₁.setTop (mkF m 31 #[iv (own_ng N), iv 0, iv (-1000000000), iv 9] [])) (fun t k => XS.icmpYes X0.here hx rfl (pc0 := 24) (pc' := 31) rfl (hb hby d3_24) rfl (flt hc9).2.2.2 (by decide) (by decide) k) ?_
                    refine own_go (b := s₁.setTop (mkF m 33 #[iv (own_ng N), iv 0, iv (-1000000000), iv 9] [(.int 10)])) (fun t k => XS.bipush X0.here hx rfl (hb hby d3_31) k) ?_
                    refine own_go (b := s₁.setTop (mkF m 34 #[iv (own_ng N), iv 0, iv (-1000000000), iv 9] [(.int (-1000000000)), (.int 10)])) (fun t k => XS.iloadN X0.here hx rfl (hb hby d3_33) rfl  k) ?_
                    refine own_go (b := s₁.setTop (mkF m 35 #[iv (own_ng N), iv 0, iv (-1000000000), iv 9] [(.int ((10 : Int32) * (-1000000000 : Int32)))])) (fun t k => XS.imul X0.here hx rfl (hb hby d3_34) rfl k) ?_
                    rw [show ((10 : Int32) * (-1000000000 : Int32)) = (-1410065408 : Int32) from by decide]
                    refine own_go (b := s₁.setTop (mkF m 36 #[iv (own_ng N), iv 0, iv (-1410065408), iv 9] [])) (fun t k => XS.istoreN X0.here hx rfl (hb hby d3_35) rfl (l' := #[iv (own_ng N), iv 0, iv (-1410065408), iv 9]) rfl k) ?_
                    refine own_go (b := s₁.setTop (mkF m 39 #[iv (own_ng N), iv 0, iv (-1410065408), iv 10] [])) (fun t k => XS.iinc X0.here hx rfl (hb hby d3_36) rfl (l' := #[iv (own_ng N), iv 0, iv (-1410065408), iv 10]) rfl k) ?_
                    refine own_go (b := s₁.setTop (mkF m 16 #[iv (own_ng N), iv 0, iv (-1410065408), iv 10] [])) (fun t k => XS.goto X0.here hx rfl (pc0 := 39) (pc' := 16) rfl (hb hby d3_39) (by decide) (by decide) k) ?_
                    refine own_go (b := s₁.setTop (mkF m 17 #[iv (own_ng N), iv 0, iv (-1410065408), iv 10] [(.int 10)])) (fun t k => XS.iloadN X0.here hx rfl (hb hby d3_16) rfl  k) ?_
                    refine own_go (b := s₁.setTop (mkF m 19 #[iv (own_ng N), iv 0, iv (-1410065408), iv 10] [(.int 10), (.int 10)])) (fun t k => XS.bipush X0.here hx rfl (hb hby d3_17) k) ?_
                    refine own_go (b := s₁.setTop (mkF m 42 #[iv (own_ng N), iv 0, iv (-1410065408), iv 10] [])) (fun t k => XS.icmpYes X0.here hx rfl (pc0 := 19) (pc' := 42) rfl (hb hby d3_19) rfl (flt (by decide : ¬ ((10 : Int32) < (10 : Int32)))).2.1 (by decide) (by decide) k) ?_
                    refine own_go (b := s₁.setTop (mkF m 44 #[iv (own_ng N), iv 0, iv (-1410065408), iv 10] [(.int 10)])) (fun t k => XS.bipush X0.here hx rfl (hb hby d3_42) k) ?_
                    refine own_go (b := s₁.setTop (mkF m 45 #[iv (own_ng N), iv 0, iv (-1410065408), iv 10] [(.int 0), (.int 10)])) (fun t k => XS.iloadN X0.here hx rfl (hb hby d3_44) rfl  k) ?_
                    refine own_go (b := s₁.setTop (mkF m 46 #[iv (own_ng N), iv 0, iv (-1410065408), iv 10] [(.int ((10 : Int32) + (0 : Int32)))])) (fun t k => XS.iadd X0.here hx rfl (hb hby d3_45) rfl k) ?_
                    rw [show ((10 : Int32) + (0 : Int32)) = (10 : Int32) from by decide]
                    exact own_retI X0 hx hlk hrt (hb hby d3_46) (Nat.le_of_ble_eq_true rfl) (Nat.le_of_ble_eq_true rfl) (⟨by first | rfl | (simp only [own_sz, eq_false hc1, eq_false hc2, eq_false hc3, eq_false hc4, eq_false hc5, eq_false hc6, eq_false hc7, eq_false hc8, eq_false hc9, if_true, if_false]; done) | (simp only [own_sz, eq_false hc1, eq_false hc2, eq_false hc3, eq_false hc4, eq_false hc5, eq_false hc6, eq_false hc7, eq_false hc8, eq_false hc9, if_true, if_false]; rfl) | (simp [own_sz, eq_false hc1, eq_false hc2, eq_false hc3, eq_false hc4, eq_false hc5, eq_false hc6, eq_false hc7, eq_false hc8, eq_false hc9]; done) | (simp [own_sz, eq_false hc1, eq_false hc2, eq_false hc3, eq_false hc4, eq_false hc5, eq_false hc6, eq_false hc7, eq_false hc8, eq_false hc9]; rfl), N0, e0⟩)
theorem d4_0 : decode jdk_33_method_12_code 0 = .ok (.iload_n 1, 1) := by decide +kernel
theorem d4_1 : decode jdk_33_method_12_code 1 = .ok (.istore 5, 2) := by decide +kernel
theorem d4_3 : decode jdk_33_method_12_code 3 = .ok (.iload_n 0, 1) := by decide +kernel
theorem d4_4 : decode jdk_33_method_12_code 4 = .ok (.ifCond .ge 7, 3) := by decide +kernel
theorem d4_7 : decode jdk_33_method_12_code 7 = .ok (.iconst 1, 1) := by decide +kernel
theorem d4_8 : decode jdk_33_method_12_code 8 = .ok (.goto 4, 3) := by decide +kernel
theorem d4_11 : decode jdk_33_method_12_code 11 = .ok (.iconst 0, 1) := by decide +kernel
theorem d4_12 : decode jdk_33_method_12_code 12 = .ok (.istore 6, 2) := by decide +kernel
theorem d4_14 : decode jdk_33_method_12_code 14 = .ok (.iload 6, 2) := by decide +kernel
theorem d4_16 : decode jdk_33_method_12_code 16 = .ok (.ifCond .ne 6, 3) := by decide +kernel
theorem d4_19 : decode jdk_33_method_12_code 19 = .ok (.iload_n 0, 1) := by decide +kernel
theorem d4_20 : decode jdk_33_method_12_code 20 = .ok (.ineg, 1) := by decide +kernel
theorem d4_21 : decode jdk_33_method_12_code 21 = .ok (.istore_n 0, 1) := by decide +kernel
theorem d4_22 : decode jdk_33_method_12_code 22 = .ok (.iload_n 0, 1) := by decide +kernel
theorem d4_23 : decode jdk_33_method_12_code 23 = .ok (.bipush (-100), 2) := by decide +kernel
theorem d4_25 : decode jdk_33_method_12_code 25 = .ok (.if_icmp .gt 47, 3) := by decide +kernel
theorem d4_28 : decode jdk_33_method_12_code 28 = .ok (.iload_n 0, 1) := by decide +kernel
theorem d4_29 : decode jdk_33_method_12_code 29 = .ok (.bipush 100, 2) := by decide +kernel
theorem d4_31 : decode jdk_33_method_12_code 31 = .ok (.idiv, 1) := by decide +kernel
theorem d4_32 : decode jdk_33_method_12_code 32 = .ok (.istore_n 3, 1) := by decide +kernel
theorem d4_33 : decode jdk_33_method_12_code 33 = .ok (.iload_n 3, 1) := by decide +kernel
theorem d4_34 : decode jdk_33_method_12_code 34 = .ok (.bipush 100, 2) := by decide +kernel
theorem d4_36 : decode jdk_33_method_12_code 36 = .ok (.imul, 1) := by decide +kernel
theorem d4_37 : decode jdk_33_method_12_code 37 = .ok (.iload_n 0, 1) := by decide +kernel
theorem d4_38 : decode jdk_33_method_12_code 38 = .ok (.isub, 1) := by decide +kernel
theorem d4_39 : decode jdk_33_method_12_code 39 = .ok (.istore 4, 2) := by decide +kernel
theorem d4_41 : decode jdk_33_method_12_code 41 = .ok (.iload_n 3, 1) := by decide +kernel
theorem d4_42 : decode jdk_33_method_12_code 42 = .ok (.istore_n 0, 1) := by decide +kernel
theorem d4_43 : decode jdk_33_method_12_code 43 = .ok (.aload_n 2, 1) := by decide +kernel
theorem d4_44 : decode jdk_33_method_12_code 44 = .ok (.iinc 5 (-1), 3) := by decide +kernel
theorem d4_47 : decode jdk_33_method_12_code 47 = .ok (.iload 5, 2) := by decide +kernel
theorem d4_49 : decode jdk_33_method_12_code 49 = .ok (.getstatic 83, 3) := by decide +kernel
theorem d4_52 : decode jdk_33_method_12_code 52 = .ok (.iload 4, 2) := by decide +kernel
theorem d4_54 : decode jdk_33_method_12_code 54 = .ok (.baload, 1) := by decide +kernel
theorem d4_55 : decode jdk_33_method_12_code 55 = .ok (.bastore, 1) := by decide +kernel
theorem d4_56 : decode jdk_33_method_12_code 56 = .ok (.aload_n 2, 1) := by decide +kernel
theorem d4_57 : decode jdk_33_method_12_code 57 = .ok (.iinc 5 (-1), 3) := by decide +kernel
theorem d4_60 : decode jdk_33_method_12_code 60 = .ok (.iload 5, 2) := by decide +kernel
theorem d4_62 : decode jdk_33_method_12_code 62 = .ok (.getstatic 87, 3) := by decide +kernel
theorem d4_65 : decode jdk_33_method_12_code 65 = .ok (.iload 4, 2) := by decide +kernel
theorem d4_67 : decode jdk_33_method_12_code 67 = .ok (.baload, 1) := by decide +kernel
theorem d4_68 : decode jdk_33_method_12_code 68 = .ok (.bastore, 1) := by decide +kernel
theorem d4_69 : decode jdk_33_method_12_code 69 = .ok (.goto (-47), 3) := by decide +kernel
theorem d4_72 : decode jdk_33_method_12_code 72 = .ok (.aload_n 2, 1) := by decide +kernel
theorem d4_73 : decode jdk_33_method_12_code 73 = .ok (.iinc 5 (-1), 3) := by decide +kernel
theorem d4_76 : decode jdk_33_method_12_code 76 = .ok (.iload 5, 2) := by decide +kernel
theorem d4_78 : decode jdk_33_method_12_code 78 = .ok (.getstatic 83, 3) := by decide +kernel
theorem d4_81 : decode jdk_33_method_12_code 81 = .ok (.iload_n 0, 1) := by decide +kernel
theorem d4_82 : decode jdk_33_method_12_code 82 = .ok (.ineg, 1) := by decide +kernel
theorem d4_83 : decode jdk_33_method_12_code 83 = .ok (.baload, 1) := by decide +kernel
theorem d4_84 : decode jdk_33_method_12_code 84 = .ok (.bastore, 1) := by decide +kernel
theorem d4_85 : decode jdk_33_method_12_code 85 = .ok (.iload_n 0, 1) := by decide +kernel
theorem d4_86 : decode jdk_33_method_12_code 86 = .ok (.bipush (-9), 2) := by decide +kernel
theorem d4_88 : decode jdk_33_method_12_code 88 = .ok (.if_icmp .ge 16, 3) := by decide +kernel
theorem d4_91 : decode jdk_33_method_12_code 91 = .ok (.aload_n 2, 1) := by decide +kernel
theorem d4_92 : decode jdk_33_method_12_code 92 = .ok (.iinc 5 (-1), 3) := by decide +kernel
theorem d4_95 : decode jdk_33_method_12_code 95 = .ok (.iload 5, 2) := by decide +kernel
theorem d4_97 : decode jdk_33_method_12_code 97 = .ok (.getstatic 87, 3) := by decide +kernel
theorem d4_100 : decode jdk_33_method_12_code 100 = .ok (.iload_n 0, 1) := by decide +kernel
theorem d4_101 : decode jdk_33_method_12_code 101 = .ok (.ineg, 1) := by decide +kernel
theorem d4_102 : decode jdk_33_method_12_code 102 = .ok (.baload, 1) := by decide +kernel
theorem d4_103 : decode jdk_33_method_12_code 103 = .ok (.bastore, 1) := by decide +kernel
theorem d4_104 : decode jdk_33_method_12_code 104 = .ok (.iload 6, 2) := by decide +kernel
theorem d4_106 : decode jdk_33_method_12_code 106 = .ok (.ifCond .eq 12, 3) := by decide +kernel
theorem d4_109 : decode jdk_33_method_12_code 109 = .ok (.aload_n 2, 1) := by decide +kernel
theorem d4_110 : decode jdk_33_method_12_code 110 = .ok (.iinc 5 (-1), 3) := by decide +kernel
theorem d4_113 : decode jdk_33_method_12_code 113 = .ok (.iload 5, 2) := by decide +kernel
theorem d4_115 : decode jdk_33_method_12_code 115 = .ok (.bipush 45, 2) := by decide +kernel
theorem d4_117 : decode jdk_33_method_12_code 117 = .ok (.bastore, 1) := by decide +kernel
theorem d4_118 : decode jdk_33_method_12_code 118 = .ok (.iload 5, 2) := by decide +kernel
theorem d4_120 : decode jdk_33_method_12_code 120 = .ok (.ireturn, 1) := by decide +kernel
theorem ef_4_1 (m : MethodId) (ct : Int32) (sz : Int32) (bb : Addr) : entryFrame m #[(.int ct), (.int sz), (.ref bb)] 7 = mkF m 0 #[iv ct, iv sz, rv bb, .unset, .unset, .unset, .unset] [] := by first | (simp [entryFrame, mkF, argsToLocals, Value.category]; done) | rfl
def Q4_1 (Z : State) (ct : Int32) (sz : Int32) (bb : Addr) (N : Nat) (kb : ClassId) (dO : Addr) (dT : Addr) (cO : Cell) (cT : Cell) (h0 : Heap) (n0 : Nat) (v : Option Value) (h : Heap) (L : List Loc) : Prop := v = some (.int 0) ∧ Fr n0 L ∧ Keep h0 h [bb] ∧ Arv Z h bb kb .byte (Int32.ofNat 1) ((own_digs N 1).map Value.int) (.int (0 : Int32))
set_option maxRecDepth 65536 in
set_option maxHeartbeats 40000000 in
theorem rm4_1 (l : Launch) (Z : State) (a0 : Array Value) (hw : ∀ d ∈ tables_1, d.before a0 Z = true) (ws : List Jvm.Cond) (ct : Int32) (sz : Int32) (bb : Addr) (N : Nat) (kb : ClassId) (dO : Addr) (dT : Addr) (cO : Cell) (cT : Cell) (h0 : Heap) (n0 : Nat) (Z0 : n0 ≤ h0.size) (hct : ct = N.toInt32) (hct1 : sz = (1 : Int32)) (hN : N < 2147483648) (hlo : 0 ≤ N) (hhi : N < 10) (SO : Sta Z Z.heap "java/lang/Integer" "DigitOnes" "[B" (.ref dO)) (ST : Sta Z Z.heap "java/lang/Integer" "DigitTens" "[B" (.ref dT)) (AO : Arr Z Z.heap dO cO .byte) (AT : Arr Z Z.heap dT cT .byte) (hO : ∀ r : Nat, r < 100 → ¬ (r.toInt32 < 0 ∨ cO.slots.size ≤ r.toInt32.toNatClampNeg) ∧ cO.slots[r.toInt32.toNatClampNeg]? = some (.int (own_d r))) (hT : ∀ r : Nat, r < 100 → ¬ (r.toInt32 < 0 ∨ cT.slots.size ≤ r.toInt32.toNatClampNeg) ∧ cT.slots[r.toInt32.toNatClampNeg]? = some (.int (own_d (r / 10)))) (Vb : Arv Z h0 bb kb .byte (1 : Int32) [.int (0 : Int32)] (.int (0 : Int32))) (gb : n0 ≤ bb) (Od : Old Z n0 h0) :
    MetFree l (⟨"java/lang/Integer", "getChars", "(II[B)I"⟩ : MethodName) (head1 (Jvm.Cond.code (⟨"java/lang/Integer", "getChars", "(II[B)I"⟩ : MethodName) jdk_33_method_12_code 7 (some .int) :: ws) ({ frames := 0, cells := 0, slots := 0, locals := 0 } : Room)) (fun a U => a = #[(.int ct), (.int sz), (.ref bb)] ∧ Z.Warmed39 U.vm ∧ U.heap = h0) (fun _ _ _ _ _ => True) (fun _ U o U' => ∃ v L, o = .returned v ∧ Q4_1 Z ct sz bb N kb dO dT cO cT h0 n0 v U'.heap L ∧ FrameEnd U o U' L ({ frames := 0, cells := 0, slots := 0, locals := 0 } : Room).cells ({ frames := 0, cells := 0, slots := 0, locals := 0 } : Room).slots) := by
  refine MetFree.of_bodySF (plainFor_of_name pn_0) hisR ?_
  intro p e s m args below meth c s₁ Bd hml0 hP hK
  obtain ⟨rfl, hZ, hh⟩ := hP
  have hx := Bd.exec
  have hby := Bd.bytes
  have hml : c.maxLocals = 7 := hml0
  have hown : s.vm.findClass "java/lang/Integer" = some m.cls := findClass_of_methodNamed Bd.named
  have hnm := (name_of_methodNamed Bd.named Bd.method).1
  have hlk : meth.locks = false := Bd.notSynchronized
  have hrt := Bd.returns
  have X0 : Stand p l e ({ frames := 0, cells := 0, slots := 0, locals := 0 } : Room) s m #[(.int ct), (.int sz), (.ref bb)] below meth c s₁ [] 0 0 := Stand.of_body Bd
  have e0 : s₁.heap = h0 := by rw [← hh, Bd.state]; rfl
  have N0 := Fr.nil n0
  show own_Endz p.tables e below (own_EndQ s ({ frames := 0, cells := 0, slots := 0, locals := 0 } : Room).cells ({ frames := 0, cells := 0, slots := 0, locals := 0 } : Room).slots (Q4_1 Z ct sz bb N kb dO dT cO cT h0 n0)) (s₁.setTop (entryFrame m #[(.int ct), (.int sz), (.ref bb)] 7))
  refine own_cast (ef_4_1 m ct sz bb) ?_
  subst hct
  subst hct1
  refine own_go (b := s₁.setTop (mkF m 1 #[iv (N.toInt32), iv 1, rv bb, .unset, .unset, .unset, .unset] [(.int 1)])) (fun t k => XS.iloadN X0.here hx rfl (hb hby d4_0) rfl  k) ?_
  refine own_go (b := s₁.setTop (mkF m 3 #[iv (N.toInt32), iv 1, rv bb, .unset, .unset, iv 1, .unset] [])) (fun t k => XS.istore X0.here hx rfl (hb hby d4_1) rfl (l' := #[iv (N.toInt32), iv 1, rv bb, .unset, .unset, iv 1, .unset]) rfl k) ?_
  refine own_go (b := s₁.setTop (mkF m 4 #[iv (N.toInt32), iv 1, rv bb, .unset, .unset, iv 1, .unset] [(.int (N.toInt32))])) (fun t k => XS.iloadN X0.here hx rfl (hb hby d4_3) rfl  k) ?_
  refine own_go (b := s₁.setTop (mkF m 11 #[iv (N.toInt32), iv 1, rv bb, .unset, .unset, iv 1, .unset] [])) (fun t k => XS.ifYes X0.here hx rfl (pc0 := 4) (pc' := 11) rfl (hb hby d4_4) rfl ((if0 _ _).trans (flt (own_nn hN)).2.1) (by decide) (by decide) k) ?_
  refine own_go (b := s₁.setTop (mkF m 12 #[iv (N.toInt32), iv 1, rv bb, .unset, .unset, iv 1, .unset] [(.int 0)])) (fun t k => XS.iconst X0.here hx rfl (hb hby d4_11) k) ?_
  refine own_go (b := s₁.setTop (mkF m 14 #[iv (N.toInt32), iv 1, rv bb, .unset, .unset, iv 1, iv 0] [])) (fun t k => XS.istore X0.here hx rfl (hb hby d4_12) rfl (l' := #[iv (N.toInt32), iv 1, rv bb, .unset, .unset, iv 1, iv 0]) rfl k) ?_
  refine own_go (b := s₁.setTop (mkF m 16 #[iv (N.toInt32), iv 1, rv bb, .unset, .unset, iv 1, iv 0] [(.int 0)])) (fun t k => XS.iload X0.here hx rfl (hb hby d4_14) rfl  k) ?_
  refine own_go (b := s₁.setTop (mkF m 19 #[iv (N.toInt32), iv 1, rv bb, .unset, .unset, iv 1, iv 0] [])) (fun t k => XS.ifNo X0.here hx rfl (hb hby d4_16) rfl ((if0 _ _).trans (teq (rfl : (0 : Int32) = (0 : Int32))).2) k) ?_
  refine own_go (b := s₁.setTop (mkF m 20 #[iv (N.toInt32), iv 1, rv bb, .unset, .unset, iv 1, iv 0] [(.int (N.toInt32))])) (fun t k => XS.iloadN X0.here hx rfl (hb hby d4_19) rfl  k) ?_
  refine own_go (b := s₁.setTop (mkF m 21 #[iv (N.toInt32), iv 1, rv bb, .unset, .unset, iv 1, iv 0] [(.int (-(N.toInt32)))])) (fun t k => XS.ineg X0.here hx rfl (hb hby d4_20) rfl k) ?_
  refine own_go (b := s₁.setTop (mkF m 22 #[iv (-(N.toInt32)), iv 1, rv bb, .unset, .unset, iv 1, iv 0] [])) (fun t k => XS.istoreN X0.here hx rfl (hb hby d4_21) rfl (l' := #[iv (-(N.toInt32)), iv 1, rv bb, .unset, .unset, iv 1, iv 0]) rfl k) ?_
  show own_Endz p.tables e below (own_EndQ s ({ frames := 0, cells := 0, slots := 0, locals := 0 } : Room).cells ({ frames := 0, cells := 0, slots := 0, locals := 0 } : Room).slots (Q4_1 Z ((N.toInt32)) ((1 : Int32)) bb N kb dO dT cO cT h0 n0)) (s₁.setTop (mkF m 22 #[iv (own_ng N), iv 1, rv bb, .unset, .unset, iv 1, iv 0] []))
  refine own_go (b := s₁.setTop (mkF m 23 #[iv (own_ng N), iv 1, rv bb, .unset, .unset, iv 1, iv 0] [(.int (own_ng N))])) (fun t k => XS.iloadN X0.here hx rfl (hb hby d4_22) rfl  k) ?_
  refine own_go (b := s₁.setTop (mkF m 25 #[iv (own_ng N), iv 1, rv bb, .unset, .unset, iv 1, iv 0] [(.int (-100)), (.int (own_ng N))])) (fun t k => XS.bipush X0.here hx rfl (hb hby d4_23) k) ?_
  refine own_go (b := s₁.setTop (mkF m 72 #[iv (own_ng N), iv 1, rv bb, .unset, .unset, iv 1, iv 0] [])) (fun t k => XS.icmpYes X0.here hx rfl (pc0 := 25) (pc' := 72) rfl (hb hby d4_25) rfl (tlt (own_ng_gt (m := 100) (by omega) (by decide) (by omega))).2.2.1 (by decide) (by decide) k) ?_
  refine own_go (b := s₁.setTop (mkF m 73 #[iv (own_ng N), iv 1, rv bb, .unset, .unset, iv 1, iv 0] [(.ref bb)])) (fun t k => XS.aloadN X0.here hx rfl (hb hby d4_72) rfl rfl k) ?_
  refine own_go (b := s₁.setTop (mkF m 76 #[iv (own_ng N), iv 1, rv bb, .unset, .unset, iv 0, iv 0] [(.ref bb)])) (fun t k => XS.iinc X0.here hx rfl (hb hby d4_73) rfl (l' := #[iv (own_ng N), iv 1, rv bb, .unset, .unset, iv 0, iv 0]) rfl k) ?_
  refine own_go (b := s₁.setTop (mkF m 78 #[iv (own_ng N), iv 1, rv bb, .unset, .unset, iv 0, iv 0] [(.int 0), (.ref bb)])) (fun t k => XS.iload X0.here hx rfl (hb hby d4_76) rfl  k) ?_
  obtain ⟨T1, X1, e1, st1⟩ := getS2 X0 hx hZ hown (host := "") (Or.inl (hw _ (List.mem_of_getElem? (i := 20) rfl))) Via.refl e0 (SO.ext Od.2) (g := (mkF m 78 #[iv (own_ng N), iv 1, rv bb, .unset, .unset, iv 0, iv 0] [(.int 0), (.ref bb)])) rfl (hb hby d4_78)
  refine own_go (b := T1.setTop (mkF m 81 #[iv (own_ng N), iv 1, rv bb, .unset, .unset, iv 0, iv 0] [(.ref dO), (.int 0), (.ref bb)])) st1 ?_
  refine own_go (b := T1.setTop (mkF m 82 #[iv (own_ng N), iv 1, rv bb, .unset, .unset, iv 0, iv 0] [(.int (own_ng N)), (.ref dO), (.int 0), (.ref bb)])) (fun t k => XS.iloadN X1.here hx rfl (hb hby d4_81) rfl  k) ?_
  refine own_go (b := T1.setTop (mkF m 83 #[iv (own_ng N), iv 1, rv bb, .unset, .unset, iv 0, iv 0] [(.int (-(own_ng N))), (.ref dO), (.int 0), (.ref bb)])) (fun t k => XS.ineg X1.here hx rfl (hb hby d4_82) rfl k) ?_
  rw [own_ng_neg]
  have hq2 := hO N (by omega)
  have ar2 := AO.ext Od.2
  refine own_go (b := T1.setTop (mkF m 84 #[iv (own_ng N), iv 1, rv bb, .unset, .unset, iv 0, iv 0] [(.int (own_d N)), (.int 0), (.ref bb)])) (fun t k => X1.baloadBytes hx (j := (N.toInt32)) (v := (.int (own_d N))) (by rw [e1]; exact ar2.1) (State.isArrayOf_alike hZ.alike ar2.2.1) ar2.2.2 hq2.1 hq2.2 (g := (mkF m 83 #[iv (own_ng N), iv 1, rv bb, .unset, .unset, iv 0, iv 0] [(.int (N.toInt32)), (.ref dO), (.int 0), (.ref bb)])) rfl rfl (hb hby d4_83) t k) ?_
  obtain ⟨cl3, Ar3, qc3, Sz3, Ng3, Hs3, Ft3⟩ := id Vb
  have hin3 : ¬ ((0 : Int32) < 0 ∨ cl3.slots.size ≤ ((0 : Int32)).toNatClampNeg) := inb_of Sz3 ⟨by decide, by decide⟩
  obtain ⟨T4, h4, X4, e4, W4, st4⟩ := stB X1 hx hZ e1 Ar3 (j := (0 : Int32)) hin3 (g := (mkF m 84 #[iv (own_ng N), iv 1, rv bb, .unset, .unset, iv 0, iv 0] [(.int (own_d N)), (.int 0), (.ref bb)])) rfl rfl (hb hby d4_84)
  have V_bb_4 : Arv Z h4 bb kb .byte (1 : Int32) [(.int (nar .byte (own_d N)))] (.int (0 : Int32)) := Arv.set Ar3 qc3 Sz3 Ng3 Hs3 Ft3 (fits_nar_byte _) W4 0 rfl (Nat.le_of_ble_eq_true rfl)
  have Zs4 : n0 ≤ h4.size := Nat.le_trans Z0 (Keep.of_wr W4).1
  have N4 := Fr.snoc X4 N0 gb
  have Kp4 : Keep h0 h4 [bb] := (Keep.refl h0 [bb]).wr W4 (Or.inl (List.mem_of_getElem? (i := 0) rfl))
  have Ol4 := Od.wr W4 gb
  refine own_go (b := T4.setTop (mkF m 85 #[iv (own_ng N), iv 1, rv bb, .unset, .unset, iv 0, iv 0] [])) st4 ?_
  refine own_go (b := T4.setTop (mkF m 86 #[iv (own_ng N), iv 1, rv bb, .unset, .unset, iv 0, iv 0] [(.int (own_ng N))])) (fun t k => XS.iloadN X4.here hx rfl (hb hby d4_85) rfl  k) ?_
  refine own_go (b := T4.setTop (mkF m 88 #[iv (own_ng N), iv 1, rv bb, .unset, .unset, iv 0, iv 0] [(.int (-9)), (.int (own_ng N))])) (fun t k => XS.bipush X4.here hx rfl (hb hby d4_86) k) ?_
  refine own_go (b := T4.setTop (mkF m 104 #[iv (own_ng N), iv 1, rv bb, .unset, .unset, iv 0, iv 0] [])) (fun t k => XS.icmpYes X4.here hx rfl (pc0 := 88) (pc' := 104) rfl (hb hby d4_88) rfl (flt (own_ng_nlt (m := 9) (by omega) (by decide) (by omega))).2.1 (by decide) (by decide) k) ?_
  refine own_go (b := T4.setTop (mkF m 106 #[iv (own_ng N), iv 1, rv bb, .unset, .unset, iv 0, iv 0] [(.int 0)])) (fun t k => XS.iload X4.here hx rfl (hb hby d4_104) rfl  k) ?_
  refine own_go (b := T4.setTop (mkF m 118 #[iv (own_ng N), iv 1, rv bb, .unset, .unset, iv 0, iv 0] [])) (fun t k => XS.ifYes X4.here hx rfl (pc0 := 106) (pc' := 118) rfl (hb hby d4_106) rfl ((if0 _ _).trans (teq (rfl : (0 : Int32) = (0 : Int32))).1) (by decide) (by decide) k) ?_
  refine own_go (b := T4.setTop (mkF m 120 #[iv (own_ng N), iv 1, rv bb, .unset, .unset, iv 0, iv 0] [(.int 0)])) (fun t k => XS.iload X4.here hx rfl (hb hby d4_118) rfl  k) ?_
  exact own_retI X4 hx hlk hrt (hb hby d4_120) (Nat.le_of_ble_eq_true rfl) (Nat.le_of_ble_eq_true rfl) (⟨rfl, N4, by rw [e4]; exact Kp4, by rw [e4]; have q := V_bb_4; simp only [own_nar] at q; exact q⟩)
theorem ef_4_2 (m : MethodId) (ct : Int32) (sz : Int32) (bb : Addr) : entryFrame m #[(.int ct), (.int sz), (.ref bb)] 7 = mkF m 0 #[iv ct, iv sz, rv bb, .unset, .unset, .unset, .unset] [] := by first | (simp [entryFrame, mkF, argsToLocals, Value.category]; done) | rfl
def Q4_2 (Z : State) (ct : Int32) (sz : Int32) (bb : Addr) (N : Nat) (kb : ClassId) (dO : Addr) (dT : Addr) (cO : Cell) (cT : Cell) (h0 : Heap) (n0 : Nat) (v : Option Value) (h : Heap) (L : List Loc) : Prop := v = some (.int 0) ∧ Fr n0 L ∧ Keep h0 h [bb] ∧ Arv Z h bb kb .byte (Int32.ofNat 2) ((own_digs N 2).map Value.int) (.int (0 : Int32))
set_option maxRecDepth 65536 in
set_option maxHeartbeats 40000000 in
theorem rm4_2 (l : Launch) (Z : State) (a0 : Array Value) (hw : ∀ d ∈ tables_1, d.before a0 Z = true) (ws : List Jvm.Cond) (ct : Int32) (sz : Int32) (bb : Addr) (N : Nat) (kb : ClassId) (dO : Addr) (dT : Addr) (cO : Cell) (cT : Cell) (h0 : Heap) (n0 : Nat) (Z0 : n0 ≤ h0.size) (hct : ct = N.toInt32) (hct1 : sz = (2 : Int32)) (hN : N < 2147483648) (hlo : 10 ≤ N) (hhi : N < 100) (SO : Sta Z Z.heap "java/lang/Integer" "DigitOnes" "[B" (.ref dO)) (ST : Sta Z Z.heap "java/lang/Integer" "DigitTens" "[B" (.ref dT)) (AO : Arr Z Z.heap dO cO .byte) (AT : Arr Z Z.heap dT cT .byte) (hO : ∀ r : Nat, r < 100 → ¬ (r.toInt32 < 0 ∨ cO.slots.size ≤ r.toInt32.toNatClampNeg) ∧ cO.slots[r.toInt32.toNatClampNeg]? = some (.int (own_d r))) (hT : ∀ r : Nat, r < 100 → ¬ (r.toInt32 < 0 ∨ cT.slots.size ≤ r.toInt32.toNatClampNeg) ∧ cT.slots[r.toInt32.toNatClampNeg]? = some (.int (own_d (r / 10)))) (Vb : Arv Z h0 bb kb .byte (2 : Int32) [.int (0 : Int32), .int (0 : Int32)] (.int (0 : Int32))) (gb : n0 ≤ bb) (Od : Old Z n0 h0) :
    MetFree l (⟨"java/lang/Integer", "getChars", "(II[B)I"⟩ : MethodName) (head1 (Jvm.Cond.code (⟨"java/lang/Integer", "getChars", "(II[B)I"⟩ : MethodName) jdk_33_method_12_code 7 (some .int) :: ws) ({ frames := 0, cells := 0, slots := 0, locals := 0 } : Room)) (fun a U => a = #[(.int ct), (.int sz), (.ref bb)] ∧ Z.Warmed39 U.vm ∧ U.heap = h0) (fun _ _ _ _ _ => True) (fun _ U o U' => ∃ v L, o = .returned v ∧ Q4_2 Z ct sz bb N kb dO dT cO cT h0 n0 v U'.heap L ∧ FrameEnd U o U' L ({ frames := 0, cells := 0, slots := 0, locals := 0 } : Room).cells ({ frames := 0, cells := 0, slots := 0, locals := 0 } : Room).slots) := by
  refine MetFree.of_bodySF (plainFor_of_name pn_0) hisR ?_
  intro p e s m args below meth c s₁ Bd hml0 hP hK
  obtain ⟨rfl, hZ, hh⟩ := hP
  have hx := Bd.exec
  have hby := Bd.bytes
  have hml : c.maxLocals = 7 := hml0
  have hown : s.vm.findClass "java/lang/Integer" = some m.cls := findClass_of_methodNamed Bd.named
  have hnm := (name_of_methodNamed Bd.named Bd.method).1
  have hlk : meth.locks = false := Bd.notSynchronized
  have hrt := Bd.returns
  have X0 : Stand p l e ({ frames := 0, cells := 0, slots := 0, locals := 0 } : Room) s m #[(.int ct), (.int sz), (.ref bb)] below meth c s₁ [] 0 0 := Stand.of_body Bd
  have e0 : s₁.heap = h0 := by rw [← hh, Bd.state]; rfl
  have N0 := Fr.nil n0
  show own_Endz p.tables e below (own_EndQ s ({ frames := 0, cells := 0, slots := 0, locals := 0 } : Room).cells ({ frames := 0, cells := 0, slots := 0, locals := 0 } : Room).slots (Q4_2 Z ct sz bb N kb dO dT cO cT h0 n0)) (s₁.setTop (entryFrame m #[(.int ct), (.int sz), (.ref bb)] 7))
  refine own_cast (ef_4_2 m ct sz bb) ?_
  subst hct
  subst hct1
  refine own_go (b := s₁.setTop (mkF m 1 #[iv (N.toInt32), iv 2, rv bb, .unset, .unset, .unset, .unset] [(.int 2)])) (fun t k => XS.iloadN X0.here hx rfl (hb hby d4_0) rfl  k) ?_
  refine own_go (b := s₁.setTop (mkF m 3 #[iv (N.toInt32), iv 2, rv bb, .unset, .unset, iv 2, .unset] [])) (fun t k => XS.istore X0.here hx rfl (hb hby d4_1) rfl (l' := #[iv (N.toInt32), iv 2, rv bb, .unset, .unset, iv 2, .unset]) rfl k) ?_
  refine own_go (b := s₁.setTop (mkF m 4 #[iv (N.toInt32), iv 2, rv bb, .unset, .unset, iv 2, .unset] [(.int (N.toInt32))])) (fun t k => XS.iloadN X0.here hx rfl (hb hby d4_3) rfl  k) ?_
  refine own_go (b := s₁.setTop (mkF m 11 #[iv (N.toInt32), iv 2, rv bb, .unset, .unset, iv 2, .unset] [])) (fun t k => XS.ifYes X0.here hx rfl (pc0 := 4) (pc' := 11) rfl (hb hby d4_4) rfl ((if0 _ _).trans (flt (own_nn hN)).2.1) (by decide) (by decide) k) ?_
  refine own_go (b := s₁.setTop (mkF m 12 #[iv (N.toInt32), iv 2, rv bb, .unset, .unset, iv 2, .unset] [(.int 0)])) (fun t k => XS.iconst X0.here hx rfl (hb hby d4_11) k) ?_
  refine own_go (b := s₁.setTop (mkF m 14 #[iv (N.toInt32), iv 2, rv bb, .unset, .unset, iv 2, iv 0] [])) (fun t k => XS.istore X0.here hx rfl (hb hby d4_12) rfl (l' := #[iv (N.toInt32), iv 2, rv bb, .unset, .unset, iv 2, iv 0]) rfl k) ?_
  refine own_go (b := s₁.setTop (mkF m 16 #[iv (N.toInt32), iv 2, rv bb, .unset, .unset, iv 2, iv 0] [(.int 0)])) (fun t k => XS.iload X0.here hx rfl (hb hby d4_14) rfl  k) ?_
  refine own_go (b := s₁.setTop (mkF m 19 #[iv (N.toInt32), iv 2, rv bb, .unset, .unset, iv 2, iv 0] [])) (fun t k => XS.ifNo X0.here hx rfl (hb hby d4_16) rfl ((if0 _ _).trans (teq (rfl : (0 : Int32) = (0 : Int32))).2) k) ?_
  refine own_go (b := s₁.setTop (mkF m 20 #[iv (N.toInt32), iv 2, rv bb, .unset, .unset, iv 2, iv 0] [(.int (N.toInt32))])) (fun t k => XS.iloadN X0.here hx rfl (hb hby d4_19) rfl  k) ?_
  refine own_go (b := s₁.setTop (mkF m 21 #[iv (N.toInt32), iv 2, rv bb, .unset, .unset, iv 2, iv 0] [(.int (-(N.toInt32)))])) (fun t k => XS.ineg X0.here hx rfl (hb hby d4_20) rfl k) ?_
  refine own_go (b := s₁.setTop (mkF m 22 #[iv (-(N.toInt32)), iv 2, rv bb, .unset, .unset, iv 2, iv 0] [])) (fun t k => XS.istoreN X0.here hx rfl (hb hby d4_21) rfl (l' := #[iv (-(N.toInt32)), iv 2, rv bb, .unset, .unset, iv 2, iv 0]) rfl k) ?_
  show own_Endz p.tables e below (own_EndQ s ({ frames := 0, cells := 0, slots := 0, locals := 0 } : Room).cells ({ frames := 0, cells := 0, slots := 0, locals := 0 } : Room).slots (Q4_2 Z ((N.toInt32)) ((2 : Int32)) bb N kb dO dT cO cT h0 n0)) (s₁.setTop (mkF m 22 #[iv (own_ng N), iv 2, rv bb, .unset, .unset, iv 2, iv 0] []))
  refine own_go (b := s₁.setTop (mkF m 23 #[iv (own_ng N), iv 2, rv bb, .unset, .unset, iv 2, iv 0] [(.int (own_ng N))])) (fun t k => XS.iloadN X0.here hx rfl (hb hby d4_22) rfl  k) ?_
  refine own_go (b := s₁.setTop (mkF m 25 #[iv (own_ng N), iv 2, rv bb, .unset, .unset, iv 2, iv 0] [(.int (-100)), (.int (own_ng N))])) (fun t k => XS.bipush X0.here hx rfl (hb hby d4_23) k) ?_
  refine own_go (b := s₁.setTop (mkF m 72 #[iv (own_ng N), iv 2, rv bb, .unset, .unset, iv 2, iv 0] [])) (fun t k => XS.icmpYes X0.here hx rfl (pc0 := 25) (pc' := 72) rfl (hb hby d4_25) rfl (tlt (own_ng_gt (m := 100) (by omega) (by decide) (by omega))).2.2.1 (by decide) (by decide) k) ?_
  refine own_go (b := s₁.setTop (mkF m 73 #[iv (own_ng N), iv 2, rv bb, .unset, .unset, iv 2, iv 0] [(.ref bb)])) (fun t k => XS.aloadN X0.here hx rfl (hb hby d4_72) rfl rfl k) ?_
  refine own_go (b := s₁.setTop (mkF m 76 #[iv (own_ng N), iv 2, rv bb, .unset, .unset, iv 1, iv 0] [(.ref bb)])) (fun t k => XS.iinc X0.here hx rfl (hb hby d4_73) rfl (l' := #[iv (own_ng N), iv 2, rv bb, .unset, .unset, iv 1, iv 0]) rfl k) ?_
  refine own_go (b := s₁.setTop (mkF m 78 #[iv (own_ng N), iv 2, rv bb, .unset, .unset, iv 1, iv 0] [(.int 1), (.ref bb)])) (fun t k => XS.iload X0.here hx rfl (hb hby d4_76) rfl  k) ?_
  obtain ⟨T1, X1, e1, st1⟩ := getS2 X0 hx hZ hown (host := "") (Or.inl (hw _ (List.mem_of_getElem? (i := 20) rfl))) Via.refl e0 (SO.ext Od.2) (g := (mkF m 78 #[iv (own_ng N), iv 2, rv bb, .unset, .unset, iv 1, iv 0] [(.int 1), (.ref bb)])) rfl (hb hby d4_78)
  refine own_go (b := T1.setTop (mkF m 81 #[iv (own_ng N), iv 2, rv bb, .unset, .unset, iv 1, iv 0] [(.ref dO), (.int 1), (.ref bb)])) st1 ?_
  refine own_go (b := T1.setTop (mkF m 82 #[iv (own_ng N), iv 2, rv bb, .unset, .unset, iv 1, iv 0] [(.int (own_ng N)), (.ref dO), (.int 1), (.ref bb)])) (fun t k => XS.iloadN X1.here hx rfl (hb hby d4_81) rfl  k) ?_
  refine own_go (b := T1.setTop (mkF m 83 #[iv (own_ng N), iv 2, rv bb, .unset, .unset, iv 1, iv 0] [(.int (-(own_ng N))), (.ref dO), (.int 1), (.ref bb)])) (fun t k => XS.ineg X1.here hx rfl (hb hby d4_82) rfl k) ?_
  rw [own_ng_neg]
  have hq2 := hO N (by omega)
  have ar2 := AO.ext Od.2
  refine own_go (b := T1.setTop (mkF m 84 #[iv (own_ng N), iv 2, rv bb, .unset, .unset, iv 1, iv 0] [(.int (own_d N)), (.int 1), (.ref bb)])) (fun t k => X1.baloadBytes hx (j := (N.toInt32)) (v := (.int (own_d N))) (by rw [e1]; exact ar2.1) (State.isArrayOf_alike hZ.alike ar2.2.1) ar2.2.2 hq2.1 hq2.2 (g := (mkF m 83 #[iv (own_ng N), iv 2, rv bb, .unset, .unset, iv 1, iv 0] [(.int (N.toInt32)), (.ref dO), (.int 1), (.ref bb)])) rfl rfl (hb hby d4_83) t k) ?_
  obtain ⟨cl3, Ar3, qc3, Sz3, Ng3, Hs3, Ft3⟩ := id Vb
  have hin3 : ¬ ((1 : Int32) < 0 ∨ cl3.slots.size ≤ ((1 : Int32)).toNatClampNeg) := inb_of Sz3 ⟨by decide, by decide⟩
  obtain ⟨T4, h4, X4, e4, W4, st4⟩ := stB X1 hx hZ e1 Ar3 (j := (1 : Int32)) hin3 (g := (mkF m 84 #[iv (own_ng N), iv 2, rv bb, .unset, .unset, iv 1, iv 0] [(.int (own_d N)), (.int 1), (.ref bb)])) rfl rfl (hb hby d4_84)
  have V_bb_4 : Arv Z h4 bb kb .byte (2 : Int32) [(.int 0), (.int (nar .byte (own_d N)))] (.int (0 : Int32)) := Arv.set Ar3 qc3 Sz3 Ng3 Hs3 Ft3 (fits_nar_byte _) W4 1 rfl (Nat.le_of_ble_eq_true rfl)
  have Zs4 : n0 ≤ h4.size := Nat.le_trans Z0 (Keep.of_wr W4).1
  have N4 := Fr.snoc X4 N0 gb
  have Kp4 : Keep h0 h4 [bb] := (Keep.refl h0 [bb]).wr W4 (Or.inl (List.mem_of_getElem? (i := 0) rfl))
  have Ol4 := Od.wr W4 gb
  refine own_go (b := T4.setTop (mkF m 85 #[iv (own_ng N), iv 2, rv bb, .unset, .unset, iv 1, iv 0] [])) st4 ?_
  refine own_go (b := T4.setTop (mkF m 86 #[iv (own_ng N), iv 2, rv bb, .unset, .unset, iv 1, iv 0] [(.int (own_ng N))])) (fun t k => XS.iloadN X4.here hx rfl (hb hby d4_85) rfl  k) ?_
  refine own_go (b := T4.setTop (mkF m 88 #[iv (own_ng N), iv 2, rv bb, .unset, .unset, iv 1, iv 0] [(.int (-9)), (.int (own_ng N))])) (fun t k => XS.bipush X4.here hx rfl (hb hby d4_86) k) ?_
  refine own_go (b := T4.setTop (mkF m 91 #[iv (own_ng N), iv 2, rv bb, .unset, .unset, iv 1, iv 0] [])) (fun t k => XS.icmpNo X4.here hx rfl (hb hby d4_88) rfl (tlt (own_ng_lt (m := 9) (by omega) (by decide) (by omega))).2.1 k) ?_
  refine own_go (b := T4.setTop (mkF m 92 #[iv (own_ng N), iv 2, rv bb, .unset, .unset, iv 1, iv 0] [(.ref bb)])) (fun t k => XS.aloadN X4.here hx rfl (hb hby d4_91) rfl rfl k) ?_
  refine own_go (b := T4.setTop (mkF m 95 #[iv (own_ng N), iv 2, rv bb, .unset, .unset, iv 0, iv 0] [(.ref bb)])) (fun t k => XS.iinc X4.here hx rfl (hb hby d4_92) rfl (l' := #[iv (own_ng N), iv 2, rv bb, .unset, .unset, iv 0, iv 0]) rfl k) ?_
  refine own_go (b := T4.setTop (mkF m 97 #[iv (own_ng N), iv 2, rv bb, .unset, .unset, iv 0, iv 0] [(.int 0), (.ref bb)])) (fun t k => XS.iload X4.here hx rfl (hb hby d4_95) rfl  k) ?_
  obtain ⟨T5, X5, e5, st5⟩ := getS2 X4 hx hZ hown (host := "") (Or.inl (hw _ (List.mem_of_getElem? (i := 126) rfl))) Via.refl e4 (ST.ext Ol4.2) (g := (mkF m 97 #[iv (own_ng N), iv 2, rv bb, .unset, .unset, iv 0, iv 0] [(.int 0), (.ref bb)])) rfl (hb hby d4_97)
  refine own_go (b := T5.setTop (mkF m 100 #[iv (own_ng N), iv 2, rv bb, .unset, .unset, iv 0, iv 0] [(.ref dT), (.int 0), (.ref bb)])) st5 ?_
  refine own_go (b := T5.setTop (mkF m 101 #[iv (own_ng N), iv 2, rv bb, .unset, .unset, iv 0, iv 0] [(.int (own_ng N)), (.ref dT), (.int 0), (.ref bb)])) (fun t k => XS.iloadN X5.here hx rfl (hb hby d4_100) rfl  k) ?_
  refine own_go (b := T5.setTop (mkF m 102 #[iv (own_ng N), iv 2, rv bb, .unset, .unset, iv 0, iv 0] [(.int (-(own_ng N))), (.ref dT), (.int 0), (.ref bb)])) (fun t k => XS.ineg X5.here hx rfl (hb hby d4_101) rfl k) ?_
  rw [own_ng_neg]
  have hq6 := hT N (by omega)
  have ar6 := AT.ext Ol4.2
  refine own_go (b := T5.setTop (mkF m 103 #[iv (own_ng N), iv 2, rv bb, .unset, .unset, iv 0, iv 0] [(.int (own_d (N / 10))), (.int 0), (.ref bb)])) (fun t k => X5.baloadBytes hx (j := (N.toInt32)) (v := (.int (own_d (N / 10)))) (by rw [e5]; exact ar6.1) (State.isArrayOf_alike hZ.alike ar6.2.1) ar6.2.2 hq6.1 hq6.2 (g := (mkF m 102 #[iv (own_ng N), iv 2, rv bb, .unset, .unset, iv 0, iv 0] [(.int (N.toInt32)), (.ref dT), (.int 0), (.ref bb)])) rfl rfl (hb hby d4_102) t k) ?_
  obtain ⟨cl7, Ar7, qc7, Sz7, Ng7, Hs7, Ft7⟩ := id V_bb_4
  have hin7 : ¬ ((0 : Int32) < 0 ∨ cl7.slots.size ≤ ((0 : Int32)).toNatClampNeg) := inb_of Sz7 ⟨by decide, by decide⟩
  obtain ⟨T8, h8, X8, e8, W8, st8⟩ := stB X5 hx hZ e5 Ar7 (j := (0 : Int32)) hin7 (g := (mkF m 103 #[iv (own_ng N), iv 2, rv bb, .unset, .unset, iv 0, iv 0] [(.int (own_d (N / 10))), (.int 0), (.ref bb)])) rfl rfl (hb hby d4_103)
  have V_bb_8 : Arv Z h8 bb kb .byte (2 : Int32) [(.int (nar .byte (own_d (N / 10)))), (.int (nar .byte (own_d N)))] (.int (0 : Int32)) := Arv.set Ar7 qc7 Sz7 Ng7 Hs7 Ft7 (fits_nar_byte _) W8 0 rfl (Nat.le_of_ble_eq_true rfl)
  have Zs8 : n0 ≤ h8.size := Nat.le_trans Zs4 (Keep.of_wr W8).1
  have N8 := Fr.snoc X8 N4 gb
  have Kp8 : Keep h0 h8 [bb] := Kp4.wr W8 (Or.inl (List.mem_of_getElem? (i := 0) rfl))
  have Ol8 := Ol4.wr W8 gb
  refine own_go (b := T8.setTop (mkF m 104 #[iv (own_ng N), iv 2, rv bb, .unset, .unset, iv 0, iv 0] [])) st8 ?_
  refine own_go (b := T8.setTop (mkF m 106 #[iv (own_ng N), iv 2, rv bb, .unset, .unset, iv 0, iv 0] [(.int 0)])) (fun t k => XS.iload X8.here hx rfl (hb hby d4_104) rfl  k) ?_
  refine own_go (b := T8.setTop (mkF m 118 #[iv (own_ng N), iv 2, rv bb, .unset, .unset, iv 0, iv 0] [])) (fun t k => XS.ifYes X8.here hx rfl (pc0 := 106) (pc' := 118) rfl (hb hby d4_106) rfl ((if0 _ _).trans (teq (rfl : (0 : Int32) = (0 : Int32))).1) (by decide) (by decide) k) ?_
  refine own_go (b := T8.setTop (mkF m 120 #[iv (own_ng N), iv 2, rv bb, .unset, .unset, iv 0, iv 0] [(.int 0)])) (fun t k => XS.iload X8.here hx rfl (hb hby d4_118) rfl  k) ?_
  exact own_retI X8 hx hlk hrt (hb hby d4_120) (Nat.le_of_ble_eq_true rfl) (Nat.le_of_ble_eq_true rfl) (⟨rfl, N8, by rw [e8]; exact Kp8, by rw [e8]; have q := V_bb_8; simp only [own_nar] at q; exact q⟩)
theorem ef_4_3 (m : MethodId) (ct : Int32) (sz : Int32) (bb : Addr) : entryFrame m #[(.int ct), (.int sz), (.ref bb)] 7 = mkF m 0 #[iv ct, iv sz, rv bb, .unset, .unset, .unset, .unset] [] := by first | (simp [entryFrame, mkF, argsToLocals, Value.category]; done) | rfl
def Q4_3 (Z : State) (ct : Int32) (sz : Int32) (bb : Addr) (N : Nat) (kb : ClassId) (dO : Addr) (dT : Addr) (cO : Cell) (cT : Cell) (h0 : Heap) (n0 : Nat) (v : Option Value) (h : Heap) (L : List Loc) : Prop := v = some (.int 0) ∧ Fr n0 L ∧ Keep h0 h [bb] ∧ Arv Z h bb kb .byte (Int32.ofNat 3) ((own_digs N 3).map Value.int) (.int (0 : Int32))
set_option maxRecDepth 65536 in
set_option maxHeartbeats 40000000 in
theorem rm4_3 (l : Launch) (Z : State) (a0 : Array Value) (hw : ∀ d ∈ tables_1, d.before a0 Z = true) (ws : List Jvm.Cond) (ct : Int32) (sz : Int32) (bb : Addr) (N : Nat) (kb : ClassId) (dO : Addr) (dT : Addr) (cO : Cell) (cT : Cell) (h0 : Heap) (n0 : Nat) (Z0 : n0 ≤ h0.size) (hct : ct = N.toInt32) (hct1 : sz = (3 : Int32)) (hN : N < 2147483648) (hlo : 100 ≤ N) (hhi : N < 1000) (SO : Sta Z Z.heap "java/lang/Integer" "DigitOnes" "[B" (.ref dO)) (ST : Sta Z Z.heap "java/lang/Integer" "DigitTens" "[B" (.ref dT)) (AO : Arr Z Z.heap dO cO .byte) (AT : Arr Z Z.heap dT cT .byte) (hO : ∀ r : Nat, r < 100 → ¬ (r.toInt32 < 0 ∨ cO.slots.size ≤ r.toInt32.toNatClampNeg) ∧ cO.slots[r.toInt32.toNatClampNeg]? = some (.int (own_d r))) (hT : ∀ r : Nat, r < 100 → ¬ (r.toInt32 < 0 ∨ cT.slots.size ≤ r.toInt32.toNatClampNeg) ∧ cT.slots[r.toInt32.toNatClampNeg]? = some (.int (own_d (r / 10)))) (Vb : Arv Z h0 bb kb .byte (3 : Int32) [.int (0 : Int32), .int (0 : Int32), .int (0 : Int32)] (.int (0 : Int32))) (gb : n0 ≤ bb) (Od : Old Z n0 h0) :
    MetFree l (⟨"java/lang/Integer", "getChars", "(II[B)I"⟩ : MethodName) (head1 (Jvm.Cond.code (⟨"java/lang/Integer", "getChars", "(II[B)I"⟩ : MethodName) jdk_33_method_12_code 7 (some .int) :: ws) ({ frames := 0, cells := 0, slots := 0, locals := 0 } : Room)) (fun a U => a = #[(.int ct), (.int sz), (.ref bb)] ∧ Z.Warmed39 U.vm ∧ U.heap = h0) (fun _ _ _ _ _ => True) (fun _ U o U' => ∃ v L, o = .returned v ∧ Q4_3 Z ct sz bb N kb dO dT cO cT h0 n0 v U'.heap L ∧ FrameEnd U o U' L ({ frames := 0, cells := 0, slots := 0, locals := 0 } : Room).cells ({ frames := 0, cells := 0, slots := 0, locals := 0 } : Room).slots) := by
  refine MetFree.of_bodySF (plainFor_of_name pn_0) hisR ?_
  intro p e s m args below meth c s₁ Bd hml0 hP hK
  obtain ⟨rfl, hZ, hh⟩ := hP
  have hx := Bd.exec
  have hby := Bd.bytes
  have hml : c.maxLocals = 7 := hml0
  have hown : s.vm.findClass "java/lang/Integer" = some m.cls := findClass_of_methodNamed Bd.named
  have hnm := (name_of_methodNamed Bd.named Bd.method).1
  have hlk : meth.locks = false := Bd.notSynchronized
  have hrt := Bd.returns
  have X0 : Stand p l e ({ frames := 0, cells := 0, slots := 0, locals := 0 } : Room) s m #[(.int ct), (.int sz), (.ref bb)] below meth c s₁ [] 0 0 := Stand.of_body Bd
  have e0 : s₁.heap = h0 := by rw [← hh, Bd.state]; rfl
  have N0 := Fr.nil n0
  show own_Endz p.tables e below (own_EndQ s ({ frames := 0, cells := 0, slots := 0, locals := 0 } : Room).cells ({ frames := 0, cells := 0, slots := 0, locals := 0 } : Room).slots (Q4_3 Z ct sz bb N kb dO dT cO cT h0 n0)) (s₁.setTop (entryFrame m #[(.int ct), (.int sz), (.ref bb)] 7))
  refine own_cast (ef_4_3 m ct sz bb) ?_
  subst hct
  subst hct1
  refine own_go (b := s₁.setTop (mkF m 1 #[iv (N.toInt32), iv 3, rv bb, .unset, .unset, .unset, .unset] [(.int 3)])) (fun t k => XS.iloadN X0.here hx rfl (hb hby d4_0) rfl  k) ?_
  refine own_go (b := s₁.setTop (mkF m 3 #[iv (N.toInt32), iv 3, rv bb, .unset, .unset, iv 3, .unset] [])) (fun t k => XS.istore X0.here hx rfl (hb hby d4_1) rfl (l' := #[iv (N.toInt32), iv 3, rv bb, .unset, .unset, iv 3, .unset]) rfl k) ?_
  refine own_go (b := s₁.setTop (mkF m 4 #[iv (N.toInt32), iv 3, rv bb, .unset, .unset, iv 3, .unset] [(.int (N.toInt32))])) (fun t k => XS.iloadN X0.here hx rfl (hb hby d4_3) rfl  k) ?_
  refine own_go (b := s₁.setTop (mkF m 11 #[iv (N.toInt32), iv 3, rv bb, .unset, .unset, iv 3, .unset] [])) (fun t k => XS.ifYes X0.here hx rfl (pc0 := 4) (pc' := 11) rfl (hb hby d4_4) rfl ((if0 _ _).trans (flt (own_nn hN)).2.1) (by decide) (by decide) k) ?_
  refine own_go (b := s₁.setTop (mkF m 12 #[iv (N.toInt32), iv 3, rv bb, .unset, .unset, iv 3, .unset] [(.int 0)])) (fun t k => XS.iconst X0.here hx rfl (hb hby d4_11) k) ?_
  refine own_go (b := s₁.setTop (mkF m 14 #[iv (N.toInt32), iv 3, rv bb, .unset, .unset, iv 3, iv 0] [])) (fun t k => XS.istore X0.here hx rfl (hb hby d4_12) rfl (l' := #[iv (N.toInt32), iv 3, rv bb, .unset, .unset, iv 3, iv 0]) rfl k) ?_
  refine own_go (b := s₁.setTop (mkF m 16 #[iv (N.toInt32), iv 3, rv bb, .unset, .unset, iv 3, iv 0] [(.int 0)])) (fun t k => XS.iload X0.here hx rfl (hb hby d4_14) rfl  k) ?_
  refine own_go (b := s₁.setTop (mkF m 19 #[iv (N.toInt32), iv 3, rv bb, .unset, .unset, iv 3, iv 0] [])) (fun t k => XS.ifNo X0.here hx rfl (hb hby d4_16) rfl ((if0 _ _).trans (teq (rfl : (0 : Int32) = (0 : Int32))).2) k) ?_
  refine own_go (b := s₁.setTop (mkF m 20 #[iv (N.toInt32), iv 3, rv bb, .unset, .unset, iv 3, iv 0] [(.int (N.toInt32))])) (fun t k => XS.iloadN X0.here hx rfl (hb hby d4_19) rfl  k) ?_
  refine own_go (b := s₁.setTop (mkF m 21 #[iv (N.toInt32), iv 3, rv bb, .unset, .unset, iv 3, iv 0] [(.int (-(N.toInt32)))])) (fun t k => XS.ineg X0.here hx rfl (hb hby d4_20) rfl k) ?_
  refine own_go (b := s₁.setTop (mkF m 22 #[iv (-(N.toInt32)), iv 3, rv bb, .unset, .unset, iv 3, iv 0] [])) (fun t k => XS.istoreN X0.here hx rfl (hb hby d4_21) rfl (l' := #[iv (-(N.toInt32)), iv 3, rv bb, .unset, .unset, iv 3, iv 0]) rfl k) ?_
  show own_Endz p.tables e below (own_EndQ s ({ frames := 0, cells := 0, slots := 0, locals := 0 } : Room).cells ({ frames := 0, cells := 0, slots := 0, locals := 0 } : Room).slots (Q4_3 Z ((N.toInt32)) ((3 : Int32)) bb N kb dO dT cO cT h0 n0)) (s₁.setTop (mkF m 22 #[iv (own_ng N), iv 3, rv bb, .unset, .unset, iv 3, iv 0] []))
  refine own_go (b := s₁.setTop (mkF m 23 #[iv (own_ng N), iv 3, rv bb, .unset, .unset, iv 3, iv 0] [(.int (own_ng N))])) (fun t k => XS.iloadN X0.here hx rfl (hb hby d4_22) rfl  k) ?_
  refine own_go (b := s₁.setTop (mkF m 25 #[iv (own_ng N), iv 3, rv bb, .unset, .unset, iv 3, iv 0] [(.int (-100)), (.int (own_ng N))])) (fun t k => XS.bipush X0.here hx rfl (hb hby d4_23) k) ?_
  refine own_go (b := s₁.setTop (mkF m 28 #[iv (own_ng N), iv 3, rv bb, .unset, .unset, iv 3, iv 0] [])) (fun t k => XS.icmpNo X0.here hx rfl (hb hby d4_25) rfl (flt (own_ng_ngt (m := 100) (by omega) (by decide) (by omega))).2.2.1 k) ?_
  refine own_go (b := s₁.setTop (mkF m 29 #[iv (own_ng N), iv 3, rv bb, .unset, .unset, iv 3, iv 0] [(.int (own_ng N))])) (fun t k => XS.iloadN X0.here hx rfl (hb hby d4_28) rfl  k) ?_
  refine own_go (b := s₁.setTop (mkF m 31 #[iv (own_ng N), iv 3, rv bb, .unset, .unset, iv 3, iv 0] [(.int 100), (.int (own_ng N))])) (fun t k => XS.bipush X0.here hx rfl (hb hby d4_29) k) ?_
  refine own_go (b := s₁.setTop (mkF m 32 #[iv (own_ng N), iv 3, rv bb, .unset, .unset, iv 3, iv 0] [(.int ((own_ng N) / (100 : Int32)))])) (fun t k => XS.idiv X0.here hx rfl (hb hby d4_31) rfl (by decide) k) ?_
  refine own_go (b := s₁.setTop (mkF m 33 #[iv (own_ng N), iv 3, rv bb, iv ((own_ng N) / (100 : Int32)), .unset, iv 3, iv 0] [])) (fun t k => XS.istoreN X0.here hx rfl (hb hby d4_32) rfl (l' := #[iv (own_ng N), iv 3, rv bb, iv ((own_ng N) / (100 : Int32)), .unset, iv 3, iv 0]) rfl k) ?_
  rw [own_ng_div (a := N) (by omega)]
  refine own_go (b := s₁.setTop (mkF m 34 #[iv (own_ng N), iv 3, rv bb, iv (own_ng (N / 10 / 10)), .unset, iv 3, iv 0] [(.int (own_ng (N / 10 / 10)))])) (fun t k => XS.iloadN X0.here hx rfl (hb hby d4_33) rfl  k) ?_
  refine own_go (b := s₁.setTop (mkF m 36 #[iv (own_ng N), iv 3, rv bb, iv (own_ng (N / 10 / 10)), .unset, iv 3, iv 0] [(.int 100), (.int (own_ng (N / 10 / 10)))])) (fun t k => XS.bipush X0.here hx rfl (hb hby d4_34) k) ?_
  refine own_go (b := s₁.setTop (mkF m 37 #[iv (own_ng N), iv 3, rv bb, iv (own_ng (N / 10 / 10)), .unset, iv 3, iv 0] [(.int ((own_ng (N / 10 / 10)) * (100 : Int32)))])) (fun t k => XS.imul X0.here hx rfl (hb hby d4_36) rfl k) ?_
  refine own_go (b := s₁.setTop (mkF m 38 #[iv (own_ng N), iv 3, rv bb, iv (own_ng (N / 10 / 10)), .unset, iv 3, iv 0] [(.int (own_ng N)), (.int ((own_ng (N / 10 / 10)) * (100 : Int32)))])) (fun t k => XS.iloadN X0.here hx rfl (hb hby d4_37) rfl  k) ?_
  refine own_go (b := s₁.setTop (mkF m 39 #[iv (own_ng N), iv 3, rv bb, iv (own_ng (N / 10 / 10)), .unset, iv 3, iv 0] [(.int (((own_ng (N / 10 / 10)) * (100 : Int32)) - (own_ng N)))])) (fun t k => XS.isub X0.here hx rfl (hb hby d4_38) rfl k) ?_
  refine own_go (b := s₁.setTop (mkF m 41 #[iv (own_ng N), iv 3, rv bb, iv (own_ng (N / 10 / 10)), iv (((own_ng (N / 10 / 10)) * (100 : Int32)) - (own_ng N)), iv 3, iv 0] [])) (fun t k => XS.istore X0.here hx rfl (hb hby d4_39) rfl (l' := #[iv (own_ng N), iv 3, rv bb, iv (own_ng (N / 10 / 10)), iv (((own_ng (N / 10 / 10)) * (100 : Int32)) - (own_ng N)), iv 3, iv 0]) rfl k) ?_
  rw [own_ng_rem (a := N) (by omega)]
  refine own_go (b := s₁.setTop (mkF m 42 #[iv (own_ng N), iv 3, rv bb, iv (own_ng (N / 10 / 10)), iv ((N % 100).toInt32), iv 3, iv 0] [(.int (own_ng (N / 10 / 10)))])) (fun t k => XS.iloadN X0.here hx rfl (hb hby d4_41) rfl  k) ?_
  refine own_go (b := s₁.setTop (mkF m 43 #[iv (own_ng (N / 10 / 10)), iv 3, rv bb, iv (own_ng (N / 10 / 10)), iv ((N % 100).toInt32), iv 3, iv 0] [])) (fun t k => XS.istoreN X0.here hx rfl (hb hby d4_42) rfl (l' := #[iv (own_ng (N / 10 / 10)), iv 3, rv bb, iv (own_ng (N / 10 / 10)), iv ((N % 100).toInt32), iv 3, iv 0]) rfl k) ?_
  refine own_go (b := s₁.setTop (mkF m 44 #[iv (own_ng (N / 10 / 10)), iv 3, rv bb, iv (own_ng (N / 10 / 10)), iv ((N % 100).toInt32), iv 3, iv 0] [(.ref bb)])) (fun t k => XS.aloadN X0.here hx rfl (hb hby d4_43) rfl rfl k) ?_
  refine own_go (b := s₁.setTop (mkF m 47 #[iv (own_ng (N / 10 / 10)), iv 3, rv bb, iv (own_ng (N / 10 / 10)), iv ((N % 100).toInt32), iv 2, iv 0] [(.ref bb)])) (fun t k => XS.iinc X0.here hx rfl (hb hby d4_44) rfl (l' := #[iv (own_ng (N / 10 / 10)), iv 3, rv bb, iv (own_ng (N / 10 / 10)), iv ((N % 100).toInt32), iv 2, iv 0]) rfl k) ?_
  refine own_go (b := s₁.setTop (mkF m 49 #[iv (own_ng (N / 10 / 10)), iv 3, rv bb, iv (own_ng (N / 10 / 10)), iv ((N % 100).toInt32), iv 2, iv 0] [(.int 2), (.ref bb)])) (fun t k => XS.iload X0.here hx rfl (hb hby d4_47) rfl  k) ?_
  obtain ⟨T1, X1, e1, st1⟩ := getS2 X0 hx hZ hown (host := "") (Or.inl (hw _ (List.mem_of_getElem? (i := 20) rfl))) Via.refl e0 (SO.ext Od.2) (g := (mkF m 49 #[iv (own_ng (N / 10 / 10)), iv 3, rv bb, iv (own_ng (N / 10 / 10)), iv ((N % 100).toInt32), iv 2, iv 0] [(.int 2), (.ref bb)])) rfl (hb hby d4_49)
  refine own_go (b := T1.setTop (mkF m 52 #[iv (own_ng (N / 10 / 10)), iv 3, rv bb, iv (own_ng (N / 10 / 10)), iv ((N % 100).toInt32), iv 2, iv 0] [(.ref dO), (.int 2), (.ref bb)])) st1 ?_
  refine own_go (b := T1.setTop (mkF m 54 #[iv (own_ng (N / 10 / 10)), iv 3, rv bb, iv (own_ng (N / 10 / 10)), iv ((N % 100).toInt32), iv 2, iv 0] [(.int ((N % 100).toInt32)), (.ref dO), (.int 2), (.ref bb)])) (fun t k => XS.iload X1.here hx rfl (hb hby d4_52) rfl  k) ?_
  have hq2 := hO (N % 100) (by omega)
  rw [own_d_ones] at hq2
  have ar2 := AO.ext Od.2
  refine own_go (b := T1.setTop (mkF m 55 #[iv (own_ng (N / 10 / 10)), iv 3, rv bb, iv (own_ng (N / 10 / 10)), iv ((N % 100).toInt32), iv 2, iv 0] [(.int (own_d N)), (.int 2), (.ref bb)])) (fun t k => X1.baloadBytes hx (j := ((N % 100).toInt32)) (v := (.int (own_d N))) (by rw [e1]; exact ar2.1) (State.isArrayOf_alike hZ.alike ar2.2.1) ar2.2.2 hq2.1 hq2.2 (g := (mkF m 54 #[iv (own_ng (N / 10 / 10)), iv 3, rv bb, iv (own_ng (N / 10 / 10)), iv ((N % 100).toInt32), iv 2, iv 0] [(.int ((N % 100).toInt32)), (.ref dO), (.int 2), (.ref bb)])) rfl rfl (hb hby d4_54) t k) ?_
  obtain ⟨cl3, Ar3, qc3, Sz3, Ng3, Hs3, Ft3⟩ := id Vb
  have hin3 : ¬ ((2 : Int32) < 0 ∨ cl3.slots.size ≤ ((2 : Int32)).toNatClampNeg) := inb_of Sz3 ⟨by decide, by decide⟩
  obtain ⟨T4, h4, X4, e4, W4, st4⟩ := stB X1 hx hZ e1 Ar3 (j := (2 : Int32)) hin3 (g := (mkF m 55 #[iv (own_ng (N / 10 / 10)), iv 3, rv bb, iv (own_ng (N / 10 / 10)), iv ((N % 100).toInt32), iv 2, iv 0] [(.int (own_d N)), (.int 2), (.ref bb)])) rfl rfl (hb hby d4_55)
  have V_bb_4 : Arv Z h4 bb kb .byte (3 : Int32) [(.int 0), (.int 0), (.int (nar .byte (own_d N)))] (.int (0 : Int32)) := Arv.set Ar3 qc3 Sz3 Ng3 Hs3 Ft3 (fits_nar_byte _) W4 2 rfl (Nat.le_of_ble_eq_true rfl)
  have Zs4 : n0 ≤ h4.size := Nat.le_trans Z0 (Keep.of_wr W4).1
  have N4 := Fr.snoc X4 N0 gb
  have Kp4 : Keep h0 h4 [bb] := (Keep.refl h0 [bb]).wr W4 (Or.inl (List.mem_of_getElem? (i := 0) rfl))
  have Ol4 := Od.wr W4 gb
  refine own_go (b := T4.setTop (mkF m 56 #[iv (own_ng (N / 10 / 10)), iv 3, rv bb, iv (own_ng (N / 10 / 10)), iv ((N % 100).toInt32), iv 2, iv 0] [])) st4 ?_
  refine own_go (b := T4.setTop (mkF m 57 #[iv (own_ng (N / 10 / 10)), iv 3, rv bb, iv (own_ng (N / 10 / 10)), iv ((N % 100).toInt32), iv 2, iv 0] [(.ref bb)])) (fun t k => XS.aloadN X4.here hx rfl (hb hby d4_56) rfl rfl k) ?_
  refine own_go (b := T4.setTop (mkF m 60 #[iv (own_ng (N / 10 / 10)), iv 3, rv bb, iv (own_ng (N / 10 / 10)), iv ((N % 100).toInt32), iv 1, iv 0] [(.ref bb)])) (fun t k => XS.iinc X4.here hx rfl (hb hby d4_57) rfl (l' := #[iv (own_ng (N / 10 / 10)), iv 3, rv bb, iv (own_ng (N / 10 / 10)), iv ((N % 100).toInt32), iv 1, iv 0]) rfl k) ?_
  refine own_go (b := T4.setTop (mkF m 62 #[iv (own_ng (N / 10 / 10)), iv 3, rv bb, iv (own_ng (N / 10 / 10)), iv ((N % 100).toInt32), iv 1, iv 0] [(.int 1), (.ref bb)])) (fun t k => XS.iload X4.here hx rfl (hb hby d4_60) rfl  k) ?_
  obtain ⟨T5, X5, e5, st5⟩ := getS2 X4 hx hZ hown (host := "") (Or.inl (hw _ (List.mem_of_getElem? (i := 126) rfl))) Via.refl e4 (ST.ext Ol4.2) (g := (mkF m 62 #[iv (own_ng (N / 10 / 10)), iv 3, rv bb, iv (own_ng (N / 10 / 10)), iv ((N % 100).toInt32), iv 1, iv 0] [(.int 1), (.ref bb)])) rfl (hb hby d4_62)
  refine own_go (b := T5.setTop (mkF m 65 #[iv (own_ng (N / 10 / 10)), iv 3, rv bb, iv (own_ng (N / 10 / 10)), iv ((N % 100).toInt32), iv 1, iv 0] [(.ref dT), (.int 1), (.ref bb)])) st5 ?_
  refine own_go (b := T5.setTop (mkF m 67 #[iv (own_ng (N / 10 / 10)), iv 3, rv bb, iv (own_ng (N / 10 / 10)), iv ((N % 100).toInt32), iv 1, iv 0] [(.int ((N % 100).toInt32)), (.ref dT), (.int 1), (.ref bb)])) (fun t k => XS.iload X5.here hx rfl (hb hby d4_65) rfl  k) ?_
  have hq6 := hT (N % 100) (by omega)
  rw [own_d_tens] at hq6
  have ar6 := AT.ext Ol4.2
  refine own_go (b := T5.setTop (mkF m 68 #[iv (own_ng (N / 10 / 10)), iv 3, rv bb, iv (own_ng (N / 10 / 10)), iv ((N % 100).toInt32), iv 1, iv 0] [(.int (own_d (N / 10))), (.int 1), (.ref bb)])) (fun t k => X5.baloadBytes hx (j := ((N % 100).toInt32)) (v := (.int (own_d (N / 10)))) (by rw [e5]; exact ar6.1) (State.isArrayOf_alike hZ.alike ar6.2.1) ar6.2.2 hq6.1 hq6.2 (g := (mkF m 67 #[iv (own_ng (N / 10 / 10)), iv 3, rv bb, iv (own_ng (N / 10 / 10)), iv ((N % 100).toInt32), iv 1, iv 0] [(.int ((N % 100).toInt32)), (.ref dT), (.int 1), (.ref bb)])) rfl rfl (hb hby d4_67) t k) ?_
  obtain ⟨cl7, Ar7, qc7, Sz7, Ng7, Hs7, Ft7⟩ := id V_bb_4
  have hin7 : ¬ ((1 : Int32) < 0 ∨ cl7.slots.size ≤ ((1 : Int32)).toNatClampNeg) := inb_of Sz7 ⟨by decide, by decide⟩
  obtain ⟨T8, h8, X8, e8, W8, st8⟩ := stB X5 hx hZ e5 Ar7 (j := (1 : Int32)) hin7 (g := (mkF m 68 #[iv (own_ng (N / 10 / 10)), iv 3, rv bb, iv (own_ng (N / 10 / 10)), iv ((N % 100).toInt32), iv 1, iv 0] [(.int (own_d (N / 10))), (.int 1), (.ref bb)])) rfl rfl (hb hby d4_68)
  have V_bb_8 : Arv Z h8 bb kb .byte (3 : Int32) [(.int 0), (.int (nar .byte (own_d (N / 10)))), (.int (nar .byte (own_d N)))] (.int (0 : Int32)) := Arv.set Ar7 qc7 Sz7 Ng7 Hs7 Ft7 (fits_nar_byte _) W8 1 rfl (Nat.le_of_ble_eq_true rfl)
  have Zs8 : n0 ≤ h8.size := Nat.le_trans Zs4 (Keep.of_wr W8).1
  have N8 := Fr.snoc X8 N4 gb
  have Kp8 : Keep h0 h8 [bb] := Kp4.wr W8 (Or.inl (List.mem_of_getElem? (i := 0) rfl))
  have Ol8 := Ol4.wr W8 gb
  refine own_go (b := T8.setTop (mkF m 69 #[iv (own_ng (N / 10 / 10)), iv 3, rv bb, iv (own_ng (N / 10 / 10)), iv ((N % 100).toInt32), iv 1, iv 0] [])) st8 ?_
  refine own_go (b := T8.setTop (mkF m 22 #[iv (own_ng (N / 10 / 10)), iv 3, rv bb, iv (own_ng (N / 10 / 10)), iv ((N % 100).toInt32), iv 1, iv 0] [])) (fun t k => XS.goto X8.here hx rfl (pc0 := 69) (pc' := 22) rfl (hb hby d4_69) (by decide) (by decide) k) ?_
  refine own_go (b := T8.setTop (mkF m 23 #[iv (own_ng (N / 10 / 10)), iv 3, rv bb, iv (own_ng (N / 10 / 10)), iv ((N % 100).toInt32), iv 1, iv 0] [(.int (own_ng (N / 10 / 10)))])) (fun t k => XS.iloadN X8.here hx rfl (hb hby d4_22) rfl  k) ?_
  refine own_go (b := T8.setTop (mkF m 25 #[iv (own_ng (N / 10 / 10)), iv 3, rv bb, iv (own_ng (N / 10 / 10)), iv ((N % 100).toInt32), iv 1, iv 0] [(.int (-100)), (.int (own_ng (N / 10 / 10)))])) (fun t k => XS.bipush X8.here hx rfl (hb hby d4_23) k) ?_
  refine own_go (b := T8.setTop (mkF m 72 #[iv (own_ng (N / 10 / 10)), iv 3, rv bb, iv (own_ng (N / 10 / 10)), iv ((N % 100).toInt32), iv 1, iv 0] [])) (fun t k => XS.icmpYes X8.here hx rfl (pc0 := 25) (pc' := 72) rfl (hb hby d4_25) rfl (tlt (own_ng_gt (m := 100) (by omega) (by decide) (by omega))).2.2.1 (by decide) (by decide) k) ?_
  refine own_go (b := T8.setTop (mkF m 73 #[iv (own_ng (N / 10 / 10)), iv 3, rv bb, iv (own_ng (N / 10 / 10)), iv ((N % 100).toInt32), iv 1, iv 0] [(.ref bb)])) (fun t k => XS.aloadN X8.here hx rfl (hb hby d4_72) rfl rfl k) ?_
  refine own_go (b := T8.setTop (mkF m 76 #[iv (own_ng (N / 10 / 10)), iv 3, rv bb, iv (own_ng (N / 10 / 10)), iv ((N % 100).toInt32), iv 0, iv 0] [(.ref bb)])) (fun t k => XS.iinc X8.here hx rfl (hb hby d4_73) rfl (l' := #[iv (own_ng (N / 10 / 10)), iv 3, rv bb, iv (own_ng (N / 10 / 10)), iv ((N % 100).toInt32), iv 0, iv 0]) rfl k) ?_
  refine own_go (b := T8.setTop (mkF m 78 #[iv (own_ng (N / 10 / 10)), iv 3, rv bb, iv (own_ng (N / 10 / 10)), iv ((N % 100).toInt32), iv 0, iv 0] [(.int 0), (.ref bb)])) (fun t k => XS.iload X8.here hx rfl (hb hby d4_76) rfl  k) ?_
  obtain ⟨T9, X9, e9, st9⟩ := getS2 X8 hx hZ hown (host := "") (Or.inl (hw _ (List.mem_of_getElem? (i := 20) rfl))) Via.refl e8 (SO.ext Ol8.2) (g := (mkF m 78 #[iv (own_ng (N / 10 / 10)), iv 3, rv bb, iv (own_ng (N / 10 / 10)), iv ((N % 100).toInt32), iv 0, iv 0] [(.int 0), (.ref bb)])) rfl (hb hby d4_78)
  refine own_go (b := T9.setTop (mkF m 81 #[iv (own_ng (N / 10 / 10)), iv 3, rv bb, iv (own_ng (N / 10 / 10)), iv ((N % 100).toInt32), iv 0, iv 0] [(.ref dO), (.int 0), (.ref bb)])) st9 ?_
  refine own_go (b := T9.setTop (mkF m 82 #[iv (own_ng (N / 10 / 10)), iv 3, rv bb, iv (own_ng (N / 10 / 10)), iv ((N % 100).toInt32), iv 0, iv 0] [(.int (own_ng (N / 10 / 10))), (.ref dO), (.int 0), (.ref bb)])) (fun t k => XS.iloadN X9.here hx rfl (hb hby d4_81) rfl  k) ?_
  refine own_go (b := T9.setTop (mkF m 83 #[iv (own_ng (N / 10 / 10)), iv 3, rv bb, iv (own_ng (N / 10 / 10)), iv ((N % 100).toInt32), iv 0, iv 0] [(.int (-(own_ng (N / 10 / 10)))), (.ref dO), (.int 0), (.ref bb)])) (fun t k => XS.ineg X9.here hx rfl (hb hby d4_82) rfl k) ?_
  rw [own_ng_neg]
  have hq10 := hO (N / 10 / 10) (by omega)
  have ar10 := AO.ext Ol8.2
  refine own_go (b := T9.setTop (mkF m 84 #[iv (own_ng (N / 10 / 10)), iv 3, rv bb, iv (own_ng (N / 10 / 10)), iv ((N % 100).toInt32), iv 0, iv 0] [(.int (own_d (N / 10 / 10))), (.int 0), (.ref bb)])) (fun t k => X9.baloadBytes hx (j := ((N / 10 / 10).toInt32)) (v := (.int (own_d (N / 10 / 10)))) (by rw [e9]; exact ar10.1) (State.isArrayOf_alike hZ.alike ar10.2.1) ar10.2.2 hq10.1 hq10.2 (g := (mkF m 83 #[iv (own_ng (N / 10 / 10)), iv 3, rv bb, iv (own_ng (N / 10 / 10)), iv ((N % 100).toInt32), iv 0, iv 0] [(.int ((N / 10 / 10).toInt32)), (.ref dO), (.int 0), (.ref bb)])) rfl rfl (hb hby d4_83) t k) ?_
  obtain ⟨cl11, Ar11, qc11, Sz11, Ng11, Hs11, Ft11⟩ := id V_bb_8
  have hin11 : ¬ ((0 : Int32) < 0 ∨ cl11.slots.size ≤ ((0 : Int32)).toNatClampNeg) := inb_of Sz11 ⟨by decide, by decide⟩
  obtain ⟨T12, h12, X12, e12, W12, st12⟩ := stB X9 hx hZ e9 Ar11 (j := (0 : Int32)) hin11 (g := (mkF m 84 #[iv (own_ng (N / 10 / 10)), iv 3, rv bb, iv (own_ng (N / 10 / 10)), iv ((N % 100).toInt32), iv 0, iv 0] [(.int (own_d (N / 10 / 10))), (.int 0), (.ref bb)])) rfl rfl (hb hby d4_84)
  have V_bb_12 : Arv Z h12 bb kb .byte (3 : Int32) [(.int (nar .byte (own_d (N / 10 / 10)))), (.int (nar .byte (own_d (N / 10)))), (.int (nar .byte (own_d N)))] (.int (0 : Int32)) := Arv.set Ar11 qc11 Sz11 Ng11 Hs11 Ft11 (fits_nar_byte _) W12 0 rfl (Nat.le_of_ble_eq_true rfl)
  have Zs12 : n0 ≤ h12.size := Nat.le_trans Zs8 (Keep.of_wr W12).1
  have N12 := Fr.snoc X12 N8 gb
  have Kp12 : Keep h0 h12 [bb] := Kp8.wr W12 (Or.inl (List.mem_of_getElem? (i := 0) rfl))
  have Ol12 := Ol8.wr W12 gb
  refine own_go (b := T12.setTop (mkF m 85 #[iv (own_ng (N / 10 / 10)), iv 3, rv bb, iv (own_ng (N / 10 / 10)), iv ((N % 100).toInt32), iv 0, iv 0] [])) st12 ?_
  refine own_go (b := T12.setTop (mkF m 86 #[iv (own_ng (N / 10 / 10)), iv 3, rv bb, iv (own_ng (N / 10 / 10)), iv ((N % 100).toInt32), iv 0, iv 0] [(.int (own_ng (N / 10 / 10)))])) (fun t k => XS.iloadN X12.here hx rfl (hb hby d4_85) rfl  k) ?_
  refine own_go (b := T12.setTop (mkF m 88 #[iv (own_ng (N / 10 / 10)), iv 3, rv bb, iv (own_ng (N / 10 / 10)), iv ((N % 100).toInt32), iv 0, iv 0] [(.int (-9)), (.int (own_ng (N / 10 / 10)))])) (fun t k => XS.bipush X12.here hx rfl (hb hby d4_86) k) ?_
  refine own_go (b := T12.setTop (mkF m 104 #[iv (own_ng (N / 10 / 10)), iv 3, rv bb, iv (own_ng (N / 10 / 10)), iv ((N % 100).toInt32), iv 0, iv 0] [])) (fun t k => XS.icmpYes X12.here hx rfl (pc0 := 88) (pc' := 104) rfl (hb hby d4_88) rfl (flt (own_ng_nlt (m := 9) (by omega) (by decide) (by omega))).2.1 (by decide) (by decide) k) ?_
  refine own_go (b := T12.setTop (mkF m 106 #[iv (own_ng (N / 10 / 10)), iv 3, rv bb, iv (own_ng (N / 10 / 10)), iv ((N % 100).toInt32), iv 0, iv 0] [(.int 0)])) (fun t k => XS.iload X12.here hx rfl (hb hby d4_104) rfl  k) ?_
  refine own_go (b := T12.setTop (mkF m 118 #[iv (own_ng (N / 10 / 10)), iv 3, rv bb, iv (own_ng (N / 10 / 10)), iv ((N % 100).toInt32), iv 0, iv 0] [])) (fun t k => XS.ifYes X12.here hx rfl (pc0 := 106) (pc' := 118) rfl (hb hby d4_106) rfl ((if0 _ _).trans (teq (rfl : (0 : Int32) = (0 : Int32))).1) (by decide) (by decide) k) ?_
  refine own_go (b := T12.setTop (mkF m 120 #[iv (own_ng (N / 10 / 10)), iv 3, rv bb, iv (own_ng (N / 10 / 10)), iv ((N % 100).toInt32), iv 0, iv 0] [(.int 0)])) (fun t k => XS.iload X12.here hx rfl (hb hby d4_118) rfl  k) ?_
  exact own_retI X12 hx hlk hrt (hb hby d4_120) (Nat.le_of_ble_eq_true rfl) (Nat.le_of_ble_eq_true rfl) (⟨rfl, N12, by rw [e12]; exact Kp12, by rw [e12]; have q := V_bb_12; simp only [own_nar] at q; exact q⟩)
theorem ef_4_4 (m : MethodId) (ct : Int32) (sz : Int32) (bb : Addr) : entryFrame m #[(.int ct), (.int sz), (.ref bb)] 7 = mkF m 0 #[iv ct, iv sz, rv bb, .unset, .unset, .unset, .unset] [] := by first | (simp [entryFrame, mkF, argsToLocals, Value.category]; done) | rfl
def Q4_4 (Z : State) (ct : Int32) (sz : Int32) (bb : Addr) (N : Nat) (kb : ClassId) (dO : Addr) (dT : Addr) (cO : Cell) (cT : Cell) (h0 : Heap) (n0 : Nat) (v : Option Value) (h : Heap) (L : List Loc) : Prop := v = some (.int 0) ∧ Fr n0 L ∧ Keep h0 h [bb] ∧ Arv Z h bb kb .byte (Int32.ofNat 4) ((own_digs N 4).map Value.int) (.int (0 : Int32))
set_option maxRecDepth 65536 in
set_option maxHeartbeats 40000000 in
theorem rm4_4 (l : Launch) (Z : State) (a0 : Array Value) (hw : ∀ d ∈ tables_1, d.before a0 Z = true) (ws : List Jvm.Cond) (ct : Int32) (sz : Int32) (bb : Addr) (N : Nat) (kb : ClassId) (dO : Addr) (dT : Addr) (cO : Cell) (cT : Cell) (h0 : Heap) (n0 : Nat) (Z0 : n0 ≤ h0.size) (hct : ct = N.toInt32) (hct1 : sz = (4 : Int32)) (hN : N < 2147483648) (hlo : 1000 ≤ N) (hhi : N < 10000) (SO : Sta Z Z.heap "java/lang/Integer" "DigitOnes" "[B" (.ref dO)) (ST : Sta Z Z.heap "java/lang/Integer" "DigitTens" "[B" (.ref dT)) (AO : Arr Z Z.heap dO cO .byte) (AT : Arr Z Z.heap dT cT .byte) (hO : ∀ r : Nat, r < 100 → ¬ (r.toInt32 < 0 ∨ cO.slots.size ≤ r.toInt32.toNatClampNeg) ∧ cO.slots[r.toInt32.toNatClampNeg]? = some (.int (own_d r))) (hT : ∀ r : Nat, r < 100 → ¬ (r.toInt32 < 0 ∨ cT.slots.size ≤ r.toInt32.toNatClampNeg) ∧ cT.slots[r.toInt32.toNatClampNeg]? = some (.int (own_d (r / 10)))) (Vb : Arv Z h0 bb kb .byte (4 : Int32) [.int (0 : Int32), .int (0 : Int32), .int (0 : Int32), .int (0 : Int32)] (.int (0 : Int32))) (gb : n0 ≤ bb) (Od : Old Z n0 h0) :
    MetFree l (⟨"java/lang/Integer", "getChars", "(II[B)I"⟩ : MethodName) (head1 (Jvm.Cond.code (⟨"java/lang/Integer", "getChars", "(II[B)I"⟩ : MethodName) jdk_33_method_12_code 7 (some .int) :: ws) ({ frames := 0, cells := 0, slots := 0, locals := 0 } : Room)) (fun a U => a = #[(.int ct), (.int sz), (.ref bb)] ∧ Z.Warmed39 U.vm ∧ U.heap = h0) (fun _ _ _ _ _ => True) (fun _ U o U' => ∃ v L, o = .returned v ∧ Q4_4 Z ct sz bb N kb dO dT cO cT h0 n0 v U'.heap L ∧ FrameEnd U o U' L ({ frames := 0, cells := 0, slots := 0, locals := 0 } : Room).cells ({ frames := 0, cells := 0, slots := 0, locals := 0 } : Room).slots) := by
  refine MetFree.of_bodySF (plainFor_of_name pn_0) hisR ?_
  intro p e s m args below meth c s₁ Bd hml0 hP hK
  obtain ⟨rfl, hZ, hh⟩ := hP
  have hx := Bd.exec
  have hby := Bd.bytes
  have hml : c.maxLocals = 7 := hml0
  have hown : s.vm.findClass "java/lang/Integer" = some m.cls := findClass_of_methodNamed Bd.named
  have hnm := (name_of_methodNamed Bd.named Bd.method).1
  have hlk : meth.locks = false := Bd.notSynchronized
  have hrt := Bd.returns
  have X0 : Stand p l e ({ frames := 0, cells := 0, slots := 0, locals := 0 } : Room) s m #[(.int ct), (.int sz), (.ref bb)] below meth c s₁ [] 0 0 := Stand.of_body Bd
  have e0 : s₁.heap = h0 := by rw [← hh, Bd.state]; rfl
  have N0 := Fr.nil n0
  show own_Endz p.tables e below (own_EndQ s ({ frames := 0, cells := 0, slots := 0, locals := 0 } : Room).cells ({ frames := 0, cells := 0, slots := 0, locals := 0 } : Room).slots (Q4_4 Z ct sz bb N kb dO dT cO cT h0 n0)) (s₁.setTop (entryFrame m #[(.int ct), (.int sz), (.ref bb)] 7))
  refine own_cast (ef_4_4 m ct sz bb) ?_
  subst hct
  subst hct1
  refine own_go (b := s₁.setTop (mkF m 1 #[iv (N.toInt32), iv 4, rv bb, .unset, .unset, .unset, .unset] [(.int 4)])) (fun t k => XS.iloadN X0.here hx rfl (hb hby d4_0) rfl  k) ?_
  refine own_go (b := s₁.setTop (mkF m 3 #[iv (N.toInt32), iv 4, rv bb, .unset, .unset, iv 4, .unset] [])) (fun t k => XS.istore X0.here hx rfl (hb hby d4_1) rfl (l' := #[iv (N.toInt32), iv 4, rv bb, .unset, .unset, iv 4, .unset]) rfl k) ?_
  refine own_go (b := s₁.setTop (mkF m 4 #[iv (N.toInt32), iv 4, rv bb, .unset, .unset, iv 4, .unset] [(.int (N.toInt32))])) (fun t k => XS.iloadN X0.here hx rfl (hb hby d4_3) rfl  k) ?_
  refine own_go (b := s₁.setTop (mkF m 11 #[iv (N.toInt32), iv 4, rv bb, .unset, .unset, iv 4, .unset] [])) (fun t k => XS.ifYes X0.here hx rfl (pc0 := 4) (pc' := 11) rfl (hb hby d4_4) rfl ((if0 _ _).trans (flt (own_nn hN)).2.1) (by decide) (by decide) k) ?_
  refine own_go (b := s₁.setTop (mkF m 12 #[iv (N.toInt32), iv 4, rv bb, .unset, .unset, iv 4, .unset] [(.int 0)])) (fun t k => XS.iconst X0.here hx rfl (hb hby d4_11) k) ?_
  refine own_go (b := s₁.setTop (mkF m 14 #[iv (N.toInt32), iv 4, rv bb, .unset, .unset, iv 4, iv 0] [])) (fun t k => XS.istore X0.here hx rfl (hb hby d4_12) rfl (l' := #[iv (N.toInt32), iv 4, rv bb, .unset, .unset, iv 4, iv 0]) rfl k) ?_
  refine own_go (b := s₁.setTop (mkF m 16 #[iv (N.toInt32), iv 4, rv bb, .unset, .unset, iv 4, iv 0] [(.int 0)])) (fun t k => XS.iload X0.here hx rfl (hb hby d4_14) rfl  k) ?_
  refine own_go (b := s₁.setTop (mkF m 19 #[iv (N.toInt32), iv 4, rv bb, .unset, .unset, iv 4, iv 0] [])) (fun t k => XS.ifNo X0.here hx rfl (hb hby d4_16) rfl ((if0 _ _).trans (teq (rfl : (0 : Int32) = (0 : Int32))).2) k) ?_
  refine own_go (b := s₁.setTop (mkF m 20 #[iv (N.toInt32), iv 4, rv bb, .unset, .unset, iv 4, iv 0] [(.int (N.toInt32))])) (fun t k => XS.iloadN X0.here hx rfl (hb hby d4_19) rfl  k) ?_
  refine own_go (b := s₁.setTop (mkF m 21 #[iv (N.toInt32), iv 4, rv bb, .unset, .unset, iv 4, iv 0] [(.int (-(N.toInt32)))])) (fun t k => XS.ineg X0.here hx rfl (hb hby d4_20) rfl k) ?_
  refine own_go (b := s₁.setTop (mkF m 22 #[iv (-(N.toInt32)), iv 4, rv bb, .unset, .unset, iv 4, iv 0] [])) (fun t k => XS.istoreN X0.here hx rfl (hb hby d4_21) rfl (l' := #[iv (-(N.toInt32)), iv 4, rv bb, .unset, .unset, iv 4, iv 0]) rfl k) ?_
  show own_Endz p.tables e below (own_EndQ s ({ frames := 0, cells := 0, slots := 0, locals := 0 } : Room).cells ({ frames := 0, cells := 0, slots := 0, locals := 0 } : Room).slots (Q4_4 Z ((N.toInt32)) ((4 : Int32)) bb N kb dO dT cO cT h0 n0)) (s₁.setTop (mkF m 22 #[iv (own_ng N), iv 4, rv bb, .unset, .unset, iv 4, iv 0] []))
  refine own_go (b := s₁.setTop (mkF m 23 #[iv (own_ng N), iv 4, rv bb, .unset, .unset, iv 4, iv 0] [(.int (own_ng N))])) (fun t k => XS.iloadN X0.here hx rfl (hb hby d4_22) rfl  k) ?_
  refine own_go (b := s₁.setTop (mkF m 25 #[iv (own_ng N), iv 4, rv bb, .unset, .unset, iv 4, iv 0] [(.int (-100)), (.int (own_ng N))])) (fun t k => XS.bipush X0.here hx rfl (hb hby d4_23) k) ?_
  refine own_go (b := s₁.setTop (mkF m 28 #[iv (own_ng N), iv 4, rv bb, .unset, .unset, iv 4, iv 0] [])) (fun t k => XS.icmpNo X0.here hx rfl (hb hby d4_25) rfl (flt (own_ng_ngt (m := 100) (by omega) (by decide) (by omega))).2.2.1 k) ?_
  refine own_go (b := s₁.setTop (mkF m 29 #[iv (own_ng N), iv 4, rv bb, .unset, .unset, iv 4, iv 0] [(.int (own_ng N))])) (fun t k => XS.iloadN X0.here hx rfl (hb hby d4_28) rfl  k) ?_
  refine own_go (b := s₁.setTop (mkF m 31 #[iv (own_ng N), iv 4, rv bb, .unset, .unset, iv 4, iv 0] [(.int 100), (.int (own_ng N))])) (fun t k => XS.bipush X0.here hx rfl (hb hby d4_29) k) ?_
  refine own_go (b := s₁.setTop (mkF m 32 #[iv (own_ng N), iv 4, rv bb, .unset, .unset, iv 4, iv 0] [(.int ((own_ng N) / (100 : Int32)))])) (fun t k => XS.idiv X0.here hx rfl (hb hby d4_31) rfl (by decide) k) ?_
  refine own_go (b := s₁.setTop (mkF m 33 #[iv (own_ng N), iv 4, rv bb, iv ((own_ng N) / (100 : Int32)), .unset, iv 4, iv 0] [])) (fun t k => XS.istoreN X0.here hx rfl (hb hby d4_32) rfl (l' := #[iv (own_ng N), iv 4, rv bb, iv ((own_ng N) / (100 : Int32)), .unset, iv 4, iv 0]) rfl k) ?_
  rw [own_ng_div (a := N) (by omega)]
  refine own_go (b := s₁.setTop (mkF m 34 #[iv (own_ng N), iv 4, rv bb, iv (own_ng (N / 10 / 10)), .unset, iv 4, iv 0] [(.int (own_ng (N / 10 / 10)))])) (fun t k => XS.iloadN X0.here hx rfl (hb hby d4_33) rfl  k) ?_
  refine own_go (b := s₁.setTop (mkF m 36 #[iv (own_ng N), iv 4, rv bb, iv (own_ng (N / 10 / 10)), .unset, iv 4, iv 0] [(.int 100), (.int (own_ng (N / 10 / 10)))])) (fun t k => XS.bipush X0.here hx rfl (hb hby d4_34) k) ?_
  refine own_go (b := s₁.setTop (mkF m 37 #[iv (own_ng N), iv 4, rv bb, iv (own_ng (N / 10 / 10)), .unset, iv 4, iv 0] [(.int ((own_ng (N / 10 / 10)) * (100 : Int32)))])) (fun t k => XS.imul X0.here hx rfl (hb hby d4_36) rfl k) ?_
  refine own_go (b := s₁.setTop (mkF m 38 #[iv (own_ng N), iv 4, rv bb, iv (own_ng (N / 10 / 10)), .unset, iv 4, iv 0] [(.int (own_ng N)), (.int ((own_ng (N / 10 / 10)) * (100 : Int32)))])) (fun t k => XS.iloadN X0.here hx rfl (hb hby d4_37) rfl  k) ?_
  refine own_go (b := s₁.setTop (mkF m 39 #[iv (own_ng N), iv 4, rv bb, iv (own_ng (N / 10 / 10)), .unset, iv 4, iv 0] [(.int (((own_ng (N / 10 / 10)) * (100 : Int32)) - (own_ng N)))])) (fun t k => XS.isub X0.here hx rfl (hb hby d4_38) rfl k) ?_
  refine own_go (b := s₁.setTop (mkF m 41 #[iv (own_ng N), iv 4, rv bb, iv (own_ng (N / 10 / 10)), iv (((own_ng (N / 10 / 10)) * (100 : Int32)) - (own_ng N)), iv 4, iv 0] [])) (fun t k => XS.istore X0.here hx rfl (hb hby d4_39) rfl (l' := #[iv (own_ng N), iv 4, rv bb, iv (own_ng (N / 10 / 10)), iv (((own_ng (N / 10 / 10)) * (100 : Int32)) - (own_ng N)), iv 4, iv 0]) rfl k) ?_
  rw [own_ng_rem (a := N) (by omega)]
  refine own_go (b := s₁.setTop (mkF m 42 #[iv (own_ng N), iv 4, rv bb, iv (own_ng (N / 10 / 10)), iv ((N % 100).toInt32), iv 4, iv 0] [(.int (own_ng (N / 10 / 10)))])) (fun t k => XS.iloadN X0.here hx rfl (hb hby d4_41) rfl  k) ?_
  refine own_go (b := s₁.setTop (mkF m 43 #[iv (own_ng (N / 10 / 10)), iv 4, rv bb, iv (own_ng (N / 10 / 10)), iv ((N % 100).toInt32), iv 4, iv 0] [])) (fun t k => XS.istoreN X0.here hx rfl (hb hby d4_42) rfl (l' := #[iv (own_ng (N / 10 / 10)), iv 4, rv bb, iv (own_ng (N / 10 / 10)), iv ((N % 100).toInt32), iv 4, iv 0]) rfl k) ?_
  refine own_go (b := s₁.setTop (mkF m 44 #[iv (own_ng (N / 10 / 10)), iv 4, rv bb, iv (own_ng (N / 10 / 10)), iv ((N % 100).toInt32), iv 4, iv 0] [(.ref bb)])) (fun t k => XS.aloadN X0.here hx rfl (hb hby d4_43) rfl rfl k) ?_
  refine own_go (b := s₁.setTop (mkF m 47 #[iv (own_ng (N / 10 / 10)), iv 4, rv bb, iv (own_ng (N / 10 / 10)), iv ((N % 100).toInt32), iv 3, iv 0] [(.ref bb)])) (fun t k => XS.iinc X0.here hx rfl (hb hby d4_44) rfl (l' := #[iv (own_ng (N / 10 / 10)), iv 4, rv bb, iv (own_ng (N / 10 / 10)), iv ((N % 100).toInt32), iv 3, iv 0]) rfl k) ?_
  refine own_go (b := s₁.setTop (mkF m 49 #[iv (own_ng (N / 10 / 10)), iv 4, rv bb, iv (own_ng (N / 10 / 10)), iv ((N % 100).toInt32), iv 3, iv 0] [(.int 3), (.ref bb)])) (fun t k => XS.iload X0.here hx rfl (hb hby d4_47) rfl  k) ?_
  obtain ⟨T1, X1, e1, st1⟩ := getS2 X0 hx hZ hown (host := "") (Or.inl (hw _ (List.mem_of_getElem? (i := 20) rfl))) Via.refl e0 (SO.ext Od.2) (g := (mkF m 49 #[iv (own_ng (N / 10 / 10)), iv 4, rv bb, iv (own_ng (N / 10 / 10)), iv ((N % 100).toInt32), iv 3, iv 0] [(.int 3), (.ref bb)])) rfl (hb hby d4_49)
  refine own_go (b := T1.setTop (mkF m 52 #[iv (own_ng (N / 10 / 10)), iv 4, rv bb, iv (own_ng (N / 10 / 10)), iv ((N % 100).toInt32), iv 3, iv 0] [(.ref dO), (.int 3), (.ref bb)])) st1 ?_
  refine own_go (b := T1.setTop (mkF m 54 #[iv (own_ng (N / 10 / 10)), iv 4, rv bb, iv (own_ng (N / 10 / 10)), iv ((N % 100).toInt32), iv 3, iv 0] [(.int ((N % 100).toInt32)), (.ref dO), (.int 3), (.ref bb)])) (fun t k => XS.iload X1.here hx rfl (hb hby d4_52) rfl  k) ?_
  have hq2 := hO (N % 100) (by omega)
  rw [own_d_ones] at hq2
  have ar2 := AO.ext Od.2
  refine own_go (b := T1.setTop (mkF m 55 #[iv (own_ng (N / 10 / 10)), iv 4, rv bb, iv (own_ng (N / 10 / 10)), iv ((N % 100).toInt32), iv 3, iv 0] [(.int (own_d N)), (.int 3), (.ref bb)])) (fun t k => X1.baloadBytes hx (j := ((N % 100).toInt32)) (v := (.int (own_d N))) (by rw [e1]; exact ar2.1) (State.isArrayOf_alike hZ.alike ar2.2.1) ar2.2.2 hq2.1 hq2.2 (g := (mkF m 54 #[iv (own_ng (N / 10 / 10)), iv 4, rv bb, iv (own_ng (N / 10 / 10)), iv ((N % 100).toInt32), iv 3, iv 0] [(.int ((N % 100).toInt32)), (.ref dO), (.int 3), (.ref bb)])) rfl rfl (hb hby d4_54) t k) ?_
  obtain ⟨cl3, Ar3, qc3, Sz3, Ng3, Hs3, Ft3⟩ := id Vb
  have hin3 : ¬ ((3 : Int32) < 0 ∨ cl3.slots.size ≤ ((3 : Int32)).toNatClampNeg) := inb_of Sz3 ⟨by decide, by decide⟩
  obtain ⟨T4, h4, X4, e4, W4, st4⟩ := stB X1 hx hZ e1 Ar3 (j := (3 : Int32)) hin3 (g := (mkF m 55 #[iv (own_ng (N / 10 / 10)), iv 4, rv bb, iv (own_ng (N / 10 / 10)), iv ((N % 100).toInt32), iv 3, iv 0] [(.int (own_d N)), (.int 3), (.ref bb)])) rfl rfl (hb hby d4_55)
  have V_bb_4 : Arv Z h4 bb kb .byte (4 : Int32) [(.int 0), (.int 0), (.int 0), (.int (nar .byte (own_d N)))] (.int (0 : Int32)) := Arv.set Ar3 qc3 Sz3 Ng3 Hs3 Ft3 (fits_nar_byte _) W4 3 rfl (Nat.le_of_ble_eq_true rfl)
  have Zs4 : n0 ≤ h4.size := Nat.le_trans Z0 (Keep.of_wr W4).1
  have N4 := Fr.snoc X4 N0 gb
  have Kp4 : Keep h0 h4 [bb] := (Keep.refl h0 [bb]).wr W4 (Or.inl (List.mem_of_getElem? (i := 0) rfl))
  have Ol4 := Od.wr W4 gb
  refine own_go (b := T4.setTop (mkF m 56 #[iv (own_ng (N / 10 / 10)), iv 4, rv bb, iv (own_ng (N / 10 / 10)), iv ((N % 100).toInt32), iv 3, iv 0] [])) st4 ?_
  refine own_go (b := T4.setTop (mkF m 57 #[iv (own_ng (N / 10 / 10)), iv 4, rv bb, iv (own_ng (N / 10 / 10)), iv ((N % 100).toInt32), iv 3, iv 0] [(.ref bb)])) (fun t k => XS.aloadN X4.here hx rfl (hb hby d4_56) rfl rfl k) ?_
  refine own_go (b := T4.setTop (mkF m 60 #[iv (own_ng (N / 10 / 10)), iv 4, rv bb, iv (own_ng (N / 10 / 10)), iv ((N % 100).toInt32), iv 2, iv 0] [(.ref bb)])) (fun t k => XS.iinc X4.here hx rfl (hb hby d4_57) rfl (l' := #[iv (own_ng (N / 10 / 10)), iv 4, rv bb, iv (own_ng (N / 10 / 10)), iv ((N % 100).toInt32), iv 2, iv 0]) rfl k) ?_
  refine own_go (b := T4.setTop (mkF m 62 #[iv (own_ng (N / 10 / 10)), iv 4, rv bb, iv (own_ng (N / 10 / 10)), iv ((N % 100).toInt32), iv 2, iv 0] [(.int 2), (.ref bb)])) (fun t k => XS.iload X4.here hx rfl (hb hby d4_60) rfl  k) ?_
  obtain ⟨T5, X5, e5, st5⟩ := getS2 X4 hx hZ hown (host := "") (Or.inl (hw _ (List.mem_of_getElem? (i := 126) rfl))) Via.refl e4 (ST.ext Ol4.2) (g := (mkF m 62 #[iv (own_ng (N / 10 / 10)), iv 4, rv bb, iv (own_ng (N / 10 / 10)), iv ((N % 100).toInt32), iv 2, iv 0] [(.int 2), (.ref bb)])) rfl (hb hby d4_62)
  refine own_go (b := T5.setTop (mkF m 65 #[iv (own_ng (N / 10 / 10)), iv 4, rv bb, iv (own_ng (N / 10 / 10)), iv ((N % 100).toInt32), iv 2, iv 0] [(.ref dT), (.int 2), (.ref bb)])) st5 ?_
  refine own_go (b := T5.setTop (mkF m 67 #[iv (own_ng (N / 10 / 10)), iv 4, rv bb, iv (own_ng (N / 10 / 10)), iv ((N % 100).toInt32), iv 2, iv 0] [(.int ((N % 100).toInt32)), (.ref dT), (.int 2), (.ref bb)])) (fun t k => XS.iload X5.here hx rfl (hb hby d4_65) rfl  k) ?_
  have hq6 := hT (N % 100) (by omega)
  rw [own_d_tens] at hq6
  have ar6 := AT.ext Ol4.2
  refine own_go (b := T5.setTop (mkF m 68 #[iv (own_ng (N / 10 / 10)), iv 4, rv bb, iv (own_ng (N / 10 / 10)), iv ((N % 100).toInt32), iv 2, iv 0] [(.int (own_d (N / 10))), (.int 2), (.ref bb)])) (fun t k => X5.baloadBytes hx (j := ((N % 100).toInt32)) (v := (.int (own_d (N / 10)))) (by rw [e5]; exact ar6.1) (State.isArrayOf_alike hZ.alike ar6.2.1) ar6.2.2 hq6.1 hq6.2 (g := (mkF m 67 #[iv (own_ng (N / 10 / 10)), iv 4, rv bb, iv (own_ng (N / 10 / 10)), iv ((N % 100).toInt32), iv 2, iv 0] [(.int ((N % 100).toInt32)), (.ref dT), (.int 2), (.ref bb)])) rfl rfl (hb hby d4_67) t k) ?_
  obtain ⟨cl7, Ar7, qc7, Sz7, Ng7, Hs7, Ft7⟩ := id V_bb_4
  have hin7 : ¬ ((2 : Int32) < 0 ∨ cl7.slots.size ≤ ((2 : Int32)).toNatClampNeg) := inb_of Sz7 ⟨by decide, by decide⟩
  obtain ⟨T8, h8, X8, e8, W8, st8⟩ := stB X5 hx hZ e5 Ar7 (j := (2 : Int32)) hin7 (g := (mkF m 68 #[iv (own_ng (N / 10 / 10)), iv 4, rv bb, iv (own_ng (N / 10 / 10)), iv ((N % 100).toInt32), iv 2, iv 0] [(.int (own_d (N / 10))), (.int 2), (.ref bb)])) rfl rfl (hb hby d4_68)
  have V_bb_8 : Arv Z h8 bb kb .byte (4 : Int32) [(.int 0), (.int 0), (.int (nar .byte (own_d (N / 10)))), (.int (nar .byte (own_d N)))] (.int (0 : Int32)) := Arv.set Ar7 qc7 Sz7 Ng7 Hs7 Ft7 (fits_nar_byte _) W8 2 rfl (Nat.le_of_ble_eq_true rfl)
  have Zs8 : n0 ≤ h8.size := Nat.le_trans Zs4 (Keep.of_wr W8).1
  have N8 := Fr.snoc X8 N4 gb
  have Kp8 : Keep h0 h8 [bb] := Kp4.wr W8 (Or.inl (List.mem_of_getElem? (i := 0) rfl))
  have Ol8 := Ol4.wr W8 gb
  refine own_go (b := T8.setTop (mkF m 69 #[iv (own_ng (N / 10 / 10)), iv 4, rv bb, iv (own_ng (N / 10 / 10)), iv ((N % 100).toInt32), iv 2, iv 0] [])) st8 ?_
  refine own_go (b := T8.setTop (mkF m 22 #[iv (own_ng (N / 10 / 10)), iv 4, rv bb, iv (own_ng (N / 10 / 10)), iv ((N % 100).toInt32), iv 2, iv 0] [])) (fun t k => XS.goto X8.here hx rfl (pc0 := 69) (pc' := 22) rfl (hb hby d4_69) (by decide) (by decide) k) ?_
  refine own_go (b := T8.setTop (mkF m 23 #[iv (own_ng (N / 10 / 10)), iv 4, rv bb, iv (own_ng (N / 10 / 10)), iv ((N % 100).toInt32), iv 2, iv 0] [(.int (own_ng (N / 10 / 10)))])) (fun t k => XS.iloadN X8.here hx rfl (hb hby d4_22) rfl  k) ?_
  refine own_go (b := T8.setTop (mkF m 25 #[iv (own_ng (N / 10 / 10)), iv 4, rv bb, iv (own_ng (N / 10 / 10)), iv ((N % 100).toInt32), iv 2, iv 0] [(.int (-100)), (.int (own_ng (N / 10 / 10)))])) (fun t k => XS.bipush X8.here hx rfl (hb hby d4_23) k) ?_
  refine own_go (b := T8.setTop (mkF m 72 #[iv (own_ng (N / 10 / 10)), iv 4, rv bb, iv (own_ng (N / 10 / 10)), iv ((N % 100).toInt32), iv 2, iv 0] [])) (fun t k => XS.icmpYes X8.here hx rfl (pc0 := 25) (pc' := 72) rfl (hb hby d4_25) rfl (tlt (own_ng_gt (m := 100) (by omega) (by decide) (by omega))).2.2.1 (by decide) (by decide) k) ?_
  refine own_go (b := T8.setTop (mkF m 73 #[iv (own_ng (N / 10 / 10)), iv 4, rv bb, iv (own_ng (N / 10 / 10)), iv ((N % 100).toInt32), iv 2, iv 0] [(.ref bb)])) (fun t k => XS.aloadN X8.here hx rfl (hb hby d4_72) rfl rfl k) ?_
  refine own_go (b := T8.setTop (mkF m 76 #[iv (own_ng (N / 10 / 10)), iv 4, rv bb, iv (own_ng (N / 10 / 10)), iv ((N % 100).toInt32), iv 1, iv 0] [(.ref bb)])) (fun t k => XS.iinc X8.here hx rfl (hb hby d4_73) rfl (l' := #[iv (own_ng (N / 10 / 10)), iv 4, rv bb, iv (own_ng (N / 10 / 10)), iv ((N % 100).toInt32), iv 1, iv 0]) rfl k) ?_
  refine own_go (b := T8.setTop (mkF m 78 #[iv (own_ng (N / 10 / 10)), iv 4, rv bb, iv (own_ng (N / 10 / 10)), iv ((N % 100).toInt32), iv 1, iv 0] [(.int 1), (.ref bb)])) (fun t k => XS.iload X8.here hx rfl (hb hby d4_76) rfl  k) ?_
  obtain ⟨T9, X9, e9, st9⟩ := getS2 X8 hx hZ hown (host := "") (Or.inl (hw _ (List.mem_of_getElem? (i := 20) rfl))) Via.refl e8 (SO.ext Ol8.2) (g := (mkF m 78 #[iv (own_ng (N / 10 / 10)), iv 4, rv bb, iv (own_ng (N / 10 / 10)), iv ((N % 100).toInt32), iv 1, iv 0] [(.int 1), (.ref bb)])) rfl (hb hby d4_78)
  refine own_go (b := T9.setTop (mkF m 81 #[iv (own_ng (N / 10 / 10)), iv 4, rv bb, iv (own_ng (N / 10 / 10)), iv ((N % 100).toInt32), iv 1, iv 0] [(.ref dO), (.int 1), (.ref bb)])) st9 ?_
  refine own_go (b := T9.setTop (mkF m 82 #[iv (own_ng (N / 10 / 10)), iv 4, rv bb, iv (own_ng (N / 10 / 10)), iv ((N % 100).toInt32), iv 1, iv 0] [(.int (own_ng (N / 10 / 10))), (.ref dO), (.int 1), (.ref bb)])) (fun t k => XS.iloadN X9.here hx rfl (hb hby d4_81) rfl  k) ?_
  refine own_go (b := T9.setTop (mkF m 83 #[iv (own_ng (N / 10 / 10)), iv 4, rv bb, iv (own_ng (N / 10 / 10)), iv ((N % 100).toInt32), iv 1, iv 0] [(.int (-(own_ng (N / 10 / 10)))), (.ref dO), (.int 1), (.ref bb)])) (fun t k => XS.ineg X9.here hx rfl (hb hby d4_82) rfl k) ?_
  rw [own_ng_neg]
  have hq10 := hO (N / 10 / 10) (by omega)
  have ar10 := AO.ext Ol8.2
  refine own_go (b := T9.setTop (mkF m 84 #[iv (own_ng (N / 10 / 10)), iv 4, rv bb, iv (own_ng (N / 10 / 10)), iv ((N % 100).toInt32), iv 1, iv 0] [(.int (own_d (N / 10 / 10))), (.int 1), (.ref bb)])) (fun t k => X9.baloadBytes hx (j := ((N / 10 / 10).toInt32)) (v := (.int (own_d (N / 10 / 10)))) (by rw [e9]; exact ar10.1) (State.isArrayOf_alike hZ.alike ar10.2.1) ar10.2.2 hq10.1 hq10.2 (g := (mkF m 83 #[iv (own_ng (N / 10 / 10)), iv 4, rv bb, iv (own_ng (N / 10 / 10)), iv ((N % 100).toInt32), iv 1, iv 0] [(.int ((N / 10 / 10).toInt32)), (.ref dO), (.int 1), (.ref bb)])) rfl rfl (hb hby d4_83) t k) ?_
  obtain ⟨cl11, Ar11, qc11, Sz11, Ng11, Hs11, Ft11⟩ := id V_bb_8
  have hin11 : ¬ ((1 : Int32) < 0 ∨ cl11.slots.size ≤ ((1 : Int32)).toNatClampNeg) := inb_of Sz11 ⟨by decide, by decide⟩
  obtain ⟨T12, h12, X12, e12, W12, st12⟩ := stB X9 hx hZ e9 Ar11 (j := (1 : Int32)) hin11 (g := (mkF m 84 #[iv (own_ng (N / 10 / 10)), iv 4, rv bb, iv (own_ng (N / 10 / 10)), iv ((N % 100).toInt32), iv 1, iv 0] [(.int (own_d (N / 10 / 10))), (.int 1), (.ref bb)])) rfl rfl (hb hby d4_84)
  have V_bb_12 : Arv Z h12 bb kb .byte (4 : Int32) [(.int 0), (.int (nar .byte (own_d (N / 10 / 10)))), (.int (nar .byte (own_d (N / 10)))), (.int (nar .byte (own_d N)))] (.int (0 : Int32)) := Arv.set Ar11 qc11 Sz11 Ng11 Hs11 Ft11 (fits_nar_byte _) W12 1 rfl (Nat.le_of_ble_eq_true rfl)
  have Zs12 : n0 ≤ h12.size := Nat.le_trans Zs8 (Keep.of_wr W12).1
  have N12 := Fr.snoc X12 N8 gb
  have Kp12 : Keep h0 h12 [bb] := Kp8.wr W12 (Or.inl (List.mem_of_getElem? (i := 0) rfl))
  have Ol12 := Ol8.wr W12 gb
  refine own_go (b := T12.setTop (mkF m 85 #[iv (own_ng (N / 10 / 10)), iv 4, rv bb, iv (own_ng (N / 10 / 10)), iv ((N % 100).toInt32), iv 1, iv 0] [])) st12 ?_
  refine own_go (b := T12.setTop (mkF m 86 #[iv (own_ng (N / 10 / 10)), iv 4, rv bb, iv (own_ng (N / 10 / 10)), iv ((N % 100).toInt32), iv 1, iv 0] [(.int (own_ng (N / 10 / 10)))])) (fun t k => XS.iloadN X12.here hx rfl (hb hby d4_85) rfl  k) ?_
  refine own_go (b := T12.setTop (mkF m 88 #[iv (own_ng (N / 10 / 10)), iv 4, rv bb, iv (own_ng (N / 10 / 10)), iv ((N % 100).toInt32), iv 1, iv 0] [(.int (-9)), (.int (own_ng (N / 10 / 10)))])) (fun t k => XS.bipush X12.here hx rfl (hb hby d4_86) k) ?_
  refine own_go (b := T12.setTop (mkF m 91 #[iv (own_ng (N / 10 / 10)), iv 4, rv bb, iv (own_ng (N / 10 / 10)), iv ((N % 100).toInt32), iv 1, iv 0] [])) (fun t k => XS.icmpNo X12.here hx rfl (hb hby d4_88) rfl (tlt (own_ng_lt (m := 9) (by omega) (by decide) (by omega))).2.1 k) ?_
  refine own_go (b := T12.setTop (mkF m 92 #[iv (own_ng (N / 10 / 10)), iv 4, rv bb, iv (own_ng (N / 10 / 10)), iv ((N % 100).toInt32), iv 1, iv 0] [(.ref bb)])) (fun t k => XS.aloadN X12.here hx rfl (hb hby d4_91) rfl rfl k) ?_
  refine own_go (b := T12.setTop (mkF m 95 #[iv (own_ng (N / 10 / 10)), iv 4, rv bb, iv (own_ng (N / 10 / 10)), iv ((N % 100).toInt32), iv 0, iv 0] [(.ref bb)])) (fun t k => XS.iinc X12.here hx rfl (hb hby d4_92) rfl (l' := #[iv (own_ng (N / 10 / 10)), iv 4, rv bb, iv (own_ng (N / 10 / 10)), iv ((N % 100).toInt32), iv 0, iv 0]) rfl k) ?_
  refine own_go (b := T12.setTop (mkF m 97 #[iv (own_ng (N / 10 / 10)), iv 4, rv bb, iv (own_ng (N / 10 / 10)), iv ((N % 100).toInt32), iv 0, iv 0] [(.int 0), (.ref bb)])) (fun t k => XS.iload X12.here hx rfl (hb hby d4_95) rfl  k) ?_
  obtain ⟨T13, X13, e13, st13⟩ := getS2 X12 hx hZ hown (host := "") (Or.inl (hw _ (List.mem_of_getElem? (i := 126) rfl))) Via.refl e12 (ST.ext Ol12.2) (g := (mkF m 97 #[iv (own_ng (N / 10 / 10)), iv 4, rv bb, iv (own_ng (N / 10 / 10)), iv ((N % 100).toInt32), iv 0, iv 0] [(.int 0), (.ref bb)])) rfl (hb hby d4_97)
  refine own_go (b := T13.setTop (mkF m 100 #[iv (own_ng (N / 10 / 10)), iv 4, rv bb, iv (own_ng (N / 10 / 10)), iv ((N % 100).toInt32), iv 0, iv 0] [(.ref dT), (.int 0), (.ref bb)])) st13 ?_
  refine own_go (b := T13.setTop (mkF m 101 #[iv (own_ng (N / 10 / 10)), iv 4, rv bb, iv (own_ng (N / 10 / 10)), iv ((N % 100).toInt32), iv 0, iv 0] [(.int (own_ng (N / 10 / 10))), (.ref dT), (.int 0), (.ref bb)])) (fun t k => XS.iloadN X13.here hx rfl (hb hby d4_100) rfl  k) ?_
  refine own_go (b := T13.setTop (mkF m 102 #[iv (own_ng (N / 10 / 10)), iv 4, rv bb, iv (own_ng (N / 10 / 10)), iv ((N % 100).toInt32), iv 0, iv 0] [(.int (-(own_ng (N / 10 / 10)))), (.ref dT), (.int 0), (.ref bb)])) (fun t k => XS.ineg X13.here hx rfl (hb hby d4_101) rfl k) ?_
  rw [own_ng_neg]
  have hq14 := hT (N / 10 / 10) (by omega)
  have ar14 := AT.ext Ol12.2
  refine own_go (b := T13.setTop (mkF m 103 #[iv (own_ng (N / 10 / 10)), iv 4, rv bb, iv (own_ng (N / 10 / 10)), iv ((N % 100).toInt32), iv 0, iv 0] [(.int (own_d ((N / 10 / 10) / 10))), (.int 0), (.ref bb)])) (fun t k => X13.baloadBytes hx (j := ((N / 10 / 10).toInt32)) (v := (.int (own_d ((N / 10 / 10) / 10)))) (by rw [e13]; exact ar14.1) (State.isArrayOf_alike hZ.alike ar14.2.1) ar14.2.2 hq14.1 hq14.2 (g := (mkF m 102 #[iv (own_ng (N / 10 / 10)), iv 4, rv bb, iv (own_ng (N / 10 / 10)), iv ((N % 100).toInt32), iv 0, iv 0] [(.int ((N / 10 / 10).toInt32)), (.ref dT), (.int 0), (.ref bb)])) rfl rfl (hb hby d4_102) t k) ?_
  obtain ⟨cl15, Ar15, qc15, Sz15, Ng15, Hs15, Ft15⟩ := id V_bb_12
  have hin15 : ¬ ((0 : Int32) < 0 ∨ cl15.slots.size ≤ ((0 : Int32)).toNatClampNeg) := inb_of Sz15 ⟨by decide, by decide⟩
  obtain ⟨T16, h16, X16, e16, W16, st16⟩ := stB X13 hx hZ e13 Ar15 (j := (0 : Int32)) hin15 (g := (mkF m 103 #[iv (own_ng (N / 10 / 10)), iv 4, rv bb, iv (own_ng (N / 10 / 10)), iv ((N % 100).toInt32), iv 0, iv 0] [(.int (own_d ((N / 10 / 10) / 10))), (.int 0), (.ref bb)])) rfl rfl (hb hby d4_103)
  have V_bb_16 : Arv Z h16 bb kb .byte (4 : Int32) [(.int (nar .byte (own_d ((N / 10 / 10) / 10)))), (.int (nar .byte (own_d (N / 10 / 10)))), (.int (nar .byte (own_d (N / 10)))), (.int (nar .byte (own_d N)))] (.int (0 : Int32)) := Arv.set Ar15 qc15 Sz15 Ng15 Hs15 Ft15 (fits_nar_byte _) W16 0 rfl (Nat.le_of_ble_eq_true rfl)
  have Zs16 : n0 ≤ h16.size := Nat.le_trans Zs12 (Keep.of_wr W16).1
  have N16 := Fr.snoc X16 N12 gb
  have Kp16 : Keep h0 h16 [bb] := Kp12.wr W16 (Or.inl (List.mem_of_getElem? (i := 0) rfl))
  have Ol16 := Ol12.wr W16 gb
  refine own_go (b := T16.setTop (mkF m 104 #[iv (own_ng (N / 10 / 10)), iv 4, rv bb, iv (own_ng (N / 10 / 10)), iv ((N % 100).toInt32), iv 0, iv 0] [])) st16 ?_
  refine own_go (b := T16.setTop (mkF m 106 #[iv (own_ng (N / 10 / 10)), iv 4, rv bb, iv (own_ng (N / 10 / 10)), iv ((N % 100).toInt32), iv 0, iv 0] [(.int 0)])) (fun t k => XS.iload X16.here hx rfl (hb hby d4_104) rfl  k) ?_
  refine own_go (b := T16.setTop (mkF m 118 #[iv (own_ng (N / 10 / 10)), iv 4, rv bb, iv (own_ng (N / 10 / 10)), iv ((N % 100).toInt32), iv 0, iv 0] [])) (fun t k => XS.ifYes X16.here hx rfl (pc0 := 106) (pc' := 118) rfl (hb hby d4_106) rfl ((if0 _ _).trans (teq (rfl : (0 : Int32) = (0 : Int32))).1) (by decide) (by decide) k) ?_
  refine own_go (b := T16.setTop (mkF m 120 #[iv (own_ng (N / 10 / 10)), iv 4, rv bb, iv (own_ng (N / 10 / 10)), iv ((N % 100).toInt32), iv 0, iv 0] [(.int 0)])) (fun t k => XS.iload X16.here hx rfl (hb hby d4_118) rfl  k) ?_
  exact own_retI X16 hx hlk hrt (hb hby d4_120) (Nat.le_of_ble_eq_true rfl) (Nat.le_of_ble_eq_true rfl) (⟨rfl, N16, by rw [e16]; exact Kp16, by rw [e16]; have q := V_bb_16; simp only [own_nar] at q; exact q⟩)
theorem ef_4_5 (m : MethodId) (ct : Int32) (sz : Int32) (bb : Addr) : entryFrame m #[(.int ct), (.int sz), (.ref bb)] 7 = mkF m 0 #[iv ct, iv sz, rv bb, .unset, .unset, .unset, .unset] [] := by first | (simp [entryFrame, mkF, argsToLocals, Value.category]; done) | rfl
def Q4_5 (Z : State) (ct : Int32) (sz : Int32) (bb : Addr) (N : Nat) (kb : ClassId) (dO : Addr) (dT : Addr) (cO : Cell) (cT : Cell) (h0 : Heap) (n0 : Nat) (v : Option Value) (h : Heap) (L : List Loc) : Prop := v = some (.int 0) ∧ Fr n0 L ∧ Keep h0 h [bb] ∧ Arv Z h bb kb .byte (Int32.ofNat 5) ((own_digs N 5).map Value.int) (.int (0 : Int32))
set_option maxRecDepth 65536 in
set_option maxHeartbeats 40000000 in
theorem rm4_5 (l : Launch) (Z : State) (a0 : Array Value) (hw : ∀ d ∈ tables_1, d.before a0 Z = true) (ws : List Jvm.Cond) (ct : Int32) (sz : Int32) (bb : Addr) (N : Nat) (kb : ClassId) (dO : Addr) (dT : Addr) (cO : Cell) (cT : Cell) (h0 : Heap) (n0 : Nat) (Z0 : n0 ≤ h0.size) (hct : ct = N.toInt32) (hct1 : sz = (5 : Int32)) (hN : N < 2147483648) (hlo : 10000 ≤ N) (hhi : N < 100000) (SO : Sta Z Z.heap "java/lang/Integer" "DigitOnes" "[B" (.ref dO)) (ST : Sta Z Z.heap "java/lang/Integer" "DigitTens" "[B" (.ref dT)) (AO : Arr Z Z.heap dO cO .byte) (AT : Arr Z Z.heap dT cT .byte) (hO : ∀ r : Nat, r < 100 → ¬ (r.toInt32 < 0 ∨ cO.slots.size ≤ r.toInt32.toNatClampNeg) ∧ cO.slots[r.toInt32.toNatClampNeg]? = some (.int (own_d r))) (hT : ∀ r : Nat, r < 100 → ¬ (r.toInt32 < 0 ∨ cT.slots.size ≤ r.toInt32.toNatClampNeg) ∧ cT.slots[r.toInt32.toNatClampNeg]? = some (.int (own_d (r / 10)))) (Vb : Arv Z h0 bb kb .byte (5 : Int32) [.int (0 : Int32), .int (0 : Int32), .int (0 : Int32), .int (0 : Int32), .int (0 : Int32)] (.int (0 : Int32))) (gb : n0 ≤ bb) (Od : Old Z n0 h0) :
    MetFree l (⟨"java/lang/Integer", "getChars", "(II[B)I"⟩ : MethodName) (head1 (Jvm.Cond.code (⟨"java/lang/Integer", "getChars", "(II[B)I"⟩ : MethodName) jdk_33_method_12_code 7 (some .int) :: ws) ({ frames := 0, cells := 0, slots := 0, locals := 0 } : Room)) (fun a U => a = #[(.int ct), (.int sz), (.ref bb)] ∧ Z.Warmed39 U.vm ∧ U.heap = h0) (fun _ _ _ _ _ => True) (fun _ U o U' => ∃ v L, o = .returned v ∧ Q4_5 Z ct sz bb N kb dO dT cO cT h0 n0 v U'.heap L ∧ FrameEnd U o U' L ({ frames := 0, cells := 0, slots := 0, locals := 0 } : Room).cells ({ frames := 0, cells := 0, slots := 0, locals := 0 } : Room).slots) := by
  refine MetFree.of_bodySF (plainFor_of_name pn_0) hisR ?_
  intro p e s m args below meth c s₁ Bd hml0 hP hK
  obtain ⟨rfl, hZ, hh⟩ := hP
  have hx := Bd.exec
  have hby := Bd.bytes
  have hml : c.maxLocals = 7 := hml0
  have hown : s.vm.findClass "java/lang/Integer" = some m.cls := findClass_of_methodNamed Bd.named
  have hnm := (name_of_methodNamed Bd.named Bd.method).1
  have hlk : meth.locks = false := Bd.notSynchronized
  have hrt := Bd.returns
  have X0 : Stand p l e ({ frames := 0, cells := 0, slots := 0, locals := 0 } : Room) s m #[(.int ct), (.int sz), (.ref bb)] below meth c s₁ [] 0 0 := Stand.of_body Bd
  have e0 : s₁.heap = h0 := by rw [← hh, Bd.state]; rfl
  have N0 := Fr.nil n0
  show own_Endz p.tables e below (own_EndQ s ({ frames := 0, cells := 0, slots := 0, locals := 0 } : Room).cells ({ frames := 0, cells := 0, slots := 0, locals := 0 } : Room).slots (Q4_5 Z ct sz bb N kb dO dT cO cT h0 n0)) (s₁.setTop (entryFrame m #[(.int ct), (.int sz), (.ref bb)] 7))
  refine own_cast (ef_4_5 m ct sz bb) ?_
  subst hct
  subst hct1
  refine own_go (b := s₁.setTop (mkF m 1 #[iv (N.toInt32), iv 5, rv bb, .unset, .unset, .unset, .unset] [(.int 5)])) (fun t k => XS.iloadN X0.here hx rfl (hb hby d4_0) rfl  k) ?_
  refine own_go (b := s₁.setTop (mkF m 3 #[iv (N.toInt32), iv 5, rv bb, .unset, .unset, iv 5, .unset] [])) (fun t k => XS.istore X0.here hx rfl (hb hby d4_1) rfl (l' := #[iv (N.toInt32), iv 5, rv bb, .unset, .unset, iv 5, .unset]) rfl k) ?_
  refine own_go (b := s₁.setTop (mkF m 4 #[iv (N.toInt32), iv 5, rv bb, .unset, .unset, iv 5, .unset] [(.int (N.toInt32))])) (fun t k => XS.iloadN X0.here hx rfl (hb hby d4_3) rfl  k) ?_
  refine own_go (b := s₁.setTop (mkF m 11 #[iv (N.toInt32), iv 5, rv bb, .unset, .unset, iv 5, .unset] [])) (fun t k => XS.ifYes X0.here hx rfl (pc0 := 4) (pc' := 11) rfl (hb hby d4_4) rfl ((if0 _ _).trans (flt (own_nn hN)).2.1) (by decide) (by decide) k) ?_
  refine own_go (b := s₁.setTop (mkF m 12 #[iv (N.toInt32), iv 5, rv bb, .unset, .unset, iv 5, .unset] [(.int 0)])) (fun t k => XS.iconst X0.here hx rfl (hb hby d4_11) k) ?_
  refine own_go (b := s₁.setTop (mkF m 14 #[iv (N.toInt32), iv 5, rv bb, .unset, .unset, iv 5, iv 0] [])) (fun t k => XS.istore X0.here hx rfl (hb hby d4_12) rfl (l' := #[iv (N.toInt32), iv 5, rv bb, .unset, .unset, iv 5, iv 0]) rfl k) ?_
  refine own_go (b := s₁.setTop (mkF m 16 #[iv (N.toInt32), iv 5, rv bb, .unset, .unset, iv 5, iv 0] [(.int 0)])) (fun t k => XS.iload X0.here hx rfl (hb hby d4_14) rfl  k) ?_
  refine own_go (b := s₁.setTop (mkF m 19 #[iv (N.toInt32), iv 5, rv bb, .unset, .unset, iv 5, iv 0] [])) (fun t k => XS.ifNo X0.here hx rfl (hb hby d4_16) rfl ((if0 _ _).trans (teq (rfl : (0 : Int32) = (0 : Int32))).2) k) ?_
  refine own_go (b := s₁.setTop (mkF m 20 #[iv (N.toInt32), iv 5, rv bb, .unset, .unset, iv 5, iv 0] [(.int (N.toInt32))])) (fun t k => XS.iloadN X0.here hx rfl (hb hby d4_19) rfl  k) ?_
  refine own_go (b := s₁.setTop (mkF m 21 #[iv (N.toInt32), iv 5, rv bb, .unset, .unset, iv 5, iv 0] [(.int (-(N.toInt32)))])) (fun t k => XS.ineg X0.here hx rfl (hb hby d4_20) rfl k) ?_
  refine own_go (b := s₁.setTop (mkF m 22 #[iv (-(N.toInt32)), iv 5, rv bb, .unset, .unset, iv 5, iv 0] [])) (fun t k => XS.istoreN X0.here hx rfl (hb hby d4_21) rfl (l' := #[iv (-(N.toInt32)), iv 5, rv bb, .unset, .unset, iv 5, iv 0]) rfl k) ?_
  show own_Endz p.tables e below (own_EndQ s ({ frames := 0, cells := 0, slots := 0, locals := 0 } : Room).cells ({ frames := 0, cells := 0, slots := 0, locals := 0 } : Room).slots (Q4_5 Z ((N.toInt32)) ((5 : Int32)) bb N kb dO dT cO cT h0 n0)) (s₁.setTop (mkF m 22 #[iv (own_ng N), iv 5, rv bb, .unset, .unset, iv 5, iv 0] []))
  refine own_go (b := s₁.setTop (mkF m 23 #[iv (own_ng N), iv 5, rv bb, .unset, .unset, iv 5, iv 0] [(.int (own_ng N))])) (fun t k => XS.iloadN X0.here hx rfl (hb hby d4_22) rfl  k) ?_
  refine own_go (b := s₁.setTop (mkF m 25 #[iv (own_ng N), iv 5, rv bb, .unset, .unset, iv 5, iv 0] [(.int (-100)), (.int (own_ng N))])) (fun t k => XS.bipush X0.here hx rfl (hb hby d4_23) k) ?_
  refine own_go (b := s₁.setTop (mkF m 28 #[iv (own_ng N), iv 5, rv bb, .unset, .unset, iv 5, iv 0] [])) (fun t k => XS.icmpNo X0.here hx rfl (hb hby d4_25) rfl (flt (own_ng_ngt (m := 100) (by omega) (by decide) (by omega))).2.2.1 k) ?_
  refine own_go (b := s₁.setTop (mkF m 29 #[iv (own_ng N), iv 5, rv bb, .unset, .unset, iv 5, iv 0] [(.int (own_ng N))])) (fun t k => XS.iloadN X0.here hx rfl (hb hby d4_28) rfl  k) ?_
  refine own_go (b := s₁.setTop (mkF m 31 #[iv (own_ng N), iv 5, rv bb, .unset, .unset, iv 5, iv 0] [(.int 100), (.int (own_ng N))])) (fun t k => XS.bipush X0.here hx rfl (hb hby d4_29) k) ?_
  refine own_go (b := s₁.setTop (mkF m 32 #[iv (own_ng N), iv 5, rv bb, .unset, .unset, iv 5, iv 0] [(.int ((own_ng N) / (100 : Int32)))])) (fun t k => XS.idiv X0.here hx rfl (hb hby d4_31) rfl (by decide) k) ?_
  refine own_go (b := s₁.setTop (mkF m 33 #[iv (own_ng N), iv 5, rv bb, iv ((own_ng N) / (100 : Int32)), .unset, iv 5, iv 0] [])) (fun t k => XS.istoreN X0.here hx rfl (hb hby d4_32) rfl (l' := #[iv (own_ng N), iv 5, rv bb, iv ((own_ng N) / (100 : Int32)), .unset, iv 5, iv 0]) rfl k) ?_
  rw [own_ng_div (a := N) (by omega)]
  refine own_go (b := s₁.setTop (mkF m 34 #[iv (own_ng N), iv 5, rv bb, iv (own_ng (N / 10 / 10)), .unset, iv 5, iv 0] [(.int (own_ng (N / 10 / 10)))])) (fun t k => XS.iloadN X0.here hx rfl (hb hby d4_33) rfl  k) ?_
  refine own_go (b := s₁.setTop (mkF m 36 #[iv (own_ng N), iv 5, rv bb, iv (own_ng (N / 10 / 10)), .unset, iv 5, iv 0] [(.int 100), (.int (own_ng (N / 10 / 10)))])) (fun t k => XS.bipush X0.here hx rfl (hb hby d4_34) k) ?_
  refine own_go (b := s₁.setTop (mkF m 37 #[iv (own_ng N), iv 5, rv bb, iv (own_ng (N / 10 / 10)), .unset, iv 5, iv 0] [(.int ((own_ng (N / 10 / 10)) * (100 : Int32)))])) (fun t k => XS.imul X0.here hx rfl (hb hby d4_36) rfl k) ?_
  refine own_go (b := s₁.setTop (mkF m 38 #[iv (own_ng N), iv 5, rv bb, iv (own_ng (N / 10 / 10)), .unset, iv 5, iv 0] [(.int (own_ng N)), (.int ((own_ng (N / 10 / 10)) * (100 : Int32)))])) (fun t k => XS.iloadN X0.here hx rfl (hb hby d4_37) rfl  k) ?_
  refine own_go (b := s₁.setTop (mkF m 39 #[iv (own_ng N), iv 5, rv bb, iv (own_ng (N / 10 / 10)), .unset, iv 5, iv 0] [(.int (((own_ng (N / 10 / 10)) * (100 : Int32)) - (own_ng N)))])) (fun t k => XS.isub X0.here hx rfl (hb hby d4_38) rfl k) ?_
  refine own_go (b := s₁.setTop (mkF m 41 #[iv (own_ng N), iv 5, rv bb, iv (own_ng (N / 10 / 10)), iv (((own_ng (N / 10 / 10)) * (100 : Int32)) - (own_ng N)), iv 5, iv 0] [])) (fun t k => XS.istore X0.here hx rfl (hb hby d4_39) rfl (l' := #[iv (own_ng N), iv 5, rv bb, iv (own_ng (N / 10 / 10)), iv (((own_ng (N / 10 / 10)) * (100 : Int32)) - (own_ng N)), iv 5, iv 0]) rfl k) ?_
  rw [own_ng_rem (a := N) (by omega)]
  refine own_go (b := s₁.setTop (mkF m 42 #[iv (own_ng N), iv 5, rv bb, iv (own_ng (N / 10 / 10)), iv ((N % 100).toInt32), iv 5, iv 0] [(.int (own_ng (N / 10 / 10)))])) (fun t k => XS.iloadN X0.here hx rfl (hb hby d4_41) rfl  k) ?_
  refine own_go (b := s₁.setTop (mkF m 43 #[iv (own_ng (N / 10 / 10)), iv 5, rv bb, iv (own_ng (N / 10 / 10)), iv ((N % 100).toInt32), iv 5, iv 0] [])) (fun t k => XS.istoreN X0.here hx rfl (hb hby d4_42) rfl (l' := #[iv (own_ng (N / 10 / 10)), iv 5, rv bb, iv (own_ng (N / 10 / 10)), iv ((N % 100).toInt32), iv 5, iv 0]) rfl k) ?_
  refine own_go (b := s₁.setTop (mkF m 44 #[iv (own_ng (N / 10 / 10)), iv 5, rv bb, iv (own_ng (N / 10 / 10)), iv ((N % 100).toInt32), iv 5, iv 0] [(.ref bb)])) (fun t k => XS.aloadN X0.here hx rfl (hb hby d4_43) rfl rfl k) ?_
  refine own_go (b := s₁.setTop (mkF m 47 #[iv (own_ng (N / 10 / 10)), iv 5, rv bb, iv (own_ng (N / 10 / 10)), iv ((N % 100).toInt32), iv 4, iv 0] [(.ref bb)])) (fun t k => XS.iinc X0.here hx rfl (hb hby d4_44) rfl (l' := #[iv (own_ng (N / 10 / 10)), iv 5, rv bb, iv (own_ng (N / 10 / 10)), iv ((N % 100).toInt32), iv 4, iv 0]) rfl k) ?_
  refine own_go (b := s₁.setTop (mkF m 49 #[iv (own_ng (N / 10 / 10)), iv 5, rv bb, iv (own_ng (N / 10 / 10)), iv ((N % 100).toInt32), iv 4, iv 0] [(.int 4), (.ref bb)])) (fun t k => XS.iload X0.here hx rfl (hb hby d4_47) rfl  k) ?_
  obtain ⟨T1, X1, e1, st1⟩ := getS2 X0 hx hZ hown (host := "") (Or.inl (hw _ (List.mem_of_getElem? (i := 20) rfl))) Via.refl e0 (SO.ext Od.2) (g := (mkF m 49 #[iv (own_ng (N / 10 / 10)), iv 5, rv bb, iv (own_ng (N / 10 / 10)), iv ((N % 100).toInt32), iv 4, iv 0] [(.int 4), (.ref bb)])) rfl (hb hby d4_49)
  refine own_go (b := T1.setTop (mkF m 52 #[iv (own_ng (N / 10 / 10)), iv 5, rv bb, iv (own_ng (N / 10 / 10)), iv ((N % 100).toInt32), iv 4, iv 0] [(.ref dO), (.int 4), (.ref bb)])) st1 ?_
  refine own_go (b := T1.setTop (mkF m 54 #[iv (own_ng (N / 10 / 10)), iv 5, rv bb, iv (own_ng (N / 10 / 10)), iv ((N % 100).toInt32), iv 4, iv 0] [(.int ((N % 100).toInt32)), (.ref dO), (.int 4), (.ref bb)])) (fun t k => XS.iload X1.here hx rfl (hb hby d4_52) rfl  k) ?_
  have hq2 := hO (N % 100) (by omega)
  rw [own_d_ones] at hq2
  have ar2 := AO.ext Od.2
  refine own_go (b := T1.setTop (mkF m 55 #[iv (own_ng (N / 10 / 10)), iv 5, rv bb, iv (own_ng (N / 10 / 10)), iv ((N % 100).toInt32), iv 4, iv 0] [(.int (own_d N)), (.int 4), (.ref bb)])) (fun t k => X1.baloadBytes hx (j := ((N % 100).toInt32)) (v := (.int (own_d N))) (by rw [e1]; exact ar2.1) (State.isArrayOf_alike hZ.alike ar2.2.1) ar2.2.2 hq2.1 hq2.2 (g := (mkF m 54 #[iv (own_ng (N / 10 / 10)), iv 5, rv bb, iv (own_ng (N / 10 / 10)), iv ((N % 100).toInt32), iv 4, iv 0] [(.int ((N % 100).toInt32)), (.ref dO), (.int 4), (.ref bb)])) rfl rfl (hb hby d4_54) t k) ?_
  obtain ⟨cl3, Ar3, qc3, Sz3, Ng3, Hs3, Ft3⟩ := id Vb
  have hin3 : ¬ ((4 : Int32) < 0 ∨ cl3.slots.size ≤ ((4 : Int32)).toNatClampNeg) := inb_of Sz3 ⟨by decide, by decide⟩
  obtain ⟨T4, h4, X4, e4, W4, st4⟩ := stB X1 hx hZ e1 Ar3 (j := (4 : Int32)) hin3 (g := (mkF m 55 #[iv (own_ng (N / 10 / 10)), iv 5, rv bb, iv (own_ng (N / 10 / 10)), iv ((N % 100).toInt32), iv 4, iv 0] [(.int (own_d N)), (.int 4), (.ref bb)])) rfl rfl (hb hby d4_55)
  have V_bb_4 : Arv Z h4 bb kb .byte (5 : Int32) [(.int 0), (.int 0), (.int 0), (.int 0), (.int (nar .byte (own_d N)))] (.int (0 : Int32)) := Arv.set Ar3 qc3 Sz3 Ng3 Hs3 Ft3 (fits_nar_byte _) W4 4 rfl (Nat.le_of_ble_eq_true rfl)
  have Zs4 : n0 ≤ h4.size := Nat.le_trans Z0 (Keep.of_wr W4).1
  have N4 := Fr.snoc X4 N0 gb
  have Kp4 : Keep h0 h4 [bb] := (Keep.refl h0 [bb]).wr W4 (Or.inl (List.mem_of_getElem? (i := 0) rfl))
  have Ol4 := Od.wr W4 gb
  refine own_go (b := T4.setTop (mkF m 56 #[iv (own_ng (N / 10 / 10)), iv 5, rv bb, iv (own_ng (N / 10 / 10)), iv ((N % 100).toInt32), iv 4, iv 0] [])) st4 ?_
  refine own_go (b := T4.setTop (mkF m 57 #[iv (own_ng (N / 10 / 10)), iv 5, rv bb, iv (own_ng (N / 10 / 10)), iv ((N % 100).toInt32), iv 4, iv 0] [(.ref bb)])) (fun t k => XS.aloadN X4.here hx rfl (hb hby d4_56) rfl rfl k) ?_
  refine own_go (b := T4.setTop (mkF m 60 #[iv (own_ng (N / 10 / 10)), iv 5, rv bb, iv (own_ng (N / 10 / 10)), iv ((N % 100).toInt32), iv 3, iv 0] [(.ref bb)])) (fun t k => XS.iinc X4.here hx rfl (hb hby d4_57) rfl (l' := #[iv (own_ng (N / 10 / 10)), iv 5, rv bb, iv (own_ng (N / 10 / 10)), iv ((N % 100).toInt32), iv 3, iv 0]) rfl k) ?_
  refine own_go (b := T4.setTop (mkF m 62 #[iv (own_ng (N / 10 / 10)), iv 5, rv bb, iv (own_ng (N / 10 / 10)), iv ((N % 100).toInt32), iv 3, iv 0] [(.int 3), (.ref bb)])) (fun t k => XS.iload X4.here hx rfl (hb hby d4_60) rfl  k) ?_
  obtain ⟨T5, X5, e5, st5⟩ := getS2 X4 hx hZ hown (host := "") (Or.inl (hw _ (List.mem_of_getElem? (i := 126) rfl))) Via.refl e4 (ST.ext Ol4.2) (g := (mkF m 62 #[iv (own_ng (N / 10 / 10)), iv 5, rv bb, iv (own_ng (N / 10 / 10)), iv ((N % 100).toInt32), iv 3, iv 0] [(.int 3), (.ref bb)])) rfl (hb hby d4_62)
  refine own_go (b := T5.setTop (mkF m 65 #[iv (own_ng (N / 10 / 10)), iv 5, rv bb, iv (own_ng (N / 10 / 10)), iv ((N % 100).toInt32), iv 3, iv 0] [(.ref dT), (.int 3), (.ref bb)])) st5 ?_
  refine own_go (b := T5.setTop (mkF m 67 #[iv (own_ng (N / 10 / 10)), iv 5, rv bb, iv (own_ng (N / 10 / 10)), iv ((N % 100).toInt32), iv 3, iv 0] [(.int ((N % 100).toInt32)), (.ref dT), (.int 3), (.ref bb)])) (fun t k => XS.iload X5.here hx rfl (hb hby d4_65) rfl  k) ?_
  have hq6 := hT (N % 100) (by omega)
  rw [own_d_tens] at hq6
  have ar6 := AT.ext Ol4.2
  refine own_go (b := T5.setTop (mkF m 68 #[iv (own_ng (N / 10 / 10)), iv 5, rv bb, iv (own_ng (N / 10 / 10)), iv ((N % 100).toInt32), iv 3, iv 0] [(.int (own_d (N / 10))), (.int 3), (.ref bb)])) (fun t k => X5.baloadBytes hx (j := ((N % 100).toInt32)) (v := (.int (own_d (N / 10)))) (by rw [e5]; exact ar6.1) (State.isArrayOf_alike hZ.alike ar6.2.1) ar6.2.2 hq6.1 hq6.2 (g := (mkF m 67 #[iv (own_ng (N / 10 / 10)), iv 5, rv bb, iv (own_ng (N / 10 / 10)), iv ((N % 100).toInt32), iv 3, iv 0] [(.int ((N % 100).toInt32)), (.ref dT), (.int 3), (.ref bb)])) rfl rfl (hb hby d4_67) t k) ?_
  obtain ⟨cl7, Ar7, qc7, Sz7, Ng7, Hs7, Ft7⟩ := id V_bb_4
  have hin7 : ¬ ((3 : Int32) < 0 ∨ cl7.slots.size ≤ ((3 : Int32)).toNatClampNeg) := inb_of Sz7 ⟨by decide, by decide⟩
  obtain ⟨T8, h8, X8, e8, W8, st8⟩ := stB X5 hx hZ e5 Ar7 (j := (3 : Int32)) hin7 (g := (mkF m 68 #[iv (own_ng (N / 10 / 10)), iv 5, rv bb, iv (own_ng (N / 10 / 10)), iv ((N % 100).toInt32), iv 3, iv 0] [(.int (own_d (N / 10))), (.int 3), (.ref bb)])) rfl rfl (hb hby d4_68)
  have V_bb_8 : Arv Z h8 bb kb .byte (5 : Int32) [(.int 0), (.int 0), (.int 0), (.int (nar .byte (own_d (N / 10)))), (.int (nar .byte (own_d N)))] (.int (0 : Int32)) := Arv.set Ar7 qc7 Sz7 Ng7 Hs7 Ft7 (fits_nar_byte _) W8 3 rfl (Nat.le_of_ble_eq_true rfl)
  have Zs8 : n0 ≤ h8.size := Nat.le_trans Zs4 (Keep.of_wr W8).1
  have N8 := Fr.snoc X8 N4 gb
  have Kp8 : Keep h0 h8 [bb] := Kp4.wr W8 (Or.inl (List.mem_of_getElem? (i := 0) rfl))
  have Ol8 := Ol4.wr W8 gb
  refine own_go (b := T8.setTop (mkF m 69 #[iv (own_ng (N / 10 / 10)), iv 5, rv bb, iv (own_ng (N / 10 / 10)), iv ((N % 100).toInt32), iv 3, iv 0] [])) st8 ?_
  refine own_go (b := T8.setTop (mkF m 22 #[iv (own_ng (N / 10 / 10)), iv 5, rv bb, iv (own_ng (N / 10 / 10)), iv ((N % 100).toInt32), iv 3, iv 0] [])) (fun t k => XS.goto X8.here hx rfl (pc0 := 69) (pc' := 22) rfl (hb hby d4_69) (by decide) (by decide) k) ?_
  refine own_go (b := T8.setTop (mkF m 23 #[iv (own_ng (N / 10 / 10)), iv 5, rv bb, iv (own_ng (N / 10 / 10)), iv ((N % 100).toInt32), iv 3, iv 0] [(.int (own_ng (N / 10 / 10)))])) (fun t k => XS.iloadN X8.here hx rfl (hb hby d4_22) rfl  k) ?_
  refine own_go (b := T8.setTop (mkF m 25 #[iv (own_ng (N / 10 / 10)), iv 5, rv bb, iv (own_ng (N / 10 / 10)), iv ((N % 100).toInt32), iv 3, iv 0] [(.int (-100)), (.int (own_ng (N / 10 / 10)))])) (fun t k => XS.bipush X8.here hx rfl (hb hby d4_23) k) ?_
  refine own_go (b := T8.setTop (mkF m 28 #[iv (own_ng (N / 10 / 10)), iv 5, rv bb, iv (own_ng (N / 10 / 10)), iv ((N % 100).toInt32), iv 3, iv 0] [])) (fun t k => XS.icmpNo X8.here hx rfl (hb hby d4_25) rfl (flt (own_ng_ngt (m := 100) (by omega) (by decide) (by omega))).2.2.1 k) ?_
  refine own_go (b := T8.setTop (mkF m 29 #[iv (own_ng (N / 10 / 10)), iv 5, rv bb, iv (own_ng (N / 10 / 10)), iv ((N % 100).toInt32), iv 3, iv 0] [(.int (own_ng (N / 10 / 10)))])) (fun t k => XS.iloadN X8.here hx rfl (hb hby d4_28) rfl  k) ?_
  refine own_go (b := T8.setTop (mkF m 31 #[iv (own_ng (N / 10 / 10)), iv 5, rv bb, iv (own_ng (N / 10 / 10)), iv ((N % 100).toInt32), iv 3, iv 0] [(.int 100), (.int (own_ng (N / 10 / 10)))])) (fun t k => XS.bipush X8.here hx rfl (hb hby d4_29) k) ?_
  refine own_go (b := T8.setTop (mkF m 32 #[iv (own_ng (N / 10 / 10)), iv 5, rv bb, iv (own_ng (N / 10 / 10)), iv ((N % 100).toInt32), iv 3, iv 0] [(.int ((own_ng (N / 10 / 10)) / (100 : Int32)))])) (fun t k => XS.idiv X8.here hx rfl (hb hby d4_31) rfl (by decide) k) ?_
  refine own_go (b := T8.setTop (mkF m 33 #[iv (own_ng (N / 10 / 10)), iv 5, rv bb, iv ((own_ng (N / 10 / 10)) / (100 : Int32)), iv ((N % 100).toInt32), iv 3, iv 0] [])) (fun t k => XS.istoreN X8.here hx rfl (hb hby d4_32) rfl (l' := #[iv (own_ng (N / 10 / 10)), iv 5, rv bb, iv ((own_ng (N / 10 / 10)) / (100 : Int32)), iv ((N % 100).toInt32), iv 3, iv 0]) rfl k) ?_
  rw [own_ng_div (a := (N / 10 / 10)) (by omega)]
  refine own_go (b := T8.setTop (mkF m 34 #[iv (own_ng (N / 10 / 10)), iv 5, rv bb, iv (own_ng ((N / 10 / 10) / 10 / 10)), iv ((N % 100).toInt32), iv 3, iv 0] [(.int (own_ng ((N / 10 / 10) / 10 / 10)))])) (fun t k => XS.iloadN X8.here hx rfl (hb hby d4_33) rfl  k) ?_
  refine own_go (b := T8.setTop (mkF m 36 #[iv (own_ng (N / 10 / 10)), iv 5, rv bb, iv (own_ng ((N / 10 / 10) / 10 / 10)), iv ((N % 100).toInt32), iv 3, iv 0] [(.int 100), (.int (own_ng ((N / 10 / 10) / 10 / 10)))])) (fun t k => XS.bipush X8.here hx rfl (hb hby d4_34) k) ?_
  refine own_go (b := T8.setTop (mkF m 37 #[iv (own_ng (N / 10 / 10)), iv 5, rv bb, iv (own_ng ((N / 10 / 10) / 10 / 10)), iv ((N % 100).toInt32), iv 3, iv 0] [(.int ((own_ng ((N / 10 / 10) / 10 / 10)) * (100 : Int32)))])) (fun t k => XS.imul X8.here hx rfl (hb hby d4_36) rfl k) ?_
  refine own_go (b := T8.setTop (mkF m 38 #[iv (own_ng (N / 10 / 10)), iv 5, rv bb, iv (own_ng ((N / 10 / 10) / 10 / 10)), iv ((N % 100).toInt32), iv 3, iv 0] [(.int (own_ng (N / 10 / 10))), (.int ((own_ng ((N / 10 / 10) / 10 / 10)) * (100 : Int32)))])) (fun t k => XS.iloadN X8.here hx rfl (hb hby d4_37) rfl  k) ?_
  refine own_go (b := T8.setTop (mkF m 39 #[iv (own_ng (N / 10 / 10)), iv 5, rv bb, iv (own_ng ((N / 10 / 10) / 10 / 10)), iv ((N % 100).toInt32), iv 3, iv 0] [(.int (((own_ng ((N / 10 / 10) / 10 / 10)) * (100 : Int32)) - (own_ng (N / 10 / 10))))])) (fun t k => XS.isub X8.here hx rfl (hb hby d4_38) rfl k) ?_
  refine own_go (b := T8.setTop (mkF m 41 #[iv (own_ng (N / 10 / 10)), iv 5, rv bb, iv (own_ng ((N / 10 / 10) / 10 / 10)), iv (((own_ng ((N / 10 / 10) / 10 / 10)) * (100 : Int32)) - (own_ng (N / 10 / 10))), iv 3, iv 0] [])) (fun t k => XS.istore X8.here hx rfl (hb hby d4_39) rfl (l' := #[iv (own_ng (N / 10 / 10)), iv 5, rv bb, iv (own_ng ((N / 10 / 10) / 10 / 10)), iv (((own_ng ((N / 10 / 10) / 10 / 10)) * (100 : Int32)) - (own_ng (N / 10 / 10))), iv 3, iv 0]) rfl k) ?_
  rw [own_ng_rem (a := (N / 10 / 10)) (by omega)]
  refine own_go (b := T8.setTop (mkF m 42 #[iv (own_ng (N / 10 / 10)), iv 5, rv bb, iv (own_ng ((N / 10 / 10) / 10 / 10)), iv (((N / 10 / 10) % 100).toInt32), iv 3, iv 0] [(.int (own_ng ((N / 10 / 10) / 10 / 10)))])) (fun t k => XS.iloadN X8.here hx rfl (hb hby d4_41) rfl  k) ?_
  refine own_go (b := T8.setTop (mkF m 43 #[iv (own_ng ((N / 10 / 10) / 10 / 10)), iv 5, rv bb, iv (own_ng ((N / 10 / 10) / 10 / 10)), iv (((N / 10 / 10) % 100).toInt32), iv 3, iv 0] [])) (fun t k => XS.istoreN X8.here hx rfl (hb hby d4_42) rfl (l' := #[iv (own_ng ((N / 10 / 10) / 10 / 10)), iv 5, rv bb, iv (own_ng ((N / 10 / 10) / 10 / 10)), iv (((N / 10 / 10) % 100).toInt32), iv 3, iv 0]) rfl k) ?_
  refine own_go (b := T8.setTop (mkF m 44 #[iv (own_ng ((N / 10 / 10) / 10 / 10)), iv 5, rv bb, iv (own_ng ((N / 10 / 10) / 10 / 10)), iv (((N / 10 / 10) % 100).toInt32), iv 3, iv 0] [(.ref bb)])) (fun t k => XS.aloadN X8.here hx rfl (hb hby d4_43) rfl rfl k) ?_
  refine own_go (b := T8.setTop (mkF m 47 #[iv (own_ng ((N / 10 / 10) / 10 / 10)), iv 5, rv bb, iv (own_ng ((N / 10 / 10) / 10 / 10)), iv (((N / 10 / 10) % 100).toInt32), iv 2, iv 0] [(.ref bb)])) (fun t k => XS.iinc X8.here hx rfl (hb hby d4_44) rfl (l' := #[iv (own_ng ((N / 10 / 10) / 10 / 10)), iv 5, rv bb, iv (own_ng ((N / 10 / 10) / 10 / 10)), iv (((N / 10 / 10) % 100).toInt32), iv 2, iv 0]) rfl k) ?_
  refine own_go (b := T8.setTop (mkF m 49 #[iv (own_ng ((N / 10 / 10) / 10 / 10)), iv 5, rv bb, iv (own_ng ((N / 10 / 10) / 10 / 10)), iv (((N / 10 / 10) % 100).toInt32), iv 2, iv 0] [(.int 2), (.ref bb)])) (fun t k => XS.iload X8.here hx rfl (hb hby d4_47) rfl  k) ?_
  obtain ⟨T9, X9, e9, st9⟩ := getS2 X8 hx hZ hown (host := "") (Or.inl (hw _ (List.mem_of_getElem? (i := 20) rfl))) Via.refl e8 (SO.ext Ol8.2) (g := (mkF m 49 #[iv (own_ng ((N / 10 / 10) / 10 / 10)), iv 5, rv bb, iv (own_ng ((N / 10 / 10) / 10 / 10)), iv (((N / 10 / 10) % 100).toInt32), iv 2, iv 0] [(.int 2), (.ref bb)])) rfl (hb hby d4_49)
  refine own_go (b := T9.setTop (mkF m 52 #[iv (own_ng ((N / 10 / 10) / 10 / 10)), iv 5, rv bb, iv (own_ng ((N / 10 / 10) / 10 / 10)), iv (((N / 10 / 10) % 100).toInt32), iv 2, iv 0] [(.ref dO), (.int 2), (.ref bb)])) st9 ?_
  refine own_go (b := T9.setTop (mkF m 54 #[iv (own_ng ((N / 10 / 10) / 10 / 10)), iv 5, rv bb, iv (own_ng ((N / 10 / 10) / 10 / 10)), iv (((N / 10 / 10) % 100).toInt32), iv 2, iv 0] [(.int (((N / 10 / 10) % 100).toInt32)), (.ref dO), (.int 2), (.ref bb)])) (fun t k => XS.iload X9.here hx rfl (hb hby d4_52) rfl  k) ?_
  have hq10 := hO ((N / 10 / 10) % 100) (by omega)
  rw [own_d_ones] at hq10
  have ar10 := AO.ext Ol8.2
  refine own_go (b := T9.setTop (mkF m 55 #[iv (own_ng ((N / 10 / 10) / 10 / 10)), iv 5, rv bb, iv (own_ng ((N / 10 / 10) / 10 / 10)), iv (((N / 10 / 10) % 100).toInt32), iv 2, iv 0] [(.int (own_d (N / 10 / 10))), (.int 2), (.ref bb)])) (fun t k => X9.baloadBytes hx (j := (((N / 10 / 10) % 100).toInt32)) (v := (.int (own_d (N / 10 / 10)))) (by rw [e9]; exact ar10.1) (State.isArrayOf_alike hZ.alike ar10.2.1) ar10.2.2 hq10.1 hq10.2 (g := (mkF m 54 #[iv (own_ng ((N / 10 / 10) / 10 / 10)), iv 5, rv bb, iv (own_ng ((N / 10 / 10) / 10 / 10)), iv (((N / 10 / 10) % 100).toInt32), iv 2, iv 0] [(.int (((N / 10 / 10) % 100).toInt32)), (.ref dO), (.int 2), (.ref bb)])) rfl rfl (hb hby d4_54) t k) ?_
  obtain ⟨cl11, Ar11, qc11, Sz11, Ng11, Hs11, Ft11⟩ := id V_bb_8
  have hin11 : ¬ ((2 : Int32) < 0 ∨ cl11.slots.size ≤ ((2 : Int32)).toNatClampNeg) := inb_of Sz11 ⟨by decide, by decide⟩
  obtain ⟨T12, h12, X12, e12, W12, st12⟩ := stB X9 hx hZ e9 Ar11 (j := (2 : Int32)) hin11 (g := (mkF m 55 #[iv (own_ng ((N / 10 / 10) / 10 / 10)), iv 5, rv bb, iv (own_ng ((N / 10 / 10) / 10 / 10)), iv (((N / 10 / 10) % 100).toInt32), iv 2, iv 0] [(.int (own_d (N / 10 / 10))), (.int 2), (.ref bb)])) rfl rfl (hb hby d4_55)
  have V_bb_12 : Arv Z h12 bb kb .byte (5 : Int32) [(.int 0), (.int 0), (.int (nar .byte (own_d (N / 10 / 10)))), (.int (nar .byte (own_d (N / 10)))), (.int (nar .byte (own_d N)))] (.int (0 : Int32)) := Arv.set Ar11 qc11 Sz11 Ng11 Hs11 Ft11 (fits_nar_byte _) W12 2 rfl (Nat.le_of_ble_eq_true rfl)
  have Zs12 : n0 ≤ h12.size := Nat.le_trans Zs8 (Keep.of_wr W12).1
  have N12 := Fr.snoc X12 N8 gb
  have Kp12 : Keep h0 h12 [bb] := Kp8.wr W12 (Or.inl (List.mem_of_getElem? (i := 0) rfl))
  have Ol12 := Ol8.wr W12 gb
  refine own_go (b := T12.setTop (mkF m 56 #[iv (own_ng ((N / 10 / 10) / 10 / 10)), iv 5, rv bb, iv (own_ng ((N / 10 / 10) / 10 / 10)), iv (((N / 10 / 10) % 100).toInt32), iv 2, iv 0] [])) st12 ?_
  refine own_go (b := T12.setTop (mkF m 57 #[iv (own_ng ((N / 10 / 10) / 10 / 10)), iv 5, rv bb, iv (own_ng ((N / 10 / 10) / 10 / 10)), iv (((N / 10 / 10) % 100).toInt32), iv 2, iv 0] [(.ref bb)])) (fun t k => XS.aloadN X12.here hx rfl (hb hby d4_56) rfl rfl k) ?_
  refine own_go (b := T12.setTop (mkF m 60 #[iv (own_ng ((N / 10 / 10) / 10 / 10)), iv 5, rv bb, iv (own_ng ((N / 10 / 10) / 10 / 10)), iv (((N / 10 / 10) % 100).toInt32), iv 1, iv 0] [(.ref bb)])) (fun t k => XS.iinc X12.here hx rfl (hb hby d4_57) rfl (l' := #[iv (own_ng ((N / 10 / 10) / 10 / 10)), iv 5, rv bb, iv (own_ng ((N / 10 / 10) / 10 / 10)), iv (((N / 10 / 10) % 100).toInt32), iv 1, iv 0]) rfl k) ?_
  refine own_go (b := T12.setTop (mkF m 62 #[iv (own_ng ((N / 10 / 10) / 10 / 10)), iv 5, rv bb, iv (own_ng ((N / 10 / 10) / 10 / 10)), iv (((N / 10 / 10) % 100).toInt32), iv 1, iv 0] [(.int 1), (.ref bb)])) (fun t k => XS.iload X12.here hx rfl (hb hby d4_60) rfl  k) ?_
  obtain ⟨T13, X13, e13, st13⟩ := getS2 X12 hx hZ hown (host := "") (Or.inl (hw _ (List.mem_of_getElem? (i := 126) rfl))) Via.refl e12 (ST.ext Ol12.2) (g := (mkF m 62 #[iv (own_ng ((N / 10 / 10) / 10 / 10)), iv 5, rv bb, iv (own_ng ((N / 10 / 10) / 10 / 10)), iv (((N / 10 / 10) % 100).toInt32), iv 1, iv 0] [(.int 1), (.ref bb)])) rfl (hb hby d4_62)
  refine own_go (b := T13.setTop (mkF m 65 #[iv (own_ng ((N / 10 / 10) / 10 / 10)), iv 5, rv bb, iv (own_ng ((N / 10 / 10) / 10 / 10)), iv (((N / 10 / 10) % 100).toInt32), iv 1, iv 0] [(.ref dT), (.int 1), (.ref bb)])) st13 ?_
  refine own_go (b := T13.setTop (mkF m 67 #[iv (own_ng ((N / 10 / 10) / 10 / 10)), iv 5, rv bb, iv (own_ng ((N / 10 / 10) / 10 / 10)), iv (((N / 10 / 10) % 100).toInt32), iv 1, iv 0] [(.int (((N / 10 / 10) % 100).toInt32)), (.ref dT), (.int 1), (.ref bb)])) (fun t k => XS.iload X13.here hx rfl (hb hby d4_65) rfl  k) ?_
  have hq14 := hT ((N / 10 / 10) % 100) (by omega)
  rw [own_d_tens] at hq14
  have ar14 := AT.ext Ol12.2
  refine own_go (b := T13.setTop (mkF m 68 #[iv (own_ng ((N / 10 / 10) / 10 / 10)), iv 5, rv bb, iv (own_ng ((N / 10 / 10) / 10 / 10)), iv (((N / 10 / 10) % 100).toInt32), iv 1, iv 0] [(.int (own_d ((N / 10 / 10) / 10))), (.int 1), (.ref bb)])) (fun t k => X13.baloadBytes hx (j := (((N / 10 / 10) % 100).toInt32)) (v := (.int (own_d ((N / 10 / 10) / 10)))) (by rw [e13]; exact ar14.1) (State.isArrayOf_alike hZ.alike ar14.2.1) ar14.2.2 hq14.1 hq14.2 (g := (mkF m 67 #[iv (own_ng ((N / 10 / 10) / 10 / 10)), iv 5, rv bb, iv (own_ng ((N / 10 / 10) / 10 / 10)), iv (((N / 10 / 10) % 100).toInt32), iv 1, iv 0] [(.int (((N / 10 / 10) % 100).toInt32)), (.ref dT), (.int 1), (.ref bb)])) rfl rfl (hb hby d4_67) t k) ?_
  obtain ⟨cl15, Ar15, qc15, Sz15, Ng15, Hs15, Ft15⟩ := id V_bb_12
  have hin15 : ¬ ((1 : Int32) < 0 ∨ cl15.slots.size ≤ ((1 : Int32)).toNatClampNeg) := inb_of Sz15 ⟨by decide, by decide⟩
  obtain ⟨T16, h16, X16, e16, W16, st16⟩ := stB X13 hx hZ e13 Ar15 (j := (1 : Int32)) hin15 (g := (mkF m 68 #[iv (own_ng ((N / 10 / 10) / 10 / 10)), iv 5, rv bb, iv (own_ng ((N / 10 / 10) / 10 / 10)), iv (((N / 10 / 10) % 100).toInt32), iv 1, iv 0] [(.int (own_d ((N / 10 / 10) / 10))), (.int 1), (.ref bb)])) rfl rfl (hb hby d4_68)
  have V_bb_16 : Arv Z h16 bb kb .byte (5 : Int32) [(.int 0), (.int (nar .byte (own_d ((N / 10 / 10) / 10)))), (.int (nar .byte (own_d (N / 10 / 10)))), (.int (nar .byte (own_d (N / 10)))), (.int (nar .byte (own_d N)))] (.int (0 : Int32)) := Arv.set Ar15 qc15 Sz15 Ng15 Hs15 Ft15 (fits_nar_byte _) W16 1 rfl (Nat.le_of_ble_eq_true rfl)
  have Zs16 : n0 ≤ h16.size := Nat.le_trans Zs12 (Keep.of_wr W16).1
  have N16 := Fr.snoc X16 N12 gb
  have Kp16 : Keep h0 h16 [bb] := Kp12.wr W16 (Or.inl (List.mem_of_getElem? (i := 0) rfl))
  have Ol16 := Ol12.wr W16 gb
  refine own_go (b := T16.setTop (mkF m 69 #[iv (own_ng ((N / 10 / 10) / 10 / 10)), iv 5, rv bb, iv (own_ng ((N / 10 / 10) / 10 / 10)), iv (((N / 10 / 10) % 100).toInt32), iv 1, iv 0] [])) st16 ?_
  refine own_go (b := T16.setTop (mkF m 22 #[iv (own_ng ((N / 10 / 10) / 10 / 10)), iv 5, rv bb, iv (own_ng ((N / 10 / 10) / 10 / 10)), iv (((N / 10 / 10) % 100).toInt32), iv 1, iv 0] [])) (fun t k => XS.goto X16.here hx rfl (pc0 := 69) (pc' := 22) rfl (hb hby d4_69) (by decide) (by decide) k) ?_
  refine own_go (b := T16.setTop (mkF m 23 #[iv (own_ng ((N / 10 / 10) / 10 / 10)), iv 5, rv bb, iv (own_ng ((N / 10 / 10) / 10 / 10)), iv (((N / 10 / 10) % 100).toInt32), iv 1, iv 0] [(.int (own_ng ((N / 10 / 10) / 10 / 10)))])) (fun t k => XS.iloadN X16.here hx rfl (hb hby d4_22) rfl  k) ?_
  refine own_go (b := T16.setTop (mkF m 25 #[iv (own_ng ((N / 10 / 10) / 10 / 10)), iv 5, rv bb, iv (own_ng ((N / 10 / 10) / 10 / 10)), iv (((N / 10 / 10) % 100).toInt32), iv 1, iv 0] [(.int (-100)), (.int (own_ng ((N / 10 / 10) / 10 / 10)))])) (fun t k => XS.bipush X16.here hx rfl (hb hby d4_23) k) ?_
  refine own_go (b := T16.setTop (mkF m 72 #[iv (own_ng ((N / 10 / 10) / 10 / 10)), iv 5, rv bb, iv (own_ng ((N / 10 / 10) / 10 / 10)), iv (((N / 10 / 10) % 100).toInt32), iv 1, iv 0] [])) (fun t k => XS.icmpYes X16.here hx rfl (pc0 := 25) (pc' := 72) rfl (hb hby d4_25) rfl (tlt (own_ng_gt (m := 100) (by omega) (by decide) (by omega))).2.2.1 (by decide) (by decide) k) ?_
  refine own_go (b := T16.setTop (mkF m 73 #[iv (own_ng ((N / 10 / 10) / 10 / 10)), iv 5, rv bb, iv (own_ng ((N / 10 / 10) / 10 / 10)), iv (((N / 10 / 10) % 100).toInt32), iv 1, iv 0] [(.ref bb)])) (fun t k => XS.aloadN X16.here hx rfl (hb hby d4_72) rfl rfl k) ?_
  refine own_go (b := T16.setTop (mkF m 76 #[iv (own_ng ((N / 10 / 10) / 10 / 10)), iv 5, rv bb, iv (own_ng ((N / 10 / 10) / 10 / 10)), iv (((N / 10 / 10) % 100).toInt32), iv 0, iv 0] [(.ref bb)])) (fun t k => XS.iinc X16.here hx rfl (hb hby d4_73) rfl (l' := #[iv (own_ng ((N / 10 / 10) / 10 / 10)), iv 5, rv bb, iv (own_ng ((N / 10 / 10) / 10 / 10)), iv (((N / 10 / 10) % 100).toInt32), iv 0, iv 0]) rfl k) ?_
  refine own_go (b := T16.setTop (mkF m 78 #[iv (own_ng ((N / 10 / 10) / 10 / 10)), iv 5, rv bb, iv (own_ng ((N / 10 / 10) / 10 / 10)), iv (((N / 10 / 10) % 100).toInt32), iv 0, iv 0] [(.int 0), (.ref bb)])) (fun t k => XS.iload X16.here hx rfl (hb hby d4_76) rfl  k) ?_
  obtain ⟨T17, X17, e17, st17⟩ := getS2 X16 hx hZ hown (host := "") (Or.inl (hw _ (List.mem_of_getElem? (i := 20) rfl))) Via.refl e16 (SO.ext Ol16.2) (g := (mkF m 78 #[iv (own_ng ((N / 10 / 10) / 10 / 10)), iv 5, rv bb, iv (own_ng ((N / 10 / 10) / 10 / 10)), iv (((N / 10 / 10) % 100).toInt32), iv 0, iv 0] [(.int 0), (.ref bb)])) rfl (hb hby d4_78)
  refine own_go (b := T17.setTop (mkF m 81 #[iv (own_ng ((N / 10 / 10) / 10 / 10)), iv 5, rv bb, iv (own_ng ((N / 10 / 10) / 10 / 10)), iv (((N / 10 / 10) % 100).toInt32), iv 0, iv 0] [(.ref dO), (.int 0), (.ref bb)])) st17 ?_
  refine own_go (b := T17.setTop (mkF m 82 #[iv (own_ng ((N / 10 / 10) / 10 / 10)), iv 5, rv bb, iv (own_ng ((N / 10 / 10) / 10 / 10)), iv (((N / 10 / 10) % 100).toInt32), iv 0, iv 0] [(.int (own_ng ((N / 10 / 10) / 10 / 10))), (.ref dO), (.int 0), (.ref bb)])) (fun t k => XS.iloadN X17.here hx rfl (hb hby d4_81) rfl  k) ?_
  refine own_go (b := T17.setTop (mkF m 83 #[iv (own_ng ((N / 10 / 10) / 10 / 10)), iv 5, rv bb, iv (own_ng ((N / 10 / 10) / 10 / 10)), iv (((N / 10 / 10) % 100).toInt32), iv 0, iv 0] [(.int (-(own_ng ((N / 10 / 10) / 10 / 10)))), (.ref dO), (.int 0), (.ref bb)])) (fun t k => XS.ineg X17.here hx rfl (hb hby d4_82) rfl k) ?_
  rw [own_ng_neg]
  have hq18 := hO ((N / 10 / 10) / 10 / 10) (by omega)
  have ar18 := AO.ext Ol16.2
  refine own_go (b := T17.setTop (mkF m 84 #[iv (own_ng ((N / 10 / 10) / 10 / 10)), iv 5, rv bb, iv (own_ng ((N / 10 / 10) / 10 / 10)), iv (((N / 10 / 10) % 100).toInt32), iv 0, iv 0] [(.int (own_d ((N / 10 / 10) / 10 / 10))), (.int 0), (.ref bb)])) (fun t k => X17.baloadBytes hx (j := (((N / 10 / 10) / 10 / 10).toInt32)) (v := (.int (own_d ((N / 10 / 10) / 10 / 10)))) (by rw [e17]; exact ar18.1) (State.isArrayOf_alike hZ.alike ar18.2.1) ar18.2.2 hq18.1 hq18.2 (g := (mkF m 83 #[iv (own_ng ((N / 10 / 10) / 10 / 10)), iv 5, rv bb, iv (own_ng ((N / 10 / 10) / 10 / 10)), iv (((N / 10 / 10) % 100).toInt32), iv 0, iv 0] [(.int (((N / 10 / 10) / 10 / 10).toInt32)), (.ref dO), (.int 0), (.ref bb)])) rfl rfl (hb hby d4_83) t k) ?_
  obtain ⟨cl19, Ar19, qc19, Sz19, Ng19, Hs19, Ft19⟩ := id V_bb_16
  have hin19 : ¬ ((0 : Int32) < 0 ∨ cl19.slots.size ≤ ((0 : Int32)).toNatClampNeg) := inb_of Sz19 ⟨by decide, by decide⟩
  obtain ⟨T20, h20, X20, e20, W20, st20⟩ := stB X17 hx hZ e17 Ar19 (j := (0 : Int32)) hin19 (g := (mkF m 84 #[iv (own_ng ((N / 10 / 10) / 10 / 10)), iv 5, rv bb, iv (own_ng ((N / 10 / 10) / 10 / 10)), iv (((N / 10 / 10) % 100).toInt32), iv 0, iv 0] [(.int (own_d ((N / 10 / 10) / 10 / 10))), (.int 0), (.ref bb)])) rfl rfl (hb hby d4_84)
  have V_bb_20 : Arv Z h20 bb kb .byte (5 : Int32) [(.int (nar .byte (own_d ((N / 10 / 10) / 10 / 10)))), (.int (nar .byte (own_d ((N / 10 / 10) / 10)))), (.int (nar .byte (own_d (N / 10 / 10)))), (.int (nar .byte (own_d (N / 10)))), (.int (nar .byte (own_d N)))] (.int (0 : Int32)) := Arv.set Ar19 qc19 Sz19 Ng19 Hs19 Ft19 (fits_nar_byte _) W20 0 rfl (Nat.le_of_ble_eq_true rfl)
  have Zs20 : n0 ≤ h20.size := Nat.le_trans Zs16 (Keep.of_wr W20).1
  have N20 := Fr.snoc X20 N16 gb
  have Kp20 : Keep h0 h20 [bb] := Kp16.wr W20 (Or.inl (List.mem_of_getElem? (i := 0) rfl))
  have Ol20 := Ol16.wr W20 gb
  refine own_go (b := T20.setTop (mkF m 85 #[iv (own_ng ((N / 10 / 10) / 10 / 10)), iv 5, rv bb, iv (own_ng ((N / 10 / 10) / 10 / 10)), iv (((N / 10 / 10) % 100).toInt32), iv 0, iv 0] [])) st20 ?_
  refine own_go (b := T20.setTop (mkF m 86 #[iv (own_ng ((N / 10 / 10) / 10 / 10)), iv 5, rv bb, iv (own_ng ((N / 10 / 10) / 10 / 10)), iv (((N / 10 / 10) % 100).toInt32), iv 0, iv 0] [(.int (own_ng ((N / 10 / 10) / 10 / 10)))])) (fun t k => XS.iloadN X20.here hx rfl (hb hby d4_85) rfl  k) ?_
  refine own_go (b := T20.setTop (mkF m 88 #[iv (own_ng ((N / 10 / 10) / 10 / 10)), iv 5, rv bb, iv (own_ng ((N / 10 / 10) / 10 / 10)), iv (((N / 10 / 10) % 100).toInt32), iv 0, iv 0] [(.int (-9)), (.int (own_ng ((N / 10 / 10) / 10 / 10)))])) (fun t k => XS.bipush X20.here hx rfl (hb hby d4_86) k) ?_
  refine own_go (b := T20.setTop (mkF m 104 #[iv (own_ng ((N / 10 / 10) / 10 / 10)), iv 5, rv bb, iv (own_ng ((N / 10 / 10) / 10 / 10)), iv (((N / 10 / 10) % 100).toInt32), iv 0, iv 0] [])) (fun t k => XS.icmpYes X20.here hx rfl (pc0 := 88) (pc' := 104) rfl (hb hby d4_88) rfl (flt (own_ng_nlt (m := 9) (by omega) (by decide) (by omega))).2.1 (by decide) (by decide) k) ?_
  refine own_go (b := T20.setTop (mkF m 106 #[iv (own_ng ((N / 10 / 10) / 10 / 10)), iv 5, rv bb, iv (own_ng ((N / 10 / 10) / 10 / 10)), iv (((N / 10 / 10) % 100).toInt32), iv 0, iv 0] [(.int 0)])) (fun t k => XS.iload X20.here hx rfl (hb hby d4_104) rfl  k) ?_
  refine own_go (b := T20.setTop (mkF m 118 #[iv (own_ng ((N / 10 / 10) / 10 / 10)), iv 5, rv bb, iv (own_ng ((N / 10 / 10) / 10 / 10)), iv (((N / 10 / 10) % 100).toInt32), iv 0, iv 0] [])) (fun t k => XS.ifYes X20.here hx rfl (pc0 := 106) (pc' := 118) rfl (hb hby d4_106) rfl ((if0 _ _).trans (teq (rfl : (0 : Int32) = (0 : Int32))).1) (by decide) (by decide) k) ?_
  refine own_go (b := T20.setTop (mkF m 120 #[iv (own_ng ((N / 10 / 10) / 10 / 10)), iv 5, rv bb, iv (own_ng ((N / 10 / 10) / 10 / 10)), iv (((N / 10 / 10) % 100).toInt32), iv 0, iv 0] [(.int 0)])) (fun t k => XS.iload X20.here hx rfl (hb hby d4_118) rfl  k) ?_
  exact own_retI X20 hx hlk hrt (hb hby d4_120) (Nat.le_of_ble_eq_true rfl) (Nat.le_of_ble_eq_true rfl) (⟨rfl, N20, by rw [e20]; exact Kp20, by rw [e20]; have q := V_bb_20; simp only [own_nar] at q; exact q⟩)
theorem ef_4_6 (m : MethodId) (ct : Int32) (sz : Int32) (bb : Addr) : entryFrame m #[(.int ct), (.int sz), (.ref bb)] 7 = mkF m 0 #[iv ct, iv sz, rv bb, .unset, .unset, .unset, .unset] [] := by first | (simp [entryFrame, mkF, argsToLocals, Value.category]; done) | rfl
def Q4_6 (Z : State) (ct : Int32) (sz : Int32) (bb : Addr) (N : Nat) (kb : ClassId) (dO : Addr) (dT : Addr) (cO : Cell) (cT : Cell) (h0 : Heap) (n0 : Nat) (v : Option Value) (h : Heap) (L : List Loc) : Prop := v = some (.int 0) ∧ Fr n0 L ∧ Keep h0 h [bb] ∧ Arv Z h bb kb .byte (Int32.ofNat 6) ((own_digs N 6).map Value.int) (.int (0 : Int32))
set_option maxRecDepth 65536 in
set_option maxHeartbeats 40000000 in
theorem rm4_6 (l : Launch) (Z : State) (a0 : Array Value) (hw : ∀ d ∈ tables_1, d.before a0 Z = true) (ws : List Jvm.Cond) (ct : Int32) (sz : Int32) (bb : Addr) (N : Nat) (kb : ClassId) (dO : Addr) (dT : Addr) (cO : Cell) (cT : Cell) (h0 : Heap) (n0 : Nat) (Z0 : n0 ≤ h0.size) (hct : ct = N.toInt32) (hct1 : sz = (6 : Int32)) (hN : N < 2147483648) (hlo : 100000 ≤ N) (hhi : N < 1000000) (SO : Sta Z Z.heap "java/lang/Integer" "DigitOnes" "[B" (.ref dO)) (ST : Sta Z Z.heap "java/lang/Integer" "DigitTens" "[B" (.ref dT)) (AO : Arr Z Z.heap dO cO .byte) (AT : Arr Z Z.heap dT cT .byte) (hO : ∀ r : Nat, r < 100 → ¬ (r.toInt32 < 0 ∨ cO.slots.size ≤ r.toInt32.toNatClampNeg) ∧ cO.slots[r.toInt32.toNatClampNeg]? = some (.int (own_d r))) (hT : ∀ r : Nat, r < 100 → ¬ (r.toInt32 < 0 ∨ cT.slots.size ≤ r.toInt32.toNatClampNeg) ∧ cT.slots[r.toInt32.toNatClampNeg]? = some (.int (own_d (r / 10)))) (Vb : Arv Z h0 bb kb .byte (6 : Int32) [.int (0 : Int32), .int (0 : Int32), .int (0 : Int32), .int (0 : Int32), .int (0 : Int32), .int (0 : Int32)] (.int (0 : Int32))) (gb : n0 ≤ bb) (Od : Old Z n0 h0) :
    MetFree l (⟨"java/lang/Integer", "getChars", "(II[B)I"⟩ : MethodName) (head1 (Jvm.Cond.code (⟨"java/lang/Integer", "getChars", "(II[B)I"⟩ : MethodName) jdk_33_method_12_code 7 (some .int) :: ws) ({ frames := 0, cells := 0, slots := 0, locals := 0 } : Room)) (fun a U => a = #[(.int ct), (.int sz), (.ref bb)] ∧ Z.Warmed39 U.vm ∧ U.heap = h0) (fun _ _ _ _ _ => True) (fun _ U o U' => ∃ v L, o = .returned v ∧ Q4_6 Z ct sz bb N kb dO dT cO cT h0 n0 v U'.heap L ∧ FrameEnd U o U' L ({ frames := 0, cells := 0, slots := 0, locals := 0 } : Room).cells ({ frames := 0, cells := 0, slots := 0, locals := 0 } : Room).slots) := by
  refine MetFree.of_bodySF (plainFor_of_name pn_0) hisR ?_
  intro p e s m args below meth c s₁ Bd hml0 hP hK
  obtain ⟨rfl, hZ, hh⟩ := hP
  have hx := Bd.exec
  have hby := Bd.bytes
  have hml : c.maxLocals = 7 := hml0
  have hown : s.vm.findClass "java/lang/Integer" = some m.cls := findClass_of_methodNamed Bd.named
  have hnm := (name_of_methodNamed Bd.named Bd.method).1
  have hlk : meth.locks = false := Bd.notSynchronized
  have hrt := Bd.returns
  have X0 : Stand p l e ({ frames := 0, cells := 0, slots := 0, locals := 0 } : Room) s m #[(.int ct), (.int sz), (.ref bb)] below meth c s₁ [] 0 0 := Stand.of_body Bd
  have e0 : s₁.heap = h0 := by rw [← hh, Bd.state]; rfl
  have N0 := Fr.nil n0
  show own_Endz p.tables e below (own_EndQ s ({ frames := 0, cells := 0, slots := 0, locals := 0 } : Room).cells ({ frames := 0, cells := 0, slots := 0, locals := 0 } : Room).slots (Q4_6 Z ct sz bb N kb dO dT cO cT h0 n0)) (s₁.setTop (entryFrame m #[(.int ct), (.int sz), (.ref bb)] 7))
  refine own_cast (ef_4_6 m ct sz bb) ?_
  subst hct
  subst hct1
  refine own_go (b := s₁.setTop (mkF m 1 #[iv (N.toInt32), iv 6, rv bb, .unset, .unset, .unset, .unset] [(.int 6)])) (fun t k => XS.iloadN X0.here hx rfl (hb hby d4_0) rfl  k) ?_
  refine own_go (b := s₁.setTop (mkF m 3 #[iv (N.toInt32), iv 6, rv bb, .unset, .unset, iv 6, .unset] [])) (fun t k => XS.istore X0.here hx rfl (hb hby d4_1) rfl (l' := #[iv (N.toInt32), iv 6, rv bb, .unset, .unset, iv 6, .unset]) rfl k) ?_
  refine own_go (b := s₁.setTop (mkF m 4 #[iv (N.toInt32), iv 6, rv bb, .unset, .unset, iv 6, .unset] [(.int (N.toInt32))])) (fun t k => XS.iloadN X0.here hx rfl (hb hby d4_3) rfl  k) ?_
  refine own_go (b := s₁.setTop (mkF m 11 #[iv (N.toInt32), iv 6, rv bb, .unset, .unset, iv 6, .unset] [])) (fun t k => XS.ifYes X0.here hx rfl (pc0 := 4) (pc' := 11) rfl (hb hby d4_4) rfl ((if0 _ _).trans (flt (own_nn hN)).2.1) (by decide) (by decide) k) ?_
  refine own_go (b := s₁.setTop (mkF m 12 #[iv (N.toInt32), iv 6, rv bb, .unset, .unset, iv 6, .unset] [(.int 0)])) (fun t k => XS.iconst X0.here hx rfl (hb hby d4_11) k) ?_
  refine own_go (b := s₁.setTop (mkF m 14 #[iv (N.toInt32), iv 6, rv bb, .unset, .unset, iv 6, iv 0] [])) (fun t k => XS.istore X0.here hx rfl (hb hby d4_12) rfl (l' := #[iv (N.toInt32), iv 6, rv bb, .unset, .unset, iv 6, iv 0]) rfl k) ?_
  refine own_go (b := s₁.setTop (mkF m 16 #[iv (N.toInt32), iv 6, rv bb, .unset, .unset, iv 6, iv 0] [(.int 0)])) (fun t k => XS.iload X0.here hx rfl (hb hby d4_14) rfl  k) ?_
  refine own_go (b := s₁.setTop (mkF m 19 #[iv (N.toInt32), iv 6, rv bb, .unset, .unset, iv 6, iv 0] [])) (fun t k => XS.ifNo X0.here hx rfl (hb hby d4_16) rfl ((if0 _ _).trans (teq (rfl : (0 : Int32) = (0 : Int32))).2) k) ?_
  refine own_go (b := s₁.setTop (mkF m 20 #[iv (N.toInt32), iv 6, rv bb, .unset, .unset, iv 6, iv 0] [(.int (N.toInt32))])) (fun t k => XS.iloadN X0.here hx rfl (hb hby d4_19) rfl  k) ?_
  refine own_go (b := s₁.setTop (mkF m 21 #[iv (N.toInt32), iv 6, rv bb, .unset, .unset, iv 6, iv 0] [(.int (-(N.toInt32)))])) (fun t k => XS.ineg X0.here hx rfl (hb hby d4_20) rfl k) ?_
  refine own_go (b := s₁.setTop (mkF m 22 #[iv (-(N.toInt32)), iv 6, rv bb, .unset, .unset, iv 6, iv 0] [])) (fun t k => XS.istoreN X0.here hx rfl (hb hby d4_21) rfl (l' := #[iv (-(N.toInt32)), iv 6, rv bb, .unset, .unset, iv 6, iv 0]) rfl k) ?_
  show own_Endz p.tables e below (own_EndQ s ({ frames := 0, cells := 0, slots := 0, locals := 0 } : Room).cells ({ frames := 0, cells := 0, slots := 0, locals := 0 } : Room).slots (Q4_6 Z ((N.toInt32)) ((6 : Int32)) bb N kb dO dT cO cT h0 n0)) (s₁.setTop (mkF m 22 #[iv (own_ng N), iv 6, rv bb, .unset, .unset, iv 6, iv 0] []))
  refine own_go (b := s₁.setTop (mkF m 23 #[iv (own_ng N), iv 6, rv bb, .unset, .unset, iv 6, iv 0] [(.int (own_ng N))])) (fun t k => XS.iloadN X0.here hx rfl (hb hby d4_22) rfl  k) ?_
  refine own_go (b := s₁.setTop (mkF m 25 #[iv (own_ng N), iv 6, rv bb, .unset, .unset, iv 6, iv 0] [(.int (-100)), (.int (own_ng N))])) (fun t k => XS.bipush X0.here hx rfl (hb hby d4_23) k) ?_
  refine own_go (b := s₁.setTop (mkF m 28 #[iv (own_ng N), iv 6, rv bb, .unset, .unset, iv 6, iv 0] [])) (fun t k => XS.icmpNo X0.here hx rfl (hb hby d4_25) rfl (flt (own_ng_ngt (m := 100) (by omega) (by decide) (by omega))).2.2.1 k) ?_
  refine own_go (b := s₁.setTop (mkF m 29 #[iv (own_ng N), iv 6, rv bb, .unset, .unset, iv 6, iv 0] [(.int (own_ng N))])) (fun t k => XS.iloadN X0.here hx rfl (hb hby d4_28) rfl  k) ?_
  refine own_go (b := s₁.setTop (mkF m 31 #[iv (own_ng N), iv 6, rv bb, .unset, .unset, iv 6, iv 0] [(.int 100), (.int (own_ng N))])) (fun t k => XS.bipush X0.here hx rfl (hb hby d4_29) k) ?_
  refine own_go (b := s₁.setTop (mkF m 32 #[iv (own_ng N), iv 6, rv bb, .unset, .unset, iv 6, iv 0] [(.int ((own_ng N) / (100 : Int32)))])) (fun t k => XS.idiv X0.here hx rfl (hb hby d4_31) rfl (by decide) k) ?_
  refine own_go (b := s₁.setTop (mkF m 33 #[iv (own_ng N), iv 6, rv bb, iv ((own_ng N) / (100 : Int32)), .unset, iv 6, iv 0] [])) (fun t k => XS.istoreN X0.here hx rfl (hb hby d4_32) rfl (l' := #[iv (own_ng N), iv 6, rv bb, iv ((own_ng N) / (100 : Int32)), .unset, iv 6, iv 0]) rfl k) ?_
  rw [own_ng_div (a := N) (by omega)]
  refine own_go (b := s₁.setTop (mkF m 34 #[iv (own_ng N), iv 6, rv bb, iv (own_ng (N / 10 / 10)), .unset, iv 6, iv 0] [(.int (own_ng (N / 10 / 10)))])) (fun t k => XS.iloadN X0.here hx rfl (hb hby d4_33) rfl  k) ?_
  refine own_go (b := s₁.setTop (mkF m 36 #[iv (own_ng N), iv 6, rv bb, iv (own_ng (N / 10 / 10)), .unset, iv 6, iv 0] [(.int 100), (.int (own_ng (N / 10 / 10)))])) (fun t k => XS.bipush X0.here hx rfl (hb hby d4_34) k) ?_
  refine own_go (b := s₁.setTop (mkF m 37 #[iv (own_ng N), iv 6, rv bb, iv (own_ng (N / 10 / 10)), .unset, iv 6, iv 0] [(.int ((own_ng (N / 10 / 10)) * (100 : Int32)))])) (fun t k => XS.imul X0.here hx rfl (hb hby d4_36) rfl k) ?_
  refine own_go (b := s₁.setTop (mkF m 38 #[iv (own_ng N), iv 6, rv bb, iv (own_ng (N / 10 / 10)), .unset, iv 6, iv 0] [(.int (own_ng N)), (.int ((own_ng (N / 10 / 10)) * (100 : Int32)))])) (fun t k => XS.iloadN X0.here hx rfl (hb hby d4_37) rfl  k) ?_
  refine own_go (b := s₁.setTop (mkF m 39 #[iv (own_ng N), iv 6, rv bb, iv (own_ng (N / 10 / 10)), .unset, iv 6, iv 0] [(.int (((own_ng (N / 10 / 10)) * (100 : Int32)) - (own_ng N)))])) (fun t k => XS.isub X0.here hx rfl (hb hby d4_38) rfl k) ?_
  refine own_go (b := s₁.setTop (mkF m 41 #[iv (own_ng N), iv 6, rv bb, iv (own_ng (N / 10 / 10)), iv (((own_ng (N / 10 / 10)) * (100 : Int32)) - (own_ng N)), iv 6, iv 0] [])) (fun t k => XS.istore X0.here hx rfl (hb hby d4_39) rfl (l' := #[iv (own_ng N), iv 6, rv bb, iv (own_ng (N / 10 / 10)), iv (((own_ng (N / 10 / 10)) * (100 : Int32)) - (own_ng N)), iv 6, iv 0]) rfl k) ?_
  rw [own_ng_rem (a := N) (by omega)]
  refine own_go (b := s₁.setTop (mkF m 42 #[iv (own_ng N), iv 6, rv bb, iv (own_ng (N / 10 / 10)), iv ((N % 100).toInt32), iv 6, iv 0] [(.int (own_ng (N / 10 / 10)))])) (fun t k => XS.iloadN X0.here hx rfl (hb hby d4_41) rfl  k) ?_
  refine own_go (b := s₁.setTop (mkF m 43 #[iv (own_ng (N / 10 / 10)), iv 6, rv bb, iv (own_ng (N / 10 / 10)), iv ((N % 100).toInt32), iv 6, iv 0] [])) (fun t k => XS.istoreN X0.here hx rfl (hb hby d4_42) rfl (l' := #[iv (own_ng (N / 10 / 10)), iv 6, rv bb, iv (own_ng (N / 10 / 10)), iv ((N % 100).toInt32), iv 6, iv 0]) rfl k) ?_
  refine own_go (b := s₁.setTop (mkF m 44 #[iv (own_ng (N / 10 / 10)), iv 6, rv bb, iv (own_ng (N / 10 / 10)), iv ((N % 100).toInt32), iv 6, iv 0] [(.ref bb)])) (fun t k => XS.aloadN X0.here hx rfl (hb hby d4_43) rfl rfl k) ?_
  refine own_go (b := s₁.setTop (mkF m 47 #[iv (own_ng (N / 10 / 10)), iv 6, rv bb, iv (own_ng (N / 10 / 10)), iv ((N % 100).toInt32), iv 5, iv 0] [(.ref bb)])) (fun t k => XS.iinc X0.here hx rfl (hb hby d4_44) rfl (l' := #[iv (own_ng (N / 10 / 10)), iv 6, rv bb, iv (own_ng (N / 10 / 10)), iv ((N % 100).toInt32), iv 5, iv 0]) rfl k) ?_
  refine own_go (b := s₁.setTop (mkF m 49 #[iv (own_ng (N / 10 / 10)), iv 6, rv bb, iv (own_ng (N / 10 / 10)), iv ((N % 100).toInt32), iv 5, iv 0] [(.int 5), (.ref bb)])) (fun t k => XS.iload X0.here hx rfl (hb hby d4_47) rfl  k) ?_
  obtain ⟨T1, X1, e1, st1⟩ := getS2 X0 hx hZ hown (host := "") (Or.inl (hw _ (List.mem_of_getElem? (i := 20) rfl))) Via.refl e0 (SO.ext Od.2) (g := (mkF m 49 #[iv (own_ng (N / 10 / 10)), iv 6, rv bb, iv (own_ng (N / 10 / 10)), iv ((N % 100).toInt32), iv 5, iv 0] [(.int 5), (.ref bb)])) rfl (hb hby d4_49)
  refine own_go (b := T1.setTop (mkF m 52 #[iv (own_ng (N / 10 / 10)), iv 6, rv bb, iv (own_ng (N / 10 / 10)), iv ((N % 100).toInt32), iv 5, iv 0] [(.ref dO), (.int 5), (.ref bb)])) st1 ?_
  refine own_go (b := T1.setTop (mkF m 54 #[iv (own_ng (N / 10 / 10)), iv 6, rv bb, iv (own_ng (N / 10 / 10)), iv ((N % 100).toInt32), iv 5, iv 0] [(.int ((N % 100).toInt32)), (.ref dO), (.int 5), (.ref bb)])) (fun t k => XS.iload X1.here hx rfl (hb hby d4_52) rfl  k) ?_
  have hq2 := hO (N % 100) (by omega)
  rw [own_d_ones] at hq2
  have ar2 := AO.ext Od.2
  refine own_go (b := T1.setTop (mkF m 55 #[iv (own_ng (N / 10 / 10)), iv 6, rv bb, iv (own_ng (N / 10 / 10)), iv ((N % 100).toInt32), iv 5, iv 0] [(.int (own_d N)), (.int 5), (.ref bb)])) (fun t k => X1.baloadBytes hx (j := ((N % 100).toInt32)) (v := (.int (own_d N))) (by rw [e1]; exact ar2.1) (State.isArrayOf_alike hZ.alike ar2.2.1) ar2.2.2 hq2.1 hq2.2 (g := (mkF m 54 #[iv (own_ng (N / 10 / 10)), iv 6, rv bb, iv (own_ng (N / 10 / 10)), iv ((N % 100).toInt32), iv 5, iv 0] [(.int ((N % 100).toInt32)), (.ref dO), (.int 5), (.ref bb)])) rfl rfl (hb hby d4_54) t k) ?_
  obtain ⟨cl3, Ar3, qc3, Sz3, Ng3, Hs3, Ft3⟩ := id Vb
  have hin3 : ¬ ((5 : Int32) < 0 ∨ cl3.slots.size ≤ ((5 : Int32)).toNatClampNeg) := inb_of Sz3 ⟨by decide, by decide⟩
  obtain ⟨T4, h4, X4, e4, W4, st4⟩ := stB X1 hx hZ e1 Ar3 (j := (5 : Int32)) hin3 (g := (mkF m 55 #[iv (own_ng (N / 10 / 10)), iv 6, rv bb, iv (own_ng (N / 10 / 10)), iv ((N % 100).toInt32), iv 5, iv 0] [(.int (own_d N)), (.int 5), (.ref bb)])) rfl rfl (hb hby d4_55)
  have V_bb_4 : Arv Z h4 bb kb .byte (6 : Int32) [(.int 0), (.int 0), (.int 0), (.int 0), (.int 0), (.int (nar .byte (own_d N)))] (.int (0 : Int32)) := Arv.set Ar3 qc3 Sz3 Ng3 Hs3 Ft3 (fits_nar_byte _) W4 5 rfl (Nat.le_of_ble_eq_true rfl)
  have Zs4 : n0 ≤ h4.size := Nat.le_trans Z0 (Keep.of_wr W4).1
  have N4 := Fr.snoc X4 N0 gb
  have Kp4 : Keep h0 h4 [bb] := (Keep.refl h0 [bb]).wr W4 (Or.inl (List.mem_of_getElem? (i := 0) rfl))
  have Ol4 := Od.wr W4 gb
  refine own_go (b := T4.setTop (mkF m 56 #[iv (own_ng (N / 10 / 10)), iv 6, rv bb, iv (own_ng (N / 10 / 10)), iv ((N % 100).toInt32), iv 5, iv 0] [])) st4 ?_
  refine own_go (b := T4.setTop (mkF m 57 #[iv (own_ng (N / 10 / 10)), iv 6, rv bb, iv (own_ng (N / 10 / 10)), iv ((N % 100).toInt32), iv 5, iv 0] [(.ref bb)])) (fun t k => XS.aloadN X4.here hx rfl (hb hby d4_56) rfl rfl k) ?_
  refine own_go (b := T4.setTop (mkF m 60 #[iv (own_ng (N / 10 / 10)), iv 6, rv bb, iv (own_ng (N / 10 / 10)), iv ((N % 100).toInt32), iv 4, iv 0] [(.ref bb)])) (fun t k => XS.iinc X4.here hx rfl (hb hby d4_57) rfl (l' := #[iv (own_ng (N / 10 / 10)), iv 6, rv bb, iv (own_ng (N / 10 / 10)), iv ((N % 100).toInt32), iv 4, iv 0]) rfl k) ?_
  refine own_go (b := T4.setTop (mkF m 62 #[iv (own_ng (N / 10 / 10)), iv 6, rv bb, iv (own_ng (N / 10 / 10)), iv ((N % 100).toInt32), iv 4, iv 0] [(.int 4), (.ref bb)])) (fun t k => XS.iload X4.here hx rfl (hb hby d4_60) rfl  k) ?_
  obtain ⟨T5, X5, e5, st5⟩ := getS2 X4 hx hZ hown (host := "") (Or.inl (hw _ (List.mem_of_getElem? (i := 126) rfl))) Via.refl e4 (ST.ext Ol4.2) (g := (mkF m 62 #[iv (own_ng (N / 10 / 10)), iv 6, rv bb, iv (own_ng (N / 10 / 10)), iv ((N % 100).toInt32), iv 4, iv 0] [(.int 4), (.ref bb)])) rfl (hb hby d4_62)
  refine own_go (b := T5.setTop (mkF m 65 #[iv (own_ng (N / 10 / 10)), iv 6, rv bb, iv (own_ng (N / 10 / 10)), iv ((N % 100).toInt32), iv 4, iv 0] [(.ref dT), (.int 4), (.ref bb)])) st5 ?_
  refine own_go (b := T5.setTop (mkF m 67 #[iv (own_ng (N / 10 / 10)), iv 6, rv bb, iv (own_ng (N / 10 / 10)), iv ((N % 100).toInt32), iv 4, iv 0] [(.int ((N % 100).toInt32)), (.ref dT), (.int 4), (.ref bb)])) (fun t k => XS.iload X5.here hx rfl (hb hby d4_65) rfl  k) ?_
  have hq6 := hT (N % 100) (by omega)
  rw [own_d_tens] at hq6
  have ar6 := AT.ext Ol4.2
  refine own_go (b := T5.setTop (mkF m 68 #[iv (own_ng (N / 10 / 10)), iv 6, rv bb, iv (own_ng (N / 10 / 10)), iv ((N % 100).toInt32), iv 4, iv 0] [(.int (own_d (N / 10))), (.int 4), (.ref bb)])) (fun t k => X5.baloadBytes hx (j := ((N % 100).toInt32)) (v := (.int (own_d (N / 10)))) (by rw [e5]; exact ar6.1) (State.isArrayOf_alike hZ.alike ar6.2.1) ar6.2.2 hq6.1 hq6.2 (g := (mkF m 67 #[iv (own_ng (N / 10 / 10)), iv 6, rv bb, iv (own_ng (N / 10 / 10)), iv ((N % 100).toInt32), iv 4, iv 0] [(.int ((N % 100).toInt32)), (.ref dT), (.int 4), (.ref bb)])) rfl rfl (hb hby d4_67) t k) ?_
  obtain ⟨cl7, Ar7, qc7, Sz7, Ng7, Hs7, Ft7⟩ := id V_bb_4
  have hin7 : ¬ ((4 : Int32) < 0 ∨ cl7.slots.size ≤ ((4 : Int32)).toNatClampNeg) := inb_of Sz7 ⟨by decide, by decide⟩
  obtain ⟨T8, h8, X8, e8, W8, st8⟩ := stB X5 hx hZ e5 Ar7 (j := (4 : Int32)) hin7 (g := (mkF m 68 #[iv (own_ng (N / 10 / 10)), iv 6, rv bb, iv (own_ng (N / 10 / 10)), iv ((N % 100).toInt32), iv 4, iv 0] [(.int (own_d (N / 10))), (.int 4), (.ref bb)])) rfl rfl (hb hby d4_68)
  have V_bb_8 : Arv Z h8 bb kb .byte (6 : Int32) [(.int 0), (.int 0), (.int 0), (.int 0), (.int (nar .byte (own_d (N / 10)))), (.int (nar .byte (own_d N)))] (.int (0 : Int32)) := Arv.set Ar7 qc7 Sz7 Ng7 Hs7 Ft7 (fits_nar_byte _) W8 4 rfl (Nat.le_of_ble_eq_true rfl)
  have Zs8 : n0 ≤ h8.size := Nat.le_trans Zs4 (Keep.of_wr W8).1
  have N8 := Fr.snoc X8 N4 gb
  have Kp8 : Keep h0 h8 [bb] := Kp4.wr W8 (Or.inl (List.mem_of_getElem? (i := 0) rfl))
  have Ol8 := Ol4.wr W8 gb
  refine own_go (b := T8.setTop (mkF m 69 #[iv (own_ng (N / 10 / 10)), iv 6, rv bb, iv (own_ng (N / 10 / 10)), iv ((N % 100).toInt32), iv 4, iv 0] [])) st8 ?_
  refine own_go (b := T8.setTop (mkF m 22 #[iv (own_ng (N / 10 / 10)), iv 6, rv bb, iv (own_ng (N / 10 / 10)), iv ((N % 100).toInt32), iv 4, iv 0] [])) (fun t k => XS.goto X8.here hx rfl (pc0 := 69) (pc' := 22) rfl (hb hby d4_69) (by decide) (by decide) k) ?_
  refine own_go (b := T8.setTop (mkF m 23 #[iv (own_ng (N / 10 / 10)), iv 6, rv bb, iv (own_ng (N / 10 / 10)), iv ((N % 100).toInt32), iv 4, iv 0] [(.int (own_ng (N / 10 / 10)))])) (fun t k => XS.iloadN X8.here hx rfl (hb hby d4_22) rfl  k) ?_
  refine own_go (b := T8.setTop (mkF m 25 #[iv (own_ng (N / 10 / 10)), iv 6, rv bb, iv (own_ng (N / 10 / 10)), iv ((N % 100).toInt32), iv 4, iv 0] [(.int (-100)), (.int (own_ng (N / 10 / 10)))])) (fun t k => XS.bipush X8.here hx rfl (hb hby d4_23) k) ?_
  refine own_go (b := T8.setTop (mkF m 28 #[iv (own_ng (N / 10 / 10)), iv 6, rv bb, iv (own_ng (N / 10 / 10)), iv ((N % 100).toInt32), iv 4, iv 0] [])) (fun t k => XS.icmpNo X8.here hx rfl (hb hby d4_25) rfl (flt (own_ng_ngt (m := 100) (by omega) (by decide) (by omega))).2.2.1 k) ?_
  refine own_go (b := T8.setTop (mkF m 29 #[iv (own_ng (N / 10 / 10)), iv 6, rv bb, iv (own_ng (N / 10 / 10)), iv ((N % 100).toInt32), iv 4, iv 0] [(.int (own_ng (N / 10 / 10)))])) (fun t k => XS.iloadN X8.here hx rfl (hb hby d4_28) rfl  k) ?_
  refine own_go (b := T8.setTop (mkF m 31 #[iv (own_ng (N / 10 / 10)), iv 6, rv bb, iv (own_ng (N / 10 / 10)), iv ((N % 100).toInt32), iv 4, iv 0] [(.int 100), (.int (own_ng (N / 10 / 10)))])) (fun t k => XS.bipush X8.here hx rfl (hb hby d4_29) k) ?_
  refine own_go (b := T8.setTop (mkF m 32 #[iv (own_ng (N / 10 / 10)), iv 6, rv bb, iv (own_ng (N / 10 / 10)), iv ((N % 100).toInt32), iv 4, iv 0] [(.int ((own_ng (N / 10 / 10)) / (100 : Int32)))])) (fun t k => XS.idiv X8.here hx rfl (hb hby d4_31) rfl (by decide) k) ?_
  refine own_go (b := T8.setTop (mkF m 33 #[iv (own_ng (N / 10 / 10)), iv 6, rv bb, iv ((own_ng (N / 10 / 10)) / (100 : Int32)), iv ((N % 100).toInt32), iv 4, iv 0] [])) (fun t k => XS.istoreN X8.here hx rfl (hb hby d4_32) rfl (l' := #[iv (own_ng (N / 10 / 10)), iv 6, rv bb, iv ((own_ng (N / 10 / 10)) / (100 : Int32)), iv ((N % 100).toInt32), iv 4, iv 0]) rfl k) ?_
  rw [own_ng_div (a := (N / 10 / 10)) (by omega)]
  refine own_go (b := T8.setTop (mkF m 34 #[iv (own_ng (N / 10 / 10)), iv 6, rv bb, iv (own_ng ((N / 10 / 10) / 10 / 10)), iv ((N % 100).toInt32), iv 4, iv 0] [(.int (own_ng ((N / 10 / 10) / 10 / 10)))])) (fun t k => XS.iloadN X8.here hx rfl (hb hby d4_33) rfl  k) ?_
  refine own_go (b := T8.setTop (mkF m 36 #[iv (own_ng (N / 10 / 10)), iv 6, rv bb, iv (own_ng ((N / 10 / 10) / 10 / 10)), iv ((N % 100).toInt32), iv 4, iv 0] [(.int 100), (.int (own_ng ((N / 10 / 10) / 10 / 10)))])) (fun t k => XS.bipush X8.here hx rfl (hb hby d4_34) k) ?_
  refine own_go (b := T8.setTop (mkF m 37 #[iv (own_ng (N / 10 / 10)), iv 6, rv bb, iv (own_ng ((N / 10 / 10) / 10 / 10)), iv ((N % 100).toInt32), iv 4, iv 0] [(.int ((own_ng ((N / 10 / 10) / 10 / 10)) * (100 : Int32)))])) (fun t k => XS.imul X8.here hx rfl (hb hby d4_36) rfl k) ?_
  refine own_go (b := T8.setTop (mkF m 38 #[iv (own_ng (N / 10 / 10)), iv 6, rv bb, iv (own_ng ((N / 10 / 10) / 10 / 10)), iv ((N % 100).toInt32), iv 4, iv 0] [(.int (own_ng (N / 10 / 10))), (.int ((own_ng ((N / 10 / 10) / 10 / 10)) * (100 : Int32)))])) (fun t k => XS.iloadN X8.here hx rfl (hb hby d4_37) rfl  k) ?_
  refine own_go (b := T8.setTop (mkF m 39 #[iv (own_ng (N / 10 / 10)), iv 6, rv bb, iv (own_ng ((N / 10 / 10) / 10 / 10)), iv ((N % 100).toInt32), iv 4, iv 0] [(.int (((own_ng ((N / 10 / 10) / 10 / 10)) * (100 : Int32)) - (own_ng (N / 10 / 10))))])) (fun t k => XS.isub X8.here hx rfl (hb hby d4_38) rfl k) ?_
  refine own_go (b := T8.setTop (mkF m 41 #[iv (own_ng (N / 10 / 10)), iv 6, rv bb, iv (own_ng ((N / 10 / 10) / 10 / 10)), iv (((own_ng ((N / 10 / 10) / 10 / 10)) * (100 : Int32)) - (own_ng (N / 10 / 10))), iv 4, iv 0] [])) (fun t k => XS.istore X8.here hx rfl (hb hby d4_39) rfl (l' := #[iv (own_ng (N / 10 / 10)), iv 6, rv bb, iv (own_ng ((N / 10 / 10) / 10 / 10)), iv (((own_ng ((N / 10 / 10) / 10 / 10)) * (100 : Int32)) - (own_ng (N / 10 / 10))), iv 4, iv 0]) rfl k) ?_
  rw [own_ng_rem (a := (N / 10 / 10)) (by omega)]
  refine own_go (b := T8.setTop (mkF m 42 #[iv (own_ng (N / 10 / 10)), iv 6, rv bb, iv (own_ng ((N / 10 / 10) / 10 / 10)), iv (((N / 10 / 10) % 100).toInt32), iv 4, iv 0] [(.int (own_ng ((N / 10 / 10) / 10 / 10)))])) (fun t k => XS.iloadN X8.here hx rfl (hb hby d4_41) rfl  k) ?_
  refine own_go (b := T8.setTop (mkF m 43 #[iv (own_ng ((N / 10 / 10) / 10 / 10)), iv 6, rv bb, iv (own_ng ((N / 10 / 10) / 10 / 10)), iv (((N / 10 / 10) % 100).toInt32), iv 4, iv 0] [])) (fun t k => XS.istoreN X8.here hx rfl (hb hby d4_42) rfl (l' := #[iv (own_ng ((N / 10 / 10) / 10 / 10)), iv 6, rv bb, iv (own_ng ((N / 10 / 10) / 10 / 10)), iv (((N / 10 / 10) % 100).toInt32), iv 4, iv 0]) rfl k) ?_
  refine own_go (b := T8.setTop (mkF m 44 #[iv (own_ng ((N / 10 / 10) / 10 / 10)), iv 6, rv bb, iv (own_ng ((N / 10 / 10) / 10 / 10)), iv (((N / 10 / 10) % 100).toInt32), iv 4, iv 0] [(.ref bb)])) (fun t k => XS.aloadN X8.here hx rfl (hb hby d4_43) rfl rfl k) ?_
  refine own_go (b := T8.setTop (mkF m 47 #[iv (own_ng ((N / 10 / 10) / 10 / 10)), iv 6, rv bb, iv (own_ng ((N / 10 / 10) / 10 / 10)), iv (((N / 10 / 10) % 100).toInt32), iv 3, iv 0] [(.ref bb)])) (fun t k => XS.iinc X8.here hx rfl (hb hby d4_44) rfl (l' := #[iv (own_ng ((N / 10 / 10) / 10 / 10)), iv 6, rv bb, iv (own_ng ((N / 10 / 10) / 10 / 10)), iv (((N / 10 / 10) % 100).toInt32), iv 3, iv 0]) rfl k) ?_
  refine own_go (b := T8.setTop (mkF m 49 #[iv (own_ng ((N / 10 / 10) / 10 / 10)), iv 6, rv bb, iv (own_ng ((N / 10 / 10) / 10 / 10)), iv (((N / 10 / 10) % 100).toInt32), iv 3, iv 0] [(.int 3), (.ref bb)])) (fun t k => XS.iload X8.here hx rfl (hb hby d4_47) rfl  k) ?_
  obtain ⟨T9, X9, e9, st9⟩ := getS2 X8 hx hZ hown (host := "") (Or.inl (hw _ (List.mem_of_getElem? (i := 20) rfl))) Via.refl e8 (SO.ext Ol8.2) (g := (mkF m 49 #[iv (own_ng ((N / 10 / 10) / 10 / 10)), iv 6, rv bb, iv (own_ng ((N / 10 / 10) / 10 / 10)), iv (((N / 10 / 10) % 100).toInt32), iv 3, iv 0] [(.int 3), (.ref bb)])) rfl (hb hby d4_49)
  refine own_go (b := T9.setTop (mkF m 52 #[iv (own_ng ((N / 10 / 10) / 10 / 10)), iv 6, rv bb, iv (own_ng ((N / 10 / 10) / 10 / 10)), iv (((N / 10 / 10) % 100).toInt32), iv 3, iv 0] [(.ref dO), (.int 3), (.ref bb)])) st9 ?_
  refine own_go (b := T9.setTop (mkF m 54 #[iv (own_ng ((N / 10 / 10) / 10 / 10)), iv 6, rv bb, iv (own_ng ((N / 10 / 10) / 10 / 10)), iv (((N / 10 / 10) % 100).toInt32), iv 3, iv 0] [(.int (((N / 10 / 10) % 100).toInt32)), (.ref dO), (.int 3), (.ref bb)])) (fun t k => XS.iload X9.here hx rfl (hb hby d4_52) rfl  k) ?_
  have hq10 := hO ((N / 10 / 10) % 100) (by omega)
  rw [own_d_ones] at hq10
  have ar10 := AO.ext Ol8.2
  refine own_go (b := T9.setTop (mkF m 55 #[iv (own_ng ((N / 10 / 10) / 10 / 10)), iv 6, rv bb, iv (own_ng ((N / 10 / 10) / 10 / 10)), iv (((N / 10 / 10) % 100).toInt32), iv 3, iv 0] [(.int (own_d (N / 10 / 10))), (.int 3), (.ref bb)])) (fun t k => X9.baloadBytes hx (j := (((N / 10 / 10) % 100).toInt32)) (v := (.int (own_d (N / 10 / 10)))) (by rw [e9]; exact ar10.1) (State.isArrayOf_alike hZ.alike ar10.2.1) ar10.2.2 hq10.1 hq10.2 (g := (mkF m 54 #[iv (own_ng ((N / 10 / 10) / 10 / 10)), iv 6, rv bb, iv (own_ng ((N / 10 / 10) / 10 / 10)), iv (((N / 10 / 10) % 100).toInt32), iv 3, iv 0] [(.int (((N / 10 / 10) % 100).toInt32)), (.ref dO), (.int 3), (.ref bb)])) rfl rfl (hb hby d4_54) t k) ?_
  obtain ⟨cl11, Ar11, qc11, Sz11, Ng11, Hs11, Ft11⟩ := id V_bb_8
  have hin11 : ¬ ((3 : Int32) < 0 ∨ cl11.slots.size ≤ ((3 : Int32)).toNatClampNeg) := inb_of Sz11 ⟨by decide, by decide⟩
  obtain ⟨T12, h12, X12, e12, W12, st12⟩ := stB X9 hx hZ e9 Ar11 (j := (3 : Int32)) hin11 (g := (mkF m 55 #[iv (own_ng ((N / 10 / 10) / 10 / 10)), iv 6, rv bb, iv (own_ng ((N / 10 / 10) / 10 / 10)), iv (((N / 10 / 10) % 100).toInt32), iv 3, iv 0] [(.int (own_d (N / 10 / 10))), (.int 3), (.ref bb)])) rfl rfl (hb hby d4_55)
  have V_bb_12 : Arv Z h12 bb kb .byte (6 : Int32) [(.int 0), (.int 0), (.int 0), (.int (nar .byte (own_d (N / 10 / 10)))), (.int (nar .byte (own_d (N / 10)))), (.int (nar .byte (own_d N)))] (.int (0 : Int32)) := Arv.set Ar11 qc11 Sz11 Ng11 Hs11 Ft11 (fits_nar_byte _) W12 3 rfl (Nat.le_of_ble_eq_true rfl)
  have Zs12 : n0 ≤ h12.size := Nat.le_trans Zs8 (Keep.of_wr W12).1
  have N12 := Fr.snoc X12 N8 gb
  have Kp12 : Keep h0 h12 [bb] := Kp8.wr W12 (Or.inl (List.mem_of_getElem? (i := 0) rfl))
  have Ol12 := Ol8.wr W12 gb
  refine own_go (b := T12.setTop (mkF m 56 #[iv (own_ng ((N / 10 / 10) / 10 / 10)), iv 6, rv bb, iv (own_ng ((N / 10 / 10) / 10 / 10)), iv (((N / 10 / 10) % 100).toInt32), iv 3, iv 0] [])) st12 ?_
  refine own_go (b := T12.setTop (mkF m 57 #[iv (own_ng ((N / 10 / 10) / 10 / 10)), iv 6, rv bb, iv (own_ng ((N / 10 / 10) / 10 / 10)), iv (((N / 10 / 10) % 100).toInt32), iv 3, iv 0] [(.ref bb)])) (fun t k => XS.aloadN X12.here hx rfl (hb hby d4_56) rfl rfl k) ?_
  refine own_go (b := T12.setTop (mkF m 60 #[iv (own_ng ((N / 10 / 10) / 10 / 10)), iv 6, rv bb, iv (own_ng ((N / 10 / 10) / 10 / 10)), iv (((N / 10 / 10) % 100).toInt32), iv 2, iv 0] [(.ref bb)])) (fun t k => XS.iinc X12.here hx rfl (hb hby d4_57) rfl (l' := #[iv (own_ng ((N / 10 / 10) / 10 / 10)), iv 6, rv bb, iv (own_ng ((N / 10 / 10) / 10 / 10)), iv (((N / 10 / 10) % 100).toInt32), iv 2, iv 0]) rfl k) ?_
  refine own_go (b := T12.setTop (mkF m 62 #[iv (own_ng ((N / 10 / 10) / 10 / 10)), iv 6, rv bb, iv (own_ng ((N / 10 / 10) / 10 / 10)), iv (((N / 10 / 10) % 100).toInt32), iv 2, iv 0] [(.int 2), (.ref bb)])) (fun t k => XS.iload X12.here hx rfl (hb hby d4_60) rfl  k) ?_
  obtain ⟨T13, X13, e13, st13⟩ := getS2 X12 hx hZ hown (host := "") (Or.inl (hw _ (List.mem_of_getElem? (i := 126) rfl))) Via.refl e12 (ST.ext Ol12.2) (g := (mkF m 62 #[iv (own_ng ((N / 10 / 10) / 10 / 10)), iv 6, rv bb, iv (own_ng ((N / 10 / 10) / 10 / 10)), iv (((N / 10 / 10) % 100).toInt32), iv 2, iv 0] [(.int 2), (.ref bb)])) rfl (hb hby d4_62)
  refine own_go (b := T13.setTop (mkF m 65 #[iv (own_ng ((N / 10 / 10) / 10 / 10)), iv 6, rv bb, iv (own_ng ((N / 10 / 10) / 10 / 10)), iv (((N / 10 / 10) % 100).toInt32), iv 2, iv 0] [(.ref dT), (.int 2), (.ref bb)])) st13 ?_
  refine own_go (b := T13.setTop (mkF m 67 #[iv (own_ng ((N / 10 / 10) / 10 / 10)), iv 6, rv bb, iv (own_ng ((N / 10 / 10) / 10 / 10)), iv (((N / 10 / 10) % 100).toInt32), iv 2, iv 0] [(.int (((N / 10 / 10) % 100).toInt32)), (.ref dT), (.int 2), (.ref bb)])) (fun t k => XS.iload X13.here hx rfl (hb hby d4_65) rfl  k) ?_
  have hq14 := hT ((N / 10 / 10) % 100) (by omega)
  rw [own_d_tens] at hq14
  have ar14 := AT.ext Ol12.2
  refine own_go (b := T13.setTop (mkF m 68 #[iv (own_ng ((N / 10 / 10) / 10 / 10)), iv 6, rv bb, iv (own_ng ((N / 10 / 10) / 10 / 10)), iv (((N / 10 / 10) % 100).toInt32), iv 2, iv 0] [(.int (own_d ((N / 10 / 10) / 10))), (.int 2), (.ref bb)])) (fun t k => X13.baloadBytes hx (j := (((N / 10 / 10) % 100).toInt32)) (v := (.int (own_d ((N / 10 / 10) / 10)))) (by rw [e13]; exact ar14.1) (State.isArrayOf_alike hZ.alike ar14.2.1) ar14.2.2 hq14.1 hq14.2 (g := (mkF m 67 #[iv (own_ng ((N / 10 / 10) / 10 / 10)), iv 6, rv bb, iv (own_ng ((N / 10 / 10) / 10 / 10)), iv (((N / 10 / 10) % 100).toInt32), iv 2, iv 0] [(.int (((N / 10 / 10) % 100).toInt32)), (.ref dT), (.int 2), (.ref bb)])) rfl rfl (hb hby d4_67) t k) ?_
  obtain ⟨cl15, Ar15, qc15, Sz15, Ng15, Hs15, Ft15⟩ := id V_bb_12
  have hin15 : ¬ ((2 : Int32) < 0 ∨ cl15.slots.size ≤ ((2 : Int32)).toNatClampNeg) := inb_of Sz15 ⟨by decide, by decide⟩
  obtain ⟨T16, h16, X16, e16, W16, st16⟩ := stB X13 hx hZ e13 Ar15 (j := (2 : Int32)) hin15 (g := (mkF m 68 #[iv (own_ng ((N / 10 / 10) / 10 / 10)), iv 6, rv bb, iv (own_ng ((N / 10 / 10) / 10 / 10)), iv (((N / 10 / 10) % 100).toInt32), iv 2, iv 0] [(.int (own_d ((N / 10 / 10) / 10))), (.int 2), (.ref bb)])) rfl rfl (hb hby d4_68)
  have V_bb_16 : Arv Z h16 bb kb .byte (6 : Int32) [(.int 0), (.int 0), (.int (nar .byte (own_d ((N / 10 / 10) / 10)))), (.int (nar .byte (own_d (N / 10 / 10)))), (.int (nar .byte (own_d (N / 10)))), (.int (nar .byte (own_d N)))] (.int (0 : Int32)) := Arv.set Ar15 qc15 Sz15 Ng15 Hs15 Ft15 (fits_nar_byte _) W16 2 rfl (Nat.le_of_ble_eq_true rfl)
  have Zs16 : n0 ≤ h16.size := Nat.le_trans Zs12 (Keep.of_wr W16).1
  have N16 := Fr.snoc X16 N12 gb
  have Kp16 : Keep h0 h16 [bb] := Kp12.wr W16 (Or.inl (List.mem_of_getElem? (i := 0) rfl))
  have Ol16 := Ol12.wr W16 gb
  refine own_go (b := T16.setTop (mkF m 69 #[iv (own_ng ((N / 10 / 10) / 10 / 10)), iv 6, rv bb, iv (own_ng ((N / 10 / 10) / 10 / 10)), iv (((N / 10 / 10) % 100).toInt32), iv 2, iv 0] [])) st16 ?_
  refine own_go (b := T16.setTop (mkF m 22 #[iv (own_ng ((N / 10 / 10) / 10 / 10)), iv 6, rv bb, iv (own_ng ((N / 10 / 10) / 10 / 10)), iv (((N / 10 / 10) % 100).toInt32), iv 2, iv 0] [])) (fun t k => XS.goto X16.here hx rfl (pc0 := 69) (pc' := 22) rfl (hb hby d4_69) (by decide) (by decide) k) ?_
  refine own_go (b := T16.setTop (mkF m 23 #[iv (own_ng ((N / 10 / 10) / 10 / 10)), iv 6, rv bb, iv (own_ng ((N / 10 / 10) / 10 / 10)), iv (((N / 10 / 10) % 100).toInt32), iv 2, iv 0] [(.int (own_ng ((N / 10 / 10) / 10 / 10)))])) (fun t k => XS.iloadN X16.here hx rfl (hb hby d4_22) rfl  k) ?_
  refine own_go (b := T16.setTop (mkF m 25 #[iv (own_ng ((N / 10 / 10) / 10 / 10)), iv 6, rv bb, iv (own_ng ((N / 10 / 10) / 10 / 10)), iv (((N / 10 / 10) % 100).toInt32), iv 2, iv 0] [(.int (-100)), (.int (own_ng ((N / 10 / 10) / 10 / 10)))])) (fun t k => XS.bipush X16.here hx rfl (hb hby d4_23) k) ?_
  refine own_go (b := T16.setTop (mkF m 72 #[iv (own_ng ((N / 10 / 10) / 10 / 10)), iv 6, rv bb, iv (own_ng ((N / 10 / 10) / 10 / 10)), iv (((N / 10 / 10) % 100).toInt32), iv 2, iv 0] [])) (fun t k => XS.icmpYes X16.here hx rfl (pc0 := 25) (pc' := 72) rfl (hb hby d4_25) rfl (tlt (own_ng_gt (m := 100) (by omega) (by decide) (by omega))).2.2.1 (by decide) (by decide) k) ?_
  refine own_go (b := T16.setTop (mkF m 73 #[iv (own_ng ((N / 10 / 10) / 10 / 10)), iv 6, rv bb, iv (own_ng ((N / 10 / 10) / 10 / 10)), iv (((N / 10 / 10) % 100).toInt32), iv 2, iv 0] [(.ref bb)])) (fun t k => XS.aloadN X16.here hx rfl (hb hby d4_72) rfl rfl k) ?_
  refine own_go (b := T16.setTop (mkF m 76 #[iv (own_ng ((N / 10 / 10) / 10 / 10)), iv 6, rv bb, iv (own_ng ((N / 10 / 10) / 10 / 10)), iv (((N / 10 / 10) % 100).toInt32), iv 1, iv 0] [(.ref bb)])) (fun t k => XS.iinc X16.here hx rfl (hb hby d4_73) rfl (l' := #[iv (own_ng ((N / 10 / 10) / 10 / 10)), iv 6, rv bb, iv (own_ng ((N / 10 / 10) / 10 / 10)), iv (((N / 10 / 10) % 100).toInt32), iv 1, iv 0]) rfl k) ?_
  refine own_go (b := T16.setTop (mkF m 78 #[iv (own_ng ((N / 10 / 10) / 10 / 10)), iv 6, rv bb, iv (own_ng ((N / 10 / 10) / 10 / 10)), iv (((N / 10 / 10) % 100).toInt32), iv 1, iv 0] [(.int 1), (.ref bb)])) (fun t k => XS.iload X16.here hx rfl (hb hby d4_76) rfl  k) ?_
  obtain ⟨T17, X17, e17, st17⟩ := getS2 X16 hx hZ hown (host := "") (Or.inl (hw _ (List.mem_of_getElem? (i := 20) rfl))) Via.refl e16 (SO.ext Ol16.2) (g := (mkF m 78 #[iv (own_ng ((N / 10 / 10) / 10 / 10)), iv 6, rv bb, iv (own_ng ((N / 10 / 10) / 10 / 10)), iv (((N / 10 / 10) % 100).toInt32), iv 1, iv 0] [(.int 1), (.ref bb)])) rfl (hb hby d4_78)
  refine own_go (b := T17.setTop (mkF m 81 #[iv (own_ng ((N / 10 / 10) / 10 / 10)), iv 6, rv bb, iv (own_ng ((N / 10 / 10) / 10 / 10)), iv (((N / 10 / 10) % 100).toInt32), iv 1, iv 0] [(.ref dO), (.int 1), (.ref bb)])) st17 ?_
  refine own_go (b := T17.setTop (mkF m 82 #[iv (own_ng ((N / 10 / 10) / 10 / 10)), iv 6, rv bb, iv (own_ng ((N / 10 / 10) / 10 / 10)), iv (((N / 10 / 10) % 100).toInt32), iv 1, iv 0] [(.int (own_ng ((N / 10 / 10) / 10 / 10))), (.ref dO), (.int 1), (.ref bb)])) (fun t k => XS.iloadN X17.here hx rfl (hb hby d4_81) rfl  k) ?_
  refine own_go (b := T17.setTop (mkF m 83 #[iv (own_ng ((N / 10 / 10) / 10 / 10)), iv 6, rv bb, iv (own_ng ((N / 10 / 10) / 10 / 10)), iv (((N / 10 / 10) % 100).toInt32), iv 1, iv 0] [(.int (-(own_ng ((N / 10 / 10) / 10 / 10)))), (.ref dO), (.int 1), (.ref bb)])) (fun t k => XS.ineg X17.here hx rfl (hb hby d4_82) rfl k) ?_
  rw [own_ng_neg]
  have hq18 := hO ((N / 10 / 10) / 10 / 10) (by omega)
  have ar18 := AO.ext Ol16.2
  refine own_go (b := T17.setTop (mkF m 84 #[iv (own_ng ((N / 10 / 10) / 10 / 10)), iv 6, rv bb, iv (own_ng ((N / 10 / 10) / 10 / 10)), iv (((N / 10 / 10) % 100).toInt32), iv 1, iv 0] [(.int (own_d ((N / 10 / 10) / 10 / 10))), (.int 1), (.ref bb)])) (fun t k => X17.baloadBytes hx (j := (((N / 10 / 10) / 10 / 10).toInt32)) (v := (.int (own_d ((N / 10 / 10) / 10 / 10)))) (by rw [e17]; exact ar18.1) (State.isArrayOf_alike hZ.alike ar18.2.1) ar18.2.2 hq18.1 hq18.2 (g := (mkF m 83 #[iv (own_ng ((N / 10 / 10) / 10 / 10)), iv 6, rv bb, iv (own_ng ((N / 10 / 10) / 10 / 10)), iv (((N / 10 / 10) % 100).toInt32), iv 1, iv 0] [(.int (((N / 10 / 10) / 10 / 10).toInt32)), (.ref dO), (.int 1), (.ref bb)])) rfl rfl (hb hby d4_83) t k) ?_
  obtain ⟨cl19, Ar19, qc19, Sz19, Ng19, Hs19, Ft19⟩ := id V_bb_16
  have hin19 : ¬ ((1 : Int32) < 0 ∨ cl19.slots.size ≤ ((1 : Int32)).toNatClampNeg) := inb_of Sz19 ⟨by decide, by decide⟩
  obtain ⟨T20, h20, X20, e20, W20, st20⟩ := stB X17 hx hZ e17 Ar19 (j := (1 : Int32)) hin19 (g := (mkF m 84 #[iv (own_ng ((N / 10 / 10) / 10 / 10)), iv 6, rv bb, iv (own_ng ((N / 10 / 10) / 10 / 10)), iv (((N / 10 / 10) % 100).toInt32), iv 1, iv 0] [(.int (own_d ((N / 10 / 10) / 10 / 10))), (.int 1), (.ref bb)])) rfl rfl (hb hby d4_84)
  have V_bb_20 : Arv Z h20 bb kb .byte (6 : Int32) [(.int 0), (.int (nar .byte (own_d ((N / 10 / 10) / 10 / 10)))), (.int (nar .byte (own_d ((N / 10 / 10) / 10)))), (.int (nar .byte (own_d (N / 10 / 10)))), (.int (nar .byte (own_d (N / 10)))), (.int (nar .byte (own_d N)))] (.int (0 : Int32)) := Arv.set Ar19 qc19 Sz19 Ng19 Hs19 Ft19 (fits_nar_byte _) W20 1 rfl (Nat.le_of_ble_eq_true rfl)
  have Zs20 : n0 ≤ h20.size := Nat.le_trans Zs16 (Keep.of_wr W20).1
  have N20 := Fr.snoc X20 N16 gb
  have Kp20 : Keep h0 h20 [bb] := Kp16.wr W20 (Or.inl (List.mem_of_getElem? (i := 0) rfl))
  have Ol20 := Ol16.wr W20 gb
  refine own_go (b := T20.setTop (mkF m 85 #[iv (own_ng ((N / 10 / 10) / 10 / 10)), iv 6, rv bb, iv (own_ng ((N / 10 / 10) / 10 / 10)), iv (((N / 10 / 10) % 100).toInt32), iv 1, iv 0] [])) st20 ?_
  refine own_go (b := T20.setTop (mkF m 86 #[iv (own_ng ((N / 10 / 10) / 10 / 10)), iv 6, rv bb, iv (own_ng ((N / 10 / 10) / 10 / 10)), iv (((N / 10 / 10) % 100).toInt32), iv 1, iv 0] [(.int (own_ng ((N / 10 / 10) / 10 / 10)))])) (fun t k => XS.iloadN X20.here hx rfl (hb hby d4_85) rfl  k) ?_
  refine own_go (b := T20.setTop (mkF m 88 #[iv (own_ng ((N / 10 / 10) / 10 / 10)), iv 6, rv bb, iv (own_ng ((N / 10 / 10) / 10 / 10)), iv (((N / 10 / 10) % 100).toInt32), iv 1, iv 0] [(.int (-9)), (.int (own_ng ((N / 10 / 10) / 10 / 10)))])) (fun t k => XS.bipush X20.here hx rfl (hb hby d4_86) k) ?_
  refine own_go (b := T20.setTop (mkF m 91 #[iv (own_ng ((N / 10 / 10) / 10 / 10)), iv 6, rv bb, iv (own_ng ((N / 10 / 10) / 10 / 10)), iv (((N / 10 / 10) % 100).toInt32), iv 1, iv 0] [])) (fun t k => XS.icmpNo X20.here hx rfl (hb hby d4_88) rfl (tlt (own_ng_lt (m := 9) (by omega) (by decide) (by omega))).2.1 k) ?_
  refine own_go (b := T20.setTop (mkF m 92 #[iv (own_ng ((N / 10 / 10) / 10 / 10)), iv 6, rv bb, iv (own_ng ((N / 10 / 10) / 10 / 10)), iv (((N / 10 / 10) % 100).toInt32), iv 1, iv 0] [(.ref bb)])) (fun t k => XS.aloadN X20.here hx rfl (hb hby d4_91) rfl rfl k) ?_
  refine own_go (b := T20.setTop (mkF m 95 #[iv (own_ng ((N / 10 / 10) / 10 / 10)), iv 6, rv bb, iv (own_ng ((N / 10 / 10) / 10 / 10)), iv (((N / 10 / 10) % 100).toInt32), iv 0, iv 0] [(.ref bb)])) (fun t k => XS.iinc X20.here hx rfl (hb hby d4_92) rfl (l' := #[iv (own_ng ((N / 10 / 10) / 10 / 10)), iv 6, rv bb, iv (own_ng ((N / 10 / 10) / 10 / 10)), iv (((N / 10 / 10) % 100).toInt32), iv 0, iv 0]) rfl k) ?_
  refine own_go (b := T20.setTop (mkF m 97 #[iv (own_ng ((N / 10 / 10) / 10 / 10)), iv 6, rv bb, iv (own_ng ((N / 10 / 10) / 10 / 10)), iv (((N / 10 / 10) % 100).toInt32), iv 0, iv 0] [(.int 0), (.ref bb)])) (fun t k => XS.iload X20.here hx rfl (hb hby d4_95) rfl  k) ?_
  obtain ⟨T21, X21, e21, st21⟩ := getS2 X20 hx hZ hown (host := "") (Or.inl (hw _ (List.mem_of_getElem? (i := 126) rfl))) Via.refl e20 (ST.ext Ol20.2) (g := (mkF m 97 #[iv (own_ng ((N / 10 / 10) / 10 / 10)), iv 6, rv bb, iv (own_ng ((N / 10 / 10) / 10 / 10)), iv (((N / 10 / 10) % 100).toInt32), iv 0, iv 0] [(.int 0), (.ref bb)])) rfl (hb hby d4_97)
  refine own_go (b := T21.setTop (mkF m 100 #[iv (own_ng ((N / 10 / 10) / 10 / 10)), iv 6, rv bb, iv (own_ng ((N / 10 / 10) / 10 / 10)), iv (((N / 10 / 10) % 100).toInt32), iv 0, iv 0] [(.ref dT), (.int 0), (.ref bb)])) st21 ?_
  refine own_go (b := T21.setTop (mkF m 101 #[iv (own_ng ((N / 10 / 10) / 10 / 10)), iv 6, rv bb, iv (own_ng ((N / 10 / 10) / 10 / 10)), iv (((N / 10 / 10) % 100).toInt32), iv 0, iv 0] [(.int (own_ng ((N / 10 / 10) / 10 / 10))), (.ref dT), (.int 0), (.ref bb)])) (fun t k => XS.iloadN X21.here hx rfl (hb hby d4_100) rfl  k) ?_
  refine own_go (b := T21.setTop (mkF m 102 #[iv (own_ng ((N / 10 / 10) / 10 / 10)), iv 6, rv bb, iv (own_ng ((N / 10 / 10) / 10 / 10)), iv (((N / 10 / 10) % 100).toInt32), iv 0, iv 0] [(.int (-(own_ng ((N / 10 / 10) / 10 / 10)))), (.ref dT), (.int 0), (.ref bb)])) (fun t k => XS.ineg X21.here hx rfl (hb hby d4_101) rfl k) ?_
  rw [own_ng_neg]
  have hq22 := hT ((N / 10 / 10) / 10 / 10) (by omega)
  have ar22 := AT.ext Ol20.2
  refine own_go (b := T21.setTop (mkF m 103 #[iv (own_ng ((N / 10 / 10) / 10 / 10)), iv 6, rv bb, iv (own_ng ((N / 10 / 10) / 10 / 10)), iv (((N / 10 / 10) % 100).toInt32), iv 0, iv 0] [(.int (own_d (((N / 10 / 10) / 10 / 10) / 10))), (.int 0), (.ref bb)])) (fun t k => X21.baloadBytes hx (j := (((N / 10 / 10) / 10 / 10).toInt32)) (v := (.int (own_d (((N / 10 / 10) / 10 / 10) / 10)))) (by rw [e21]; exact ar22.1) (State.isArrayOf_alike hZ.alike ar22.2.1) ar22.2.2 hq22.1 hq22.2 (g := (mkF m 102 #[iv (own_ng ((N / 10 / 10) / 10 / 10)), iv 6, rv bb, iv (own_ng ((N / 10 / 10) / 10 / 10)), iv (((N / 10 / 10) % 100).toInt32), iv 0, iv 0] [(.int (((N / 10 / 10) / 10 / 10).toInt32)), (.ref dT), (.int 0), (.ref bb)])) rfl rfl (hb hby d4_102) t k) ?_
  obtain ⟨cl23, Ar23, qc23, Sz23, Ng23, Hs23, Ft23⟩ := id V_bb_20
  have hin23 : ¬ ((0 : Int32) < 0 ∨ cl23.slots.size ≤ ((0 : Int32)).toNatClampNeg) := inb_of Sz23 ⟨by decide, by decide⟩
  obtain ⟨T24, h24, X24, e24, W24, st24⟩ := stB X21 hx hZ e21 Ar23 (j := (0 : Int32)) hin23 (g := (mkF m 103 #[iv (own_ng ((N / 10 / 10) / 10 / 10)), iv 6, rv bb, iv (own_ng ((N / 10 / 10) / 10 / 10)), iv (((N / 10 / 10) % 100).toInt32), iv 0, iv 0] [(.int (own_d (((N / 10 / 10) / 10 / 10) / 10))), (.int 0), (.ref bb)])) rfl rfl (hb hby d4_103)
  have V_bb_24 : Arv Z h24 bb kb .byte (6 : Int32) [(.int (nar .byte (own_d (((N / 10 / 10) / 10 / 10) / 10)))), (.int (nar .byte (own_d ((N / 10 / 10) / 10 / 10)))), (.int (nar .byte (own_d ((N / 10 / 10) / 10)))), (.int (nar .byte (own_d (N / 10 / 10)))), (.int (nar .byte (own_d (N / 10)))), (.int (nar .byte (own_d N)))] (.int (0 : Int32)) := Arv.set Ar23 qc23 Sz23 Ng23 Hs23 Ft23 (fits_nar_byte _) W24 0 rfl (Nat.le_of_ble_eq_true rfl)
  have Zs24 : n0 ≤ h24.size := Nat.le_trans Zs20 (Keep.of_wr W24).1
  have N24 := Fr.snoc X24 N20 gb
  have Kp24 : Keep h0 h24 [bb] := Kp20.wr W24 (Or.inl (List.mem_of_getElem? (i := 0) rfl))
  have Ol24 := Ol20.wr W24 gb
  refine own_go (b := T24.setTop (mkF m 104 #[iv (own_ng ((N / 10 / 10) / 10 / 10)), iv 6, rv bb, iv (own_ng ((N / 10 / 10) / 10 / 10)), iv (((N / 10 / 10) % 100).toInt32), iv 0, iv 0] [])) st24 ?_
  refine own_go (b := T24.setTop (mkF m 106 #[iv (own_ng ((N / 10 / 10) / 10 / 10)), iv 6, rv bb, iv (own_ng ((N / 10 / 10) / 10 / 10)), iv (((N / 10 / 10) % 100).toInt32), iv 0, iv 0] [(.int 0)])) (fun t k => XS.iload X24.here hx rfl (hb hby d4_104) rfl  k) ?_
  refine own_go (b := T24.setTop (mkF m 118 #[iv (own_ng ((N / 10 / 10) / 10 / 10)), iv 6, rv bb, iv (own_ng ((N / 10 / 10) / 10 / 10)), iv (((N / 10 / 10) % 100).toInt32), iv 0, iv 0] [])) (fun t k => XS.ifYes X24.here hx rfl (pc0 := 106) (pc' := 118) rfl (hb hby d4_106) rfl ((if0 _ _).trans (teq (rfl : (0 : Int32) = (0 : Int32))).1) (by decide) (by decide) k) ?_
  refine own_go (b := T24.setTop (mkF m 120 #[iv (own_ng ((N / 10 / 10) / 10 / 10)), iv 6, rv bb, iv (own_ng ((N / 10 / 10) / 10 / 10)), iv (((N / 10 / 10) % 100).toInt32), iv 0, iv 0] [(.int 0)])) (fun t k => XS.iload X24.here hx rfl (hb hby d4_118) rfl  k) ?_
  exact own_retI X24 hx hlk hrt (hb hby d4_120) (Nat.le_of_ble_eq_true rfl) (Nat.le_of_ble_eq_true rfl) (⟨rfl, N24, by rw [e24]; exact Kp24, by rw [e24]; have q := V_bb_24; simp only [own_nar] at q; exact q⟩)
theorem ef_4_7 (m : MethodId) (ct : Int32) (sz : Int32) (bb : Addr) : entryFrame m #[(.int ct), (.int sz), (.ref bb)] 7 = mkF m 0 #[iv ct, iv sz, rv bb, .unset, .unset, .unset, .unset] [] := by first | (simp [entryFrame, mkF, argsToLocals, Value.category]; done) | rfl
def Q4_7 (Z : State) (ct : Int32) (sz : Int32) (bb : Addr) (N : Nat) (kb : ClassId) (dO : Addr) (dT : Addr) (cO : Cell) (cT : Cell) (h0 : Heap) (n0 : Nat) (v : Option Value) (h : Heap) (L : List Loc) : Prop := v = some (.int 0) ∧ Fr n0 L ∧ Keep h0 h [bb] ∧ Arv Z h bb kb .byte (Int32.ofNat 7) ((own_digs N 7).map Value.int) (.int (0 : Int32))
set_option maxRecDepth 65536 in
set_option maxHeartbeats 40000000 in
theorem rm4_7 (l : Launch) (Z : State) (a0 : Array Value) (hw : ∀ d ∈ tables_1, d.before a0 Z = true) (ws : List Jvm.Cond) (ct : Int32) (sz : Int32) (bb : Addr) (N : Nat) (kb : ClassId) (dO : Addr) (dT : Addr) (cO : Cell) (cT : Cell) (h0 : Heap) (n0 : Nat) (Z0 : n0 ≤ h0.size) (hct : ct = N.toInt32) (hct1 : sz = (7 : Int32)) (hN : N < 2147483648) (hlo : 1000000 ≤ N) (hhi : N < 10000000) (SO : Sta Z Z.heap "java/lang/Integer" "DigitOnes" "[B" (.ref dO)) (ST : Sta Z Z.heap "java/lang/Integer" "DigitTens" "[B" (.ref dT)) (AO : Arr Z Z.heap dO cO .byte) (AT : Arr Z Z.heap dT cT .byte) (hO : ∀ r : Nat, r < 100 → ¬ (r.toInt32 < 0 ∨ cO.slots.size ≤ r.toInt32.toNatClampNeg) ∧ cO.slots[r.toInt32.toNatClampNeg]? = some (.int (own_d r))) (hT : ∀ r : Nat, r < 100 → ¬ (r.toInt32 < 0 ∨ cT.slots.size ≤ r.toInt32.toNatClampNeg) ∧ cT.slots[r.toInt32.toNatClampNeg]? = some (.int (own_d (r / 10)))) (Vb : Arv Z h0 bb kb .byte (7 : Int32) [.int (0 : Int32), .int (0 : Int32), .int (0 : Int32), .int (0 : Int32), .int (0 : Int32), .int (0 : Int32), .int (0 : Int32)] (.int (0 : Int32))) (gb : n0 ≤ bb) (Od : Old Z n0 h0) :
    MetFree l (⟨"java/lang/Integer", "getChars", "(II[B)I"⟩ : MethodName) (head1 (Jvm.Cond.code (⟨"java/lang/Integer", "getChars", "(II[B)I"⟩ : MethodName) jdk_33_method_12_code 7 (some .int) :: ws) ({ frames := 0, cells := 0, slots := 0, locals := 0 } : Room)) (fun a U => a = #[(.int ct), (.int sz), (.ref bb)] ∧ Z.Warmed39 U.vm ∧ U.heap = h0) (fun _ _ _ _ _ => True) (fun _ U o U' => ∃ v L, o = .returned v ∧ Q4_7 Z ct sz bb N kb dO dT cO cT h0 n0 v U'.heap L ∧ FrameEnd U o U' L ({ frames := 0, cells := 0, slots := 0, locals := 0 } : Room).cells ({ frames := 0, cells := 0, slots := 0, locals := 0 } : Room).slots) := by
  refine MetFree.of_bodySF (plainFor_of_name pn_0) hisR ?_
  intro p e s m args below meth c s₁ Bd hml0 hP hK
  obtain ⟨rfl, hZ, hh⟩ := hP
  have hx := Bd.exec
  have hby := Bd.bytes
  have hml : c.maxLocals = 7 := hml0
  have hown : s.vm.findClass "java/lang/Integer" = some m.cls := findClass_of_methodNamed Bd.named
  have hnm := (name_of_methodNamed Bd.named Bd.method).1
  have hlk : meth.locks = false := Bd.notSynchronized
  have hrt := Bd.returns
  have X0 : Stand p l e ({ frames := 0, cells := 0, slots := 0, locals := 0 } : Room) s m #[(.int ct), (.int sz), (.ref bb)] below meth c s₁ [] 0 0 := Stand.of_body Bd
  have e0 : s₁.heap = h0 := by rw [← hh, Bd.state]; rfl
  have N0 := Fr.nil n0
  show own_Endz p.tables e below (own_EndQ s ({ frames := 0, cells := 0, slots := 0, locals := 0 } : Room).cells ({ frames := 0, cells := 0, slots := 0, locals := 0 } : Room).slots (Q4_7 Z ct sz bb N kb dO dT cO cT h0 n0)) (s₁.setTop (entryFrame m #[(.int ct), (.int sz), (.ref bb)] 7))
  refine own_cast (ef_4_7 m ct sz bb) ?_
  subst hct
  subst hct1
  refine own_go (b := s₁.setTop (mkF m 1 #[iv (N.toInt32), iv 7, rv bb, .unset, .unset, .unset, .unset] [(.int 7)])) (fun t k => XS.iloadN X0.here hx rfl (hb hby d4_0) rfl  k) ?_
  refine own_go (b := s₁.setTop (mkF m 3 #[iv (N.toInt32), iv 7, rv bb, .unset, .unset, iv 7, .unset] [])) (fun t k => XS.istore X0.here hx rfl (hb hby d4_1) rfl (l' := #[iv (N.toInt32), iv 7, rv bb, .unset, .unset, iv 7, .unset]) rfl k) ?_
  refine own_go (b := s₁.setTop (mkF m 4 #[iv (N.toInt32), iv 7, rv bb, .unset, .unset, iv 7, .unset] [(.int (N.toInt32))])) (fun t k => XS.iloadN X0.here hx rfl (hb hby d4_3) rfl  k) ?_
  refine own_go (b := s₁.setTop (mkF m 11 #[iv (N.toInt32), iv 7, rv bb, .unset, .unset, iv 7, .unset] [])) (fun t k => XS.ifYes X0.here hx rfl (pc0 := 4) (pc' := 11) rfl (hb hby d4_4) rfl ((if0 _ _).trans (flt (own_nn hN)).2.1) (by decide) (by decide) k) ?_
  refine own_go (b := s₁.setTop (mkF m 12 #[iv (N.toInt32), iv 7, rv bb, .unset, .unset, iv 7, .unset] [(.int 0)])) (fun t k => XS.iconst X0.here hx rfl (hb hby d4_11) k) ?_
  refine own_go (b := s₁.setTop (mkF m 14 #[iv (N.toInt32), iv 7, rv bb, .unset, .unset, iv 7, iv 0] [])) (fun t k => XS.istore X0.here hx rfl (hb hby d4_12) rfl (l' := #[iv (N.toInt32), iv 7, rv bb, .unset, .unset, iv 7, iv 0]) rfl k) ?_
  refine own_go (b := s₁.setTop (mkF m 16 #[iv (N.toInt32), iv 7, rv bb, .unset, .unset, iv 7, iv 0] [(.int 0)])) (fun t k => XS.iload X0.here hx rfl (hb hby d4_14) rfl  k) ?_
  refine own_go (b := s₁.setTop (mkF m 19 #[iv (N.toInt32), iv 7, rv bb, .unset, .unset, iv 7, iv 0] [])) (fun t k => XS.ifNo X0.here hx rfl (hb hby d4_16) rfl ((if0 _ _).trans (teq (rfl : (0 : Int32) = (0 : Int32))).2) k) ?_
  refine own_go (b := s₁.setTop (mkF m 20 #[iv (N.toInt32), iv 7, rv bb, .unset, .unset, iv 7, iv 0] [(.int (N.toInt32))])) (fun t k => XS.iloadN X0.here hx rfl (hb hby d4_19) rfl  k) ?_
  refine own_go (b := s₁.setTop (mkF m 21 #[iv (N.toInt32), iv 7, rv bb, .unset, .unset, iv 7, iv 0] [(.int (-(N.toInt32)))])) (fun t k => XS.ineg X0.here hx rfl (hb hby d4_20) rfl k) ?_
  refine own_go (b := s₁.setTop (mkF m 22 #[iv (-(N.toInt32)), iv 7, rv bb, .unset, .unset, iv 7, iv 0] [])) (fun t k => XS.istoreN X0.here hx rfl (hb hby d4_21) rfl (l' := #[iv (-(N.toInt32)), iv 7, rv bb, .unset, .unset, iv 7, iv 0]) rfl k) ?_
  show own_Endz p.tables e below (own_EndQ s ({ frames := 0, cells := 0, slots := 0, locals := 0 } : Room).cells ({ frames := 0, cells := 0, slots := 0, locals := 0 } : Room).slots (Q4_7 Z ((N.toInt32)) ((7 : Int32)) bb N kb dO dT cO cT h0 n0)) (s₁.setTop (mkF m 22 #[iv (own_ng N), iv 7, rv bb, .unset, .unset, iv 7, iv 0] []))
  refine own_go (b := s₁.setTop (mkF m 23 #[iv (own_ng N), iv 7, rv bb, .unset, .unset, iv 7, iv 0] [(.int (own_ng N))])) (fun t k => XS.iloadN X0.here hx rfl (hb hby d4_22) rfl  k) ?_
  refine own_go (b := s₁.setTop (mkF m 25 #[iv (own_ng N), iv 7, rv bb, .unset, .unset, iv 7, iv 0] [(.int (-100)), (.int (own_ng N))])) (fun t k => XS.bipush X0.here hx rfl (hb hby d4_23) k) ?_
  refine own_go (b := s₁.setTop (mkF m 28 #[iv (own_ng N), iv 7, rv bb, .unset, .unset, iv 7, iv 0] [])) (fun t k => XS.icmpNo X0.here hx rfl (hb hby d4_25) rfl (flt (own_ng_ngt (m := 100) (by omega) (by decide) (by omega))).2.2.1 k) ?_
  refine own_go (b := s₁.setTop (mkF m 29 #[iv (own_ng N), iv 7, rv bb, .unset, .unset, iv 7, iv 0] [(.int (own_ng N))])) (fun t k => XS.iloadN X0.here hx rfl (hb hby d4_28) rfl  k) ?_
  refine own_go (b := s₁.setTop (mkF m 31 #[iv (own_ng N), iv 7, rv bb, .unset, .unset, iv 7, iv 0] [(.int 100), (.int (own_ng N))])) (fun t k => XS.bipush X0.here hx rfl (hb hby d4_29) k) ?_
  refine own_go (b := s₁.setTop (mkF m 32 #[iv (own_ng N), iv 7, rv bb, .unset, .unset, iv 7, iv 0] [(.int ((own_ng N) / (100 : Int32)))])) (fun t k => XS.idiv X0.here hx rfl (hb hby d4_31) rfl (by decide) k) ?_
  refine own_go (b := s₁.setTop (mkF m 33 #[iv (own_ng N), iv 7, rv bb, iv ((own_ng N) / (100 : Int32)), .unset, iv 7, iv 0] [])) (fun t k => XS.istoreN X0.here hx rfl (hb hby d4_32) rfl (l' := #[iv (own_ng N), iv 7, rv bb, iv ((own_ng N) / (100 : Int32)), .unset, iv 7, iv 0]) rfl k) ?_
  rw [own_ng_div (a := N) (by omega)]
  refine own_go (b := s₁.setTop (mkF m 34 #[iv (own_ng N), iv 7, rv bb, iv (own_ng (N / 10 / 10)), .unset, iv 7, iv 0] [(.int (own_ng (N / 10 / 10)))])) (fun t k => XS.iloadN X0.here hx rfl (hb hby d4_33) rfl  k) ?_
  refine own_go (b := s₁.setTop (mkF m 36 #[iv (own_ng N), iv 7, rv bb, iv (own_ng (N / 10 / 10)), .unset, iv 7, iv 0] [(.int 100), (.int (own_ng (N / 10 / 10)))])) (fun t k => XS.bipush X0.here hx rfl (hb hby d4_34) k) ?_
  refine own_go (b := s₁.setTop (mkF m 37 #[iv (own_ng N), iv 7, rv bb, iv (own_ng (N / 10 / 10)), .unset, iv 7, iv 0] [(.int ((own_ng (N / 10 / 10)) * (100 : Int32)))])) (fun t k => XS.imul X0.here hx rfl (hb hby d4_36) rfl k) ?_
  refine own_go (b := s₁.setTop (mkF m 38 #[iv (own_ng N), iv 7, rv bb, iv (own_ng (N / 10 / 10)), .unset, iv 7, iv 0] [(.int (own_ng N)), (.int ((own_ng (N / 10 / 10)) * (100 : Int32)))])) (fun t k => XS.iloadN X0.here hx rfl (hb hby d4_37) rfl  k) ?_
  refine own_go (b := s₁.setTop (mkF m 39 #[iv (own_ng N), iv 7, rv bb, iv (own_ng (N / 10 / 10)), .unset, iv 7, iv 0] [(.int (((own_ng (N / 10 / 10)) * (100 : Int32)) - (own_ng N)))])) (fun t k => XS.isub X0.here hx rfl (hb hby d4_38) rfl k) ?_
  refine own_go (b := s₁.setTop (mkF m 41 #[iv (own_ng N), iv 7, rv bb, iv (own_ng (N / 10 / 10)), iv (((own_ng (N / 10 / 10)) * (100 : Int32)) - (own_ng N)), iv 7, iv 0] [])) (fun t k => XS.istore X0.here hx rfl (hb hby d4_39) rfl (l' := #[iv (own_ng N), iv 7, rv bb, iv (own_ng (N / 10 / 10)), iv (((own_ng (N / 10 / 10)) * (100 : Int32)) - (own_ng N)), iv 7, iv 0]) rfl k) ?_
  rw [own_ng_rem (a := N) (by omega)]
  refine own_go (b := s₁.setTop (mkF m 42 #[iv (own_ng N), iv 7, rv bb, iv (own_ng (N / 10 / 10)), iv ((N % 100).toInt32), iv 7, iv 0] [(.int (own_ng (N / 10 / 10)))])) (fun t k => XS.iloadN X0.here hx rfl (hb hby d4_41) rfl  k) ?_
  refine own_go (b := s₁.setTop (mkF m 43 #[iv (own_ng (N / 10 / 10)), iv 7, rv bb, iv (own_ng (N / 10 / 10)), iv ((N % 100).toInt32), iv 7, iv 0] [])) (fun t k => XS.istoreN X0.here hx rfl (hb hby d4_42) rfl (l' := #[iv (own_ng (N / 10 / 10)), iv 7, rv bb, iv (own_ng (N / 10 / 10)), iv ((N % 100).toInt32), iv 7, iv 0]) rfl k) ?_
  refine own_go (b := s₁.setTop (mkF m 44 #[iv (own_ng (N / 10 / 10)), iv 7, rv bb, iv (own_ng (N / 10 / 10)), iv ((N % 100).toInt32), iv 7, iv 0] [(.ref bb)])) (fun t k => XS.aloadN X0.here hx rfl (hb hby d4_43) rfl rfl k) ?_
  refine own_go (b := s₁.setTop (mkF m 47 #[iv (own_ng (N / 10 / 10)), iv 7, rv bb, iv (own_ng (N / 10 / 10)), iv ((N % 100).toInt32), iv 6, iv 0] [(.ref bb)])) (fun t k => XS.iinc X0.here hx rfl (hb hby d4_44) rfl (l' := #[iv (own_ng (N / 10 / 10)), iv 7, rv bb, iv (own_ng (N / 10 / 10)), iv ((N % 100).toInt32), iv 6, iv 0]) rfl k) ?_
  refine own_go (b := s₁.setTop (mkF m 49 #[iv (own_ng (N / 10 / 10)), iv 7, rv bb, iv (own_ng (N / 10 / 10)), iv ((N % 100).toInt32), iv 6, iv 0] [(.int 6), (.ref bb)])) (fun t k => XS.iload X0.here hx rfl (hb hby d4_47) rfl  k) ?_
  obtain ⟨T1, X1, e1, st1⟩ := getS2 X0 hx hZ hown (host := "") (Or.inl (hw _ (List.mem_of_getElem? (i := 20) rfl))) Via.refl e0 (SO.ext Od.2) (g := (mkF m 49 #[iv (own_ng (N / 10 / 10)), iv 7, rv bb, iv (own_ng (N / 10 / 10)), iv ((N % 100).toInt32), iv 6, iv 0] [(.int 6), (.ref bb)])) rfl (hb hby d4_49)
  refine own_go (b := T1.setTop (mkF m 52 #[iv (own_ng (N / 10 / 10)), iv 7, rv bb, iv (own_ng (N / 10 / 10)), iv ((N % 100).toInt32), iv 6, iv 0] [(.ref dO), (.int 6), (.ref bb)])) st1 ?_
  refine own_go (b := T1.setTop (mkF m 54 #[iv (own_ng (N / 10 / 10)), iv 7, rv bb, iv (own_ng (N / 10 / 10)), iv ((N % 100).toInt32), iv 6, iv 0] [(.int ((N % 100).toInt32)), (.ref dO), (.int 6), (.ref bb)])) (fun t k => XS.iload X1.here hx rfl (hb hby d4_52) rfl  k) ?_
  have hq2 := hO (N % 100) (by omega)
  rw [own_d_ones] at hq2
  have ar2 := AO.ext Od.2
  refine own_go (b := T1.setTop (mkF m 55 #[iv (own_ng (N / 10 / 10)), iv 7, rv bb, iv (own_ng (N / 10 / 10)), iv ((N % 100).toInt32), iv 6, iv 0] [(.int (own_d N)), (.int 6), (.ref bb)])) (fun t k => X1.baloadBytes hx (j := ((N % 100).toInt32)) (v := (.int (own_d N))) (by rw [e1]; exact ar2.1) (State.isArrayOf_alike hZ.alike ar2.2.1) ar2.2.2 hq2.1 hq2.2 (g := (mkF m 54 #[iv (own_ng (N / 10 / 10)), iv 7, rv bb, iv (own_ng (N / 10 / 10)), iv ((N % 100).toInt32), iv 6, iv 0] [(.int ((N % 100).toInt32)), (.ref dO), (.int 6), (.ref bb)])) rfl rfl (hb hby d4_54) t k) ?_
  obtain ⟨cl3, Ar3, qc3, Sz3, Ng3, Hs3, Ft3⟩ := id Vb
  have hin3 : ¬ ((6 : Int32) < 0 ∨ cl3.slots.size ≤ ((6 : Int32)).toNatClampNeg) := inb_of Sz3 ⟨by decide, by decide⟩
  obtain ⟨T4, h4, X4, e4, W4, st4⟩ := stB X1 hx hZ e1 Ar3 (j := (6 : Int32)) hin3 (g := (mkF m 55 #[iv (own_ng (N / 10 / 10)), iv 7, rv bb, iv (own_ng (N / 10 / 10)), iv ((N % 100).toInt32), iv 6, iv 0] [(.int (own_d N)), (.int 6), (.ref bb)])) rfl rfl (hb hby d4_55)
  have V_bb_4 : Arv Z h4 bb kb .byte (7 : Int32) [(.int 0), (.int 0), (.int 0), (.int 0), (.int 0), (.int 0), (.int (nar .byte (own_d N)))] (.int (0 : Int32)) := Arv.set Ar3 qc3 Sz3 Ng3 Hs3 Ft3 (fits_nar_byte _) W4 6 rfl (Nat.le_of_ble_eq_true rfl)
  have Zs4 : n0 ≤ h4.size := Nat.le_trans Z0 (Keep.of_wr W4).1
  have N4 := Fr.snoc X4 N0 gb
  have Kp4 : Keep h0 h4 [bb] := (Keep.refl h0 [bb]).wr W4 (Or.inl (List.mem_of_getElem? (i := 0) rfl))
  have Ol4 := Od.wr W4 gb
  refine own_go (b := T4.setTop (mkF m 56 #[iv (own_ng (N / 10 / 10)), iv 7, rv bb, iv (own_ng (N / 10 / 10)), iv ((N % 100).toInt32), iv 6, iv 0] [])) st4 ?_
  refine own_go (b := T4.setTop (mkF m 57 #[iv (own_ng (N / 10 / 10)), iv 7, rv bb, iv (own_ng (N / 10 / 10)), iv ((N % 100).toInt32), iv 6, iv 0] [(.ref bb)])) (fun t k => XS.aloadN X4.here hx rfl (hb hby d4_56) rfl rfl k) ?_
  refine own_go (b := T4.setTop (mkF m 60 #[iv (own_ng (N / 10 / 10)), iv 7, rv bb, iv (own_ng (N / 10 / 10)), iv ((N % 100).toInt32), iv 5, iv 0] [(.ref bb)])) (fun t k => XS.iinc X4.here hx rfl (hb hby d4_57) rfl (l' := #[iv (own_ng (N / 10 / 10)), iv 7, rv bb, iv (own_ng (N / 10 / 10)), iv ((N % 100).toInt32), iv 5, iv 0]) rfl k) ?_
  refine own_go (b := T4.setTop (mkF m 62 #[iv (own_ng (N / 10 / 10)), iv 7, rv bb, iv (own_ng (N / 10 / 10)), iv ((N % 100).toInt32), iv 5, iv 0] [(.int 5), (.ref bb)])) (fun t k => XS.iload X4.here hx rfl (hb hby d4_60) rfl  k) ?_
  obtain ⟨T5, X5, e5, st5⟩ := getS2 X4 hx hZ hown (host := "") (Or.inl (hw _ (List.mem_of_getElem? (i := 126) rfl))) Via.refl e4 (ST.ext Ol4.2) (g := (mkF m 62 #[iv (own_ng (N / 10 / 10)), iv 7, rv bb, iv (own_ng (N / 10 / 10)), iv ((N % 100).toInt32), iv 5, iv 0] [(.int 5), (.ref bb)])) rfl (hb hby d4_62)
  refine own_go (b := T5.setTop (mkF m 65 #[iv (own_ng (N / 10 / 10)), iv 7, rv bb, iv (own_ng (N / 10 / 10)), iv ((N % 100).toInt32), iv 5, iv 0] [(.ref dT), (.int 5), (.ref bb)])) st5 ?_
  refine own_go (b := T5.setTop (mkF m 67 #[iv (own_ng (N / 10 / 10)), iv 7, rv bb, iv (own_ng (N / 10 / 10)), iv ((N % 100).toInt32), iv 5, iv 0] [(.int ((N % 100).toInt32)), (.ref dT), (.int 5), (.ref bb)])) (fun t k => XS.iload X5.here hx rfl (hb hby d4_65) rfl  k) ?_
  have hq6 := hT (N % 100) (by omega)
  rw [own_d_tens] at hq6
  have ar6 := AT.ext Ol4.2
  refine own_go (b := T5.setTop (mkF m 68 #[iv (own_ng (N / 10 / 10)), iv 7, rv bb, iv (own_ng (N / 10 / 10)), iv ((N % 100).toInt32), iv 5, iv 0] [(.int (own_d (N / 10))), (.int 5), (.ref bb)])) (fun t k => X5.baloadBytes hx (j := ((N % 100).toInt32)) (v := (.int (own_d (N / 10)))) (by rw [e5]; exact ar6.1) (State.isArrayOf_alike hZ.alike ar6.2.1) ar6.2.2 hq6.1 hq6.2 (g := (mkF m 67 #[iv (own_ng (N / 10 / 10)), iv 7, rv bb, iv (own_ng (N / 10 / 10)), iv ((N % 100).toInt32), iv 5, iv 0] [(.int ((N % 100).toInt32)), (.ref dT), (.int 5), (.ref bb)])) rfl rfl (hb hby d4_67) t k) ?_
  obtain ⟨cl7, Ar7, qc7, Sz7, Ng7, Hs7, Ft7⟩ := id V_bb_4
  have hin7 : ¬ ((5 : Int32) < 0 ∨ cl7.slots.size ≤ ((5 : Int32)).toNatClampNeg) := inb_of Sz7 ⟨by decide, by decide⟩
  obtain ⟨T8, h8, X8, e8, W8, st8⟩ := stB X5 hx hZ e5 Ar7 (j := (5 : Int32)) hin7 (g := (mkF m 68 #[iv (own_ng (N / 10 / 10)), iv 7, rv bb, iv (own_ng (N / 10 / 10)), iv ((N % 100).toInt32), iv 5, iv 0] [(.int (own_d (N / 10))), (.int 5), (.ref bb)])) rfl rfl (hb hby d4_68)
  have V_bb_8 : Arv Z h8 bb kb .byte (7 : Int32) [(.int 0), (.int 0), (.int 0), (.int 0), (.int 0), (.int (nar .byte (own_d (N / 10)))), (.int (nar .byte (own_d N)))] (.int (0 : Int32)) := Arv.set Ar7 qc7 Sz7 Ng7 Hs7 Ft7 (fits_nar_byte _) W8 5 rfl (Nat.le_of_ble_eq_true rfl)
  have Zs8 : n0 ≤ h8.size := Nat.le_trans Zs4 (Keep.of_wr W8).1
  have N8 := Fr.snoc X8 N4 gb
  have Kp8 : Keep h0 h8 [bb] := Kp4.wr W8 (Or.inl (List.mem_of_getElem? (i := 0) rfl))
  have Ol8 := Ol4.wr W8 gb
  refine own_go (b := T8.setTop (mkF m 69 #[iv (own_ng (N / 10 / 10)), iv 7, rv bb, iv (own_ng (N / 10 / 10)), iv ((N % 100).toInt32), iv 5, iv 0] [])) st8 ?_
  refine own_go (b := T8.setTop (mkF m 22 #[iv (own_ng (N / 10 / 10)), iv 7, rv bb, iv (own_ng (N / 10 / 10)), iv ((N % 100).toInt32), iv 5, iv 0] [])) (fun t k => XS.goto X8.here hx rfl (pc0 := 69) (pc' := 22) rfl (hb hby d4_69) (by decide) (by decide) k) ?_
  refine own_go (b := T8.setTop (mkF m 23 #[iv (own_ng (N / 10 / 10)), iv 7, rv bb, iv (own_ng (N / 10 / 10)), iv ((N % 100).toInt32), iv 5, iv 0] [(.int (own_ng (N / 10 / 10)))])) (fun t k => XS.iloadN X8.here hx rfl (hb hby d4_22) rfl  k) ?_
  refine own_go (b := T8.setTop (mkF m 25 #[iv (own_ng (N / 10 / 10)), iv 7, rv bb, iv (own_ng (N / 10 / 10)), iv ((N % 100).toInt32), iv 5, iv 0] [(.int (-100)), (.int (own_ng (N / 10 / 10)))])) (fun t k => XS.bipush X8.here hx rfl (hb hby d4_23) k) ?_
  refine own_go (b := T8.setTop (mkF m 28 #[iv (own_ng (N / 10 / 10)), iv 7, rv bb, iv (own_ng (N / 10 / 10)), iv ((N % 100).toInt32), iv 5, iv 0] [])) (fun t k => XS.icmpNo X8.here hx rfl (hb hby d4_25) rfl (flt (own_ng_ngt (m := 100) (by omega) (by decide) (by omega))).2.2.1 k) ?_
  refine own_go (b := T8.setTop (mkF m 29 #[iv (own_ng (N / 10 / 10)), iv 7, rv bb, iv (own_ng (N / 10 / 10)), iv ((N % 100).toInt32), iv 5, iv 0] [(.int (own_ng (N / 10 / 10)))])) (fun t k => XS.iloadN X8.here hx rfl (hb hby d4_28) rfl  k) ?_
  refine own_go (b := T8.setTop (mkF m 31 #[iv (own_ng (N / 10 / 10)), iv 7, rv bb, iv (own_ng (N / 10 / 10)), iv ((N % 100).toInt32), iv 5, iv 0] [(.int 100), (.int (own_ng (N / 10 / 10)))])) (fun t k => XS.bipush X8.here hx rfl (hb hby d4_29) k) ?_
  refine own_go (b := T8.setTop (mkF m 32 #[iv (own_ng (N / 10 / 10)), iv 7, rv bb, iv (own_ng (N / 10 / 10)), iv ((N % 100).toInt32), iv 5, iv 0] [(.int ((own_ng (N / 10 / 10)) / (100 : Int32)))])) (fun t k => XS.idiv X8.here hx rfl (hb hby d4_31) rfl (by decide) k) ?_
  refine own_go (b := T8.setTop (mkF m 33 #[iv (own_ng (N / 10 / 10)), iv 7, rv bb, iv ((own_ng (N / 10 / 10)) / (100 : Int32)), iv ((N % 100).toInt32), iv 5, iv 0] [])) (fun t k => XS.istoreN X8.here hx rfl (hb hby d4_32) rfl (l' := #[iv (own_ng (N / 10 / 10)), iv 7, rv bb, iv ((own_ng (N / 10 / 10)) / (100 : Int32)), iv ((N % 100).toInt32), iv 5, iv 0]) rfl k) ?_
  rw [own_ng_div (a := (N / 10 / 10)) (by omega)]
  refine own_go (b := T8.setTop (mkF m 34 #[iv (own_ng (N / 10 / 10)), iv 7, rv bb, iv (own_ng ((N / 10 / 10) / 10 / 10)), iv ((N % 100).toInt32), iv 5, iv 0] [(.int (own_ng ((N / 10 / 10) / 10 / 10)))])) (fun t k => XS.iloadN X8.here hx rfl (hb hby d4_33) rfl  k) ?_
  refine own_go (b := T8.setTop (mkF m 36 #[iv (own_ng (N / 10 / 10)), iv 7, rv bb, iv (own_ng ((N / 10 / 10) / 10 / 10)), iv ((N % 100).toInt32), iv 5, iv 0] [(.int 100), (.int (own_ng ((N / 10 / 10) / 10 / 10)))])) (fun t k => XS.bipush X8.here hx rfl (hb hby d4_34) k) ?_
  refine own_go (b := T8.setTop (mkF m 37 #[iv (own_ng (N / 10 / 10)), iv 7, rv bb, iv (own_ng ((N / 10 / 10) / 10 / 10)), iv ((N % 100).toInt32), iv 5, iv 0] [(.int ((own_ng ((N / 10 / 10) / 10 / 10)) * (100 : Int32)))])) (fun t k => XS.imul X8.here hx rfl (hb hby d4_36) rfl k) ?_
  refine own_go (b := T8.setTop (mkF m 38 #[iv (own_ng (N / 10 / 10)), iv 7, rv bb, iv (own_ng ((N / 10 / 10) / 10 / 10)), iv ((N % 100).toInt32), iv 5, iv 0] [(.int (own_ng (N / 10 / 10))), (.int ((own_ng ((N / 10 / 10) / 10 / 10)) * (100 : Int32)))])) (fun t k => XS.iloadN X8.here hx rfl (hb hby d4_37) rfl  k) ?_
  refine own_go (b := T8.setTop (mkF m 39 #[iv (own_ng (N / 10 / 10)), iv 7, rv bb, iv (own_ng ((N / 10 / 10) / 10 / 10)), iv ((N % 100).toInt32), iv 5, iv 0] [(.int (((own_ng ((N / 10 / 10) / 10 / 10)) * (100 : Int32)) - (own_ng (N / 10 / 10))))])) (fun t k => XS.isub X8.here hx rfl (hb hby d4_38) rfl k) ?_
  refine own_go (b := T8.setTop (mkF m 41 #[iv (own_ng (N / 10 / 10)), iv 7, rv bb, iv (own_ng ((N / 10 / 10) / 10 / 10)), iv (((own_ng ((N / 10 / 10) / 10 / 10)) * (100 : Int32)) - (own_ng (N / 10 / 10))), iv 5, iv 0] [])) (fun t k => XS.istore X8.here hx rfl (hb hby d4_39) rfl (l' := #[iv (own_ng (N / 10 / 10)), iv 7, rv bb, iv (own_ng ((N / 10 / 10) / 10 / 10)), iv (((own_ng ((N / 10 / 10) / 10 / 10)) * (100 : Int32)) - (own_ng (N / 10 / 10))), iv 5, iv 0]) rfl k) ?_
  rw [own_ng_rem (a := (N / 10 / 10)) (by omega)]
  refine own_go (b := T8.setTop (mkF m 42 #[iv (own_ng (N / 10 / 10)), iv 7, rv bb, iv (own_ng ((N / 10 / 10) / 10 / 10)), iv (((N / 10 / 10) % 100).toInt32), iv 5, iv 0] [(.int (own_ng ((N / 10 / 10) / 10 / 10)))])) (fun t k => XS.iloadN X8.here hx rfl (hb hby d4_41) rfl  k) ?_
  refine own_go (b := T8.setTop (mkF m 43 #[iv (own_ng ((N / 10 / 10) / 10 / 10)), iv 7, rv bb, iv (own_ng ((N / 10 / 10) / 10 / 10)), iv (((N / 10 / 10) % 100).toInt32), iv 5, iv 0] [])) (fun t k => XS.istoreN X8.here hx rfl (hb hby d4_42) rfl (l' := #[iv (own_ng ((N / 10 / 10) / 10 / 10)), iv 7, rv bb, iv (own_ng ((N / 10 / 10) / 10 / 10)), iv (((N / 10 / 10) % 100).toInt32), iv 5, iv 0]) rfl k) ?_
  refine own_go (b := T8.setTop (mkF m 44 #[iv (own_ng ((N / 10 / 10) / 10 / 10)), iv 7, rv bb, iv (own_ng ((N / 10 / 10) / 10 / 10)), iv (((N / 10 / 10) % 100).toInt32), iv 5, iv 0] [(.ref bb)])) (fun t k => XS.aloadN X8.here hx rfl (hb hby d4_43) rfl rfl k) ?_
  refine own_go (b := T8.setTop (mkF m 47 #[iv (own_ng ((N / 10 / 10) / 10 / 10)), iv 7, rv bb, iv (own_ng ((N / 10 / 10) / 10 / 10)), iv (((N / 10 / 10) % 100).toInt32), iv 4, iv 0] [(.ref bb)])) (fun t k => XS.iinc X8.here hx rfl (hb hby d4_44) rfl (l' := #[iv (own_ng ((N / 10 / 10) / 10 / 10)), iv 7, rv bb, iv (own_ng ((N / 10 / 10) / 10 / 10)), iv (((N / 10 / 10) % 100).toInt32), iv 4, iv 0]) rfl k) ?_
  refine own_go (b := T8.setTop (mkF m 49 #[iv (own_ng ((N / 10 / 10) / 10 / 10)), iv 7, rv bb, iv (own_ng ((N / 10 / 10) / 10 / 10)), iv (((N / 10 / 10) % 100).toInt32), iv 4, iv 0] [(.int 4), (.ref bb)])) (fun t k => XS.iload X8.here hx rfl (hb hby d4_47) rfl  k) ?_
  obtain ⟨T9, X9, e9, st9⟩ := getS2 X8 hx hZ hown (host := "") (Or.inl (hw _ (List.mem_of_getElem? (i := 20) rfl))) Via.refl e8 (SO.ext Ol8.2) (g := (mkF m 49 #[iv (own_ng ((N / 10 / 10) / 10 / 10)), iv 7, rv bb, iv (own_ng ((N / 10 / 10) / 10 / 10)), iv (((N / 10 / 10) % 100).toInt32), iv 4, iv 0] [(.int 4), (.ref bb)])) rfl (hb hby d4_49)
  refine own_go (b := T9.setTop (mkF m 52 #[iv (own_ng ((N / 10 / 10) / 10 / 10)), iv 7, rv bb, iv (own_ng ((N / 10 / 10) / 10 / 10)), iv (((N / 10 / 10) % 100).toInt32), iv 4, iv 0] [(.ref dO), (.int 4), (.ref bb)])) st9 ?_
  refine own_go (b := T9.setTop (mkF m 54 #[iv (own_ng ((N / 10 / 10) / 10 / 10)), iv 7, rv bb, iv (own_ng ((N / 10 / 10) / 10 / 10)), iv (((N / 10 / 10) % 100).toInt32), iv 4, iv 0] [(.int (((N / 10 / 10) % 100).toInt32)), (.ref dO), (.int 4), (.ref bb)])) (fun t k => XS.iload X9.here hx rfl (hb hby d4_52) rfl  k) ?_
  have hq10 := hO ((N / 10 / 10) % 100) (by omega)
  rw [own_d_ones] at hq10
  have ar10 := AO.ext Ol8.2
  refine own_go (b := T9.setTop (mkF m 55 #[iv (own_ng ((N / 10 / 10) / 10 / 10)), iv 7, rv bb, iv (own_ng ((N / 10 / 10) / 10 / 10)), iv (((N / 10 / 10) % 100).toInt32), iv 4, iv 0] [(.int (own_d (N / 10 / 10))), (.int 4), (.ref bb)])) (fun t k => X9.baloadBytes hx (j := (((N / 10 / 10) % 100).toInt32)) (v := (.int (own_d (N / 10 / 10)))) (by rw [e9]; exact ar10.1) (State.isArrayOf_alike hZ.alike ar10.2.1) ar10.2.2 hq10.1 hq10.2 (g := (mkF m 54 #[iv (own_ng ((N / 10 / 10) / 10 / 10)), iv 7, rv bb, iv (own_ng ((N / 10 / 10) / 10 / 10)), iv (((N / 10 / 10) % 100).toInt32), iv 4, iv 0] [(.int (((N / 10 / 10) % 100).toInt32)), (.ref dO), (.int 4), (.ref bb)])) rfl rfl (hb hby d4_54) t k) ?_
  obtain ⟨cl11, Ar11, qc11, Sz11, Ng11, Hs11, Ft11⟩ := id V_bb_8
  have hin11 : ¬ ((4 : Int32) < 0 ∨ cl11.slots.size ≤ ((4 : Int32)).toNatClampNeg) := inb_of Sz11 ⟨by decide, by decide⟩
  obtain ⟨T12, h12, X12, e12, W12, st12⟩ := stB X9 hx hZ e9 Ar11 (j := (4 : Int32)) hin11 (g := (mkF m 55 #[iv (own_ng ((N / 10 / 10) / 10 / 10)), iv 7, rv bb, iv (own_ng ((N / 10 / 10) / 10 / 10)), iv (((N / 10 / 10) % 100).toInt32), iv 4, iv 0] [(.int (own_d (N / 10 / 10))), (.int 4), (.ref bb)])) rfl rfl (hb hby d4_55)
  have V_bb_12 : Arv Z h12 bb kb .byte (7 : Int32) [(.int 0), (.int 0), (.int 0), (.int 0), (.int (nar .byte (own_d (N / 10 / 10)))), (.int (nar .byte (own_d (N / 10)))), (.int (nar .byte (own_d N)))] (.int (0 : Int32)) := Arv.set Ar11 qc11 Sz11 Ng11 Hs11 Ft11 (fits_nar_byte _) W12 4 rfl (Nat.le_of_ble_eq_true rfl)
  have Zs12 : n0 ≤ h12.size := Nat.le_trans Zs8 (Keep.of_wr W12).1
  have N12 := Fr.snoc X12 N8 gb
  have Kp12 : Keep h0 h12 [bb] := Kp8.wr W12 (Or.inl (List.mem_of_getElem? (i := 0) rfl))
  have Ol12 := Ol8.wr W12 gb
  refine own_go (b := T12.setTop (mkF m 56 #[iv (own_ng ((N / 10 / 10) / 10 / 10)), iv 7, rv bb, iv (own_ng ((N / 10 / 10) / 10 / 10)), iv (((N / 10 / 10) % 100).toInt32), iv 4, iv 0] [])) st12 ?_
  refine own_go (b := T12.setTop (mkF m 57 #[iv (own_ng ((N / 10 / 10) / 10 / 10)), iv 7, rv bb, iv (own_ng ((N / 10 / 10) / 10 / 10)), iv (((N / 10 / 10) % 100).toInt32), iv 4, iv 0] [(.ref bb)])) (fun t k => XS.aloadN X12.here hx rfl (hb hby d4_56) rfl rfl k) ?_
  refine own_go (b := T12.setTop (mkF m 60 #[iv (own_ng ((N / 10 / 10) / 10 / 10)), iv 7, rv bb, iv (own_ng ((N / 10 / 10) / 10 / 10)), iv (((N / 10 / 10) % 100).toInt32), iv 3, iv 0] [(.ref bb)])) (fun t k => XS.iinc X12.here hx rfl (hb hby d4_57) rfl (l' := #[iv (own_ng ((N / 10 / 10) / 10 / 10)), iv 7, rv bb, iv (own_ng ((N / 10 / 10) / 10 / 10)), iv (((N / 10 / 10) % 100).toInt32), iv 3, iv 0]) rfl k) ?_
  refine own_go (b := T12.setTop (mkF m 62 #[iv (own_ng ((N / 10 / 10) / 10 / 10)), iv 7, rv bb, iv (own_ng ((N / 10 / 10) / 10 / 10)), iv (((N / 10 / 10) % 100).toInt32), iv 3, iv 0] [(.int 3), (.ref bb)])) (fun t k => XS.iload X12.here hx rfl (hb hby d4_60) rfl  k) ?_
  obtain ⟨T13, X13, e13, st13⟩ := getS2 X12 hx hZ hown (host := "") (Or.inl (hw _ (List.mem_of_getElem? (i := 126) rfl))) Via.refl e12 (ST.ext Ol12.2) (g := (mkF m 62 #[iv (own_ng ((N / 10 / 10) / 10 / 10)), iv 7, rv bb, iv (own_ng ((N / 10 / 10) / 10 / 10)), iv (((N / 10 / 10) % 100).toInt32), iv 3, iv 0] [(.int 3), (.ref bb)])) rfl (hb hby d4_62)
  refine own_go (b := T13.setTop (mkF m 65 #[iv (own_ng ((N / 10 / 10) / 10 / 10)), iv 7, rv bb, iv (own_ng ((N / 10 / 10) / 10 / 10)), iv (((N / 10 / 10) % 100).toInt32), iv 3, iv 0] [(.ref dT), (.int 3), (.ref bb)])) st13 ?_
  refine own_go (b := T13.setTop (mkF m 67 #[iv (own_ng ((N / 10 / 10) / 10 / 10)), iv 7, rv bb, iv (own_ng ((N / 10 / 10) / 10 / 10)), iv (((N / 10 / 10) % 100).toInt32), iv 3, iv 0] [(.int (((N / 10 / 10) % 100).toInt32)), (.ref dT), (.int 3), (.ref bb)])) (fun t k => XS.iload X13.here hx rfl (hb hby d4_65) rfl  k) ?_
  have hq14 := hT ((N / 10 / 10) % 100) (by omega)
  rw [own_d_tens] at hq14
  have ar14 := AT.ext Ol12.2
  refine own_go (b := T13.setTop (mkF m 68 #[iv (own_ng ((N / 10 / 10) / 10 / 10)), iv 7, rv bb, iv (own_ng ((N / 10 / 10) / 10 / 10)), iv (((N / 10 / 10) % 100).toInt32), iv 3, iv 0] [(.int (own_d ((N / 10 / 10) / 10))), (.int 3), (.ref bb)])) (fun t k => X13.baloadBytes hx (j := (((N / 10 / 10) % 100).toInt32)) (v := (.int (own_d ((N / 10 / 10) / 10)))) (by rw [e13]; exact ar14.1) (State.isArrayOf_alike hZ.alike ar14.2.1) ar14.2.2 hq14.1 hq14.2 (g := (mkF m 67 #[iv (own_ng ((N / 10 / 10) / 10 / 10)), iv 7, rv bb, iv (own_ng ((N / 10 / 10) / 10 / 10)), iv (((N / 10 / 10) % 100).toInt32), iv 3, iv 0] [(.int (((N / 10 / 10) % 100).toInt32)), (.ref dT), (.int 3), (.ref bb)])) rfl rfl (hb hby d4_67) t k) ?_
  obtain ⟨cl15, Ar15, qc15, Sz15, Ng15, Hs15, Ft15⟩ := id V_bb_12
  have hin15 : ¬ ((3 : Int32) < 0 ∨ cl15.slots.size ≤ ((3 : Int32)).toNatClampNeg) := inb_of Sz15 ⟨by decide, by decide⟩
  obtain ⟨T16, h16, X16, e16, W16, st16⟩ := stB X13 hx hZ e13 Ar15 (j := (3 : Int32)) hin15 (g := (mkF m 68 #[iv (own_ng ((N / 10 / 10) / 10 / 10)), iv 7, rv bb, iv (own_ng ((N / 10 / 10) / 10 / 10)), iv (((N / 10 / 10) % 100).toInt32), iv 3, iv 0] [(.int (own_d ((N / 10 / 10) / 10))), (.int 3), (.ref bb)])) rfl rfl (hb hby d4_68)
  have V_bb_16 : Arv Z h16 bb kb .byte (7 : Int32) [(.int 0), (.int 0), (.int 0), (.int (nar .byte (own_d ((N / 10 / 10) / 10)))), (.int (nar .byte (own_d (N / 10 / 10)))), (.int (nar .byte (own_d (N / 10)))), (.int (nar .byte (own_d N)))] (.int (0 : Int32)) := Arv.set Ar15 qc15 Sz15 Ng15 Hs15 Ft15 (fits_nar_byte _) W16 3 rfl (Nat.le_of_ble_eq_true rfl)
  have Zs16 : n0 ≤ h16.size := Nat.le_trans Zs12 (Keep.of_wr W16).1
  have N16 := Fr.snoc X16 N12 gb
  have Kp16 : Keep h0 h16 [bb] := Kp12.wr W16 (Or.inl (List.mem_of_getElem? (i := 0) rfl))
  have Ol16 := Ol12.wr W16 gb
  refine own_go (b := T16.setTop (mkF m 69 #[iv (own_ng ((N / 10 / 10) / 10 / 10)), iv 7, rv bb, iv (own_ng ((N / 10 / 10) / 10 / 10)), iv (((N / 10 / 10) % 100).toInt32), iv 3, iv 0] [])) st16 ?_
  refine own_go (b := T16.setTop (mkF m 22 #[iv (own_ng ((N / 10 / 10) / 10 / 10)), iv 7, rv bb, iv (own_ng ((N / 10 / 10) / 10 / 10)), iv (((N / 10 / 10) % 100).toInt32), iv 3, iv 0] [])) (fun t k => XS.goto X16.here hx rfl (pc0 := 69) (pc' := 22) rfl (hb hby d4_69) (by decide) (by decide) k) ?_
  refine own_go (b := T16.setTop (mkF m 23 #[iv (own_ng ((N / 10 / 10) / 10 / 10)), iv 7, rv bb, iv (own_ng ((N / 10 / 10) / 10 / 10)), iv (((N / 10 / 10) % 100).toInt32), iv 3, iv 0] [(.int (own_ng ((N / 10 / 10) / 10 / 10)))])) (fun t k => XS.iloadN X16.here hx rfl (hb hby d4_22) rfl  k) ?_
  refine own_go (b := T16.setTop (mkF m 25 #[iv (own_ng ((N / 10 / 10) / 10 / 10)), iv 7, rv bb, iv (own_ng ((N / 10 / 10) / 10 / 10)), iv (((N / 10 / 10) % 100).toInt32), iv 3, iv 0] [(.int (-100)), (.int (own_ng ((N / 10 / 10) / 10 / 10)))])) (fun t k => XS.bipush X16.here hx rfl (hb hby d4_23) k) ?_
  refine own_go (b := T16.setTop (mkF m 28 #[iv (own_ng ((N / 10 / 10) / 10 / 10)), iv 7, rv bb, iv (own_ng ((N / 10 / 10) / 10 / 10)), iv (((N / 10 / 10) % 100).toInt32), iv 3, iv 0] [])) (fun t k => XS.icmpNo X16.here hx rfl (hb hby d4_25) rfl (flt (own_ng_ngt (m := 100) (by omega) (by decide) (by omega))).2.2.1 k) ?_
  refine own_go (b := T16.setTop (mkF m 29 #[iv (own_ng ((N / 10 / 10) / 10 / 10)), iv 7, rv bb, iv (own_ng ((N / 10 / 10) / 10 / 10)), iv (((N / 10 / 10) % 100).toInt32), iv 3, iv 0] [(.int (own_ng ((N / 10 / 10) / 10 / 10)))])) (fun t k => XS.iloadN X16.here hx rfl (hb hby d4_28) rfl  k) ?_
  refine own_go (b := T16.setTop (mkF m 31 #[iv (own_ng ((N / 10 / 10) / 10 / 10)), iv 7, rv bb, iv (own_ng ((N / 10 / 10) / 10 / 10)), iv (((N / 10 / 10) % 100).toInt32), iv 3, iv 0] [(.int 100), (.int (own_ng ((N / 10 / 10) / 10 / 10)))])) (fun t k => XS.bipush X16.here hx rfl (hb hby d4_29) k) ?_
  refine own_go (b := T16.setTop (mkF m 32 #[iv (own_ng ((N / 10 / 10) / 10 / 10)), iv 7, rv bb, iv (own_ng ((N / 10 / 10) / 10 / 10)), iv (((N / 10 / 10) % 100).toInt32), iv 3, iv 0] [(.int ((own_ng ((N / 10 / 10) / 10 / 10)) / (100 : Int32)))])) (fun t k => XS.idiv X16.here hx rfl (hb hby d4_31) rfl (by decide) k) ?_
  refine own_go (b := T16.setTop (mkF m 33 #[iv (own_ng ((N / 10 / 10) / 10 / 10)), iv 7, rv bb, iv ((own_ng ((N / 10 / 10) / 10 / 10)) / (100 : Int32)), iv (((N / 10 / 10) % 100).toInt32), iv 3, iv 0] [])) (fun t k => XS.istoreN X16.here hx rfl (hb hby d4_32) rfl (l' := #[iv (own_ng ((N / 10 / 10) / 10 / 10)), iv 7, rv bb, iv ((own_ng ((N / 10 / 10) / 10 / 10)) / (100 : Int32)), iv (((N / 10 / 10) % 100).toInt32), iv 3, iv 0]) rfl k) ?_
  rw [own_ng_div (a := ((N / 10 / 10) / 10 / 10)) (by omega)]
  refine own_go (b := T16.setTop (mkF m 34 #[iv (own_ng ((N / 10 / 10) / 10 / 10)), iv 7, rv bb, iv (own_ng (((N / 10 / 10) / 10 / 10) / 10 / 10)), iv (((N / 10 / 10) % 100).toInt32), iv 3, iv 0] [(.int (own_ng (((N / 10 / 10) / 10 / 10) / 10 / 10)))])) (fun t k => XS.iloadN X16.here hx rfl (hb hby d4_33) rfl  k) ?_
  refine own_go (b := T16.setTop (mkF m 36 #[iv (own_ng ((N / 10 / 10) / 10 / 10)), iv 7, rv bb, iv (own_ng (((N / 10 / 10) / 10 / 10) / 10 / 10)), iv (((N / 10 / 10) % 100).toInt32), iv 3, iv 0] [(.int 100), (.int (own_ng (((N / 10 / 10) / 10 / 10) / 10 / 10)))])) (fun t k => XS.bipush X16.here hx rfl (hb hby d4_34) k) ?_
  refine own_go (b := T16.setTop (mkF m 37 #[iv (own_ng ((N / 10 / 10) / 10 / 10)), iv 7, rv bb, iv (own_ng (((N / 10 / 10) / 10 / 10) / 10 / 10)), iv (((N / 10 / 10) % 100).toInt32), iv 3, iv 0] [(.int ((own_ng (((N / 10 / 10) / 10 / 10) / 10 / 10)) * (100 : Int32)))])) (fun t k => XS.imul X16.here hx rfl (hb hby d4_36) rfl k) ?_
  refine own_go (b := T16.setTop (mkF m 38 #[iv (own_ng ((N / 10 / 10) / 10 / 10)), iv 7, rv bb, iv (own_ng (((N / 10 / 10) / 10 / 10) / 10 / 10)), iv (((N / 10 / 10) % 100).toInt32), iv 3, iv 0] [(.int (own_ng ((N / 10 / 10) / 10 / 10))), (.int ((own_ng (((N / 10 / 10) / 10 / 10) / 10 / 10)) * (100 : Int32)))])) (fun t k => XS.iloadN X16.here hx rfl (hb hby d4_37) rfl  k) ?_
  refine own_go (b := T16.setTop (mkF m 39 #[iv (own_ng ((N / 10 / 10) / 10 / 10)), iv 7, rv bb, iv (own_ng (((N / 10 / 10) / 10 / 10) / 10 / 10)), iv (((N / 10 / 10) % 100).toInt32), iv 3, iv 0] [(.int (((own_ng (((N / 10 / 10) / 10 / 10) / 10 / 10)) * (100 : Int32)) - (own_ng ((N / 10 / 10) / 10 / 10))))])) (fun t k => XS.isub X16.here hx rfl (hb hby d4_38) rfl k) ?_
  refine own_go (b := T16.setTop (mkF m 41 #[iv (own_ng ((N / 10 / 10) / 10 / 10)), iv 7, rv bb, iv (own_ng (((N / 10 / 10) / 10 / 10) / 10 / 10)), iv (((own_ng (((N / 10 / 10) / 10 / 10) / 10 / 10)) * (100 : Int32)) - (own_ng ((N / 10 / 10) / 10 / 10))), iv 3, iv 0] [])) (fun t k => XS.istore X16.here hx rfl (hb hby d4_39) rfl (l' := #[iv (own_ng ((N / 10 / 10) / 10 / 10)), iv 7, rv bb, iv (own_ng (((N / 10 / 10) / 10 / 10) / 10 / 10)), iv (((own_ng (((N / 10 / 10) / 10 / 10) / 10 / 10)) * (100 : Int32)) - (own_ng ((N / 10 / 10) / 10 / 10))), iv 3, iv 0]) rfl k) ?_
  rw [own_ng_rem (a := ((N / 10 / 10) / 10 / 10)) (by omega)]
  refine own_go (b := T16.setTop (mkF m 42 #[iv (own_ng ((N / 10 / 10) / 10 / 10)), iv 7, rv bb, iv (own_ng (((N / 10 / 10) / 10 / 10) / 10 / 10)), iv ((((N / 10 / 10) / 10 / 10) % 100).toInt32), iv 3, iv 0] [(.int (own_ng (((N / 10 / 10) / 10 / 10) / 10 / 10)))])) (fun t k => XS.iloadN X16.here hx rfl (hb hby d4_41) rfl  k) ?_
  refine own_go (b := T16.setTop (mkF m 43 #[iv (own_ng (((N / 10 / 10) / 10 / 10) / 10 / 10)), iv 7, rv bb, iv (own_ng (((N / 10 / 10) / 10 / 10) / 10 / 10)), iv ((((N / 10 / 10) / 10 / 10) % 100).toInt32), iv 3, iv 0] [])) (fun t k => XS.istoreN X16.here hx rfl (hb hby d4_42) rfl (l' := #[iv (own_ng (((N / 10 / 10) / 10 / 10) / 10 / 10)), iv 7, rv bb, iv (own_ng (((N / 10 / 10) / 10 / 10) / 10 / 10)), iv ((((N / 10 / 10) / 10 / 10) % 100).toInt32), iv 3, iv 0]) rfl k) ?_
  refine own_go (b := T16.setTop (mkF m 44 #[iv (own_ng (((N / 10 / 10) / 10 / 10) / 10 / 10)), iv 7, rv bb, iv (own_ng (((N / 10 / 10) / 10 / 10) / 10 / 10)), iv ((((N / 10 / 10) / 10 / 10) % 100).toInt32), iv 3, iv 0] [(.ref bb)])) (fun t k => XS.aloadN X16.here hx rfl (hb hby d4_43) rfl rfl k) ?_
  refine own_go (b := T16.setTop (mkF m 47 #[iv (own_ng (((N / 10 / 10) / 10 / 10) / 10 / 10)), iv 7, rv bb, iv (own_ng (((N / 10 / 10) / 10 / 10) / 10 / 10)), iv ((((N / 10 / 10) / 10 / 10) % 100).toInt32), iv 2, iv 0] [(.ref bb)])) (fun t k => XS.iinc X16.here hx rfl (hb hby d4_44) rfl (l' := #[iv (own_ng (((N / 10 / 10) / 10 / 10) / 10 / 10)), iv 7, rv bb, iv (own_ng (((N / 10 / 10) / 10 / 10) / 10 / 10)), iv ((((N / 10 / 10) / 10 / 10) % 100).toInt32), iv 2, iv 0]) rfl k) ?_
  refine own_go (b := T16.setTop (mkF m 49 #[iv (own_ng (((N / 10 / 10) / 10 / 10) / 10 / 10)), iv 7, rv bb, iv (own_ng (((N / 10 / 10) / 10 / 10) / 10 / 10)), iv ((((N / 10 / 10) / 10 / 10) % 100).toInt32), iv 2, iv 0] [(.int 2), (.ref bb)])) (fun t k => XS.iload X16.here hx rfl (hb hby d4_47) rfl  k) ?_
  obtain ⟨T17, X17, e17, st17⟩ := getS2 X16 hx hZ hown (host := "") (Or.inl (hw _ (List.mem_of_getElem? (i := 20) rfl))) Via.refl e16 (SO.ext Ol16.2) (g := (mkF m 49 #[iv (own_ng (((N / 10 / 10) / 10 / 10) / 10 / 10)), iv 7, rv bb, iv (own_ng (((N / 10 / 10) / 10 / 10) / 10 / 10)), iv ((((N / 10 / 10) / 10 / 10) % 100).toInt32), iv 2, iv 0] [(.int 2), (.ref bb)])) rfl (hb hby d4_49)
  refine own_go (b := T17.setTop (mkF m 52 #[iv (own_ng (((N / 10 / 10) / 10 / 10) / 10 / 10)), iv 7, rv bb, iv (own_ng (((N / 10 / 10) / 10 / 10) / 10 / 10)), iv ((((N / 10 / 10) / 10 / 10) % 100).toInt32), iv 2, iv 0] [(.ref dO), (.int 2), (.ref bb)])) st17 ?_
  refine own_go (b := T17.setTop (mkF m 54 #[iv (own_ng (((N / 10 / 10) / 10 / 10) / 10 / 10)), iv 7, rv bb, iv (own_ng (((N / 10 / 10) / 10 / 10) / 10 / 10)), iv ((((N / 10 / 10) / 10 / 10) % 100).toInt32), iv 2, iv 0] [(.int ((((N / 10 / 10) / 10 / 10) % 100).toInt32)), (.ref dO), (.int 2), (.ref bb)])) (fun t k => XS.iload X17.here hx rfl (hb hby d4_52) rfl  k) ?_
  have hq18 := hO (((N / 10 / 10) / 10 / 10) % 100) (by omega)
  rw [own_d_ones] at hq18
  have ar18 := AO.ext Ol16.2
  refine own_go (b := T17.setTop (mkF m 55 #[iv (own_ng (((N / 10 / 10) / 10 / 10) / 10 / 10)), iv 7, rv bb, iv (own_ng (((N / 10 / 10) / 10 / 10) / 10 / 10)), iv ((((N / 10 / 10) / 10 / 10) % 100).toInt32), iv 2, iv 0] [(.int (own_d ((N / 10 / 10) / 10 / 10))), (.int 2), (.ref bb)])) (fun t k => X17.baloadBytes hx (j := ((((N / 10 / 10) / 10 / 10) % 100).toInt32)) (v := (.int (own_d ((N / 10 / 10) / 10 / 10)))) (by rw [e17]; exact ar18.1) (State.isArrayOf_alike hZ.alike ar18.2.1) ar18.2.2 hq18.1 hq18.2 (g := (mkF m 54 #[iv (own_ng (((N / 10 / 10) / 10 / 10) / 10 / 10)), iv 7, rv bb, iv (own_ng (((N / 10 / 10) / 10 / 10) / 10 / 10)), iv ((((N / 10 / 10) / 10 / 10) % 100).toInt32), iv 2, iv 0] [(.int ((((N / 10 / 10) / 10 / 10) % 100).toInt32)), (.ref dO), (.int 2), (.ref bb)])) rfl rfl (hb hby d4_54) t k) ?_
  obtain ⟨cl19, Ar19, qc19, Sz19, Ng19, Hs19, Ft19⟩ := id V_bb_16
  have hin19 : ¬ ((2 : Int32) < 0 ∨ cl19.slots.size ≤ ((2 : Int32)).toNatClampNeg) := inb_of Sz19 ⟨by decide, by decide⟩
  obtain ⟨T20, h20, X20, e20, W20, st20⟩ := stB X17 hx hZ e17 Ar19 (j := (2 : Int32)) hin19 (g := (mkF m 55 #[iv (own_ng (((N / 10 / 10) / 10 / 10) / 10 / 10)), iv 7, rv bb, iv (own_ng (((N / 10 / 10) / 10 / 10) / 10 / 10)), iv ((((N / 10 / 10) / 10 / 10) % 100).toInt32), iv 2, iv 0] [(.int (own_d ((N / 10 / 10) / 10 / 10))), (.int 2), (.ref bb)])) rfl rfl (hb hby d4_55)
  have V_bb_20 : Arv Z h20 bb kb .byte (7 : Int32) [(.int 0), (.int 0), (.int (nar .byte (own_d ((N / 10 / 10) / 10 / 10)))), (.int (nar .byte (own_d ((N / 10 / 10) / 10)))), (.int (nar .byte (own_d (N / 10 / 10)))), (.int (nar .byte (own_d (N / 10)))), (.int (nar .byte (own_d N)))] (.int (0 : Int32)) := Arv.set Ar19 qc19 Sz19 Ng19 Hs19 Ft19 (fits_nar_byte _) W20 2 rfl (Nat.le_of_ble_eq_true rfl)
  have Zs20 : n0 ≤ h20.size := Nat.le_trans Zs16 (Keep.of_wr W20).1
  have N20 := Fr.snoc X20 N16 gb
  have Kp20 : Keep h0 h20 [bb] := Kp16.wr W20 (Or.inl (List.mem_of_getElem? (i := 0) rfl))
  have Ol20 := Ol16.wr W20 gb
  refine own_go (b := T20.setTop (mkF m 56 #[iv (own_ng (((N / 10 / 10) / 10 / 10) / 10 / 10)), iv 7, rv bb, iv (own_ng (((N / 10 / 10) / 10 / 10) / 10 / 10)), iv ((((N / 10 / 10) / 10 / 10) % 100).toInt32), iv 2, iv 0] [])) st20 ?_
  refine own_go (b := T20.setTop (mkF m 57 #[iv (own_ng (((N / 10 / 10) / 10 / 10) / 10 / 10)), iv 7, rv bb, iv (own_ng (((N / 10 / 10) / 10 / 10) / 10 / 10)), iv ((((N / 10 / 10) / 10 / 10) % 100).toInt32), iv 2, iv 0] [(.ref bb)])) (fun t k => XS.aloadN X20.here hx rfl (hb hby d4_56) rfl rfl k) ?_
  refine own_go (b := T20.setTop (mkF m 60 #[iv (own_ng (((N / 10 / 10) / 10 / 10) / 10 / 10)), iv 7, rv bb, iv (own_ng (((N / 10 / 10) / 10 / 10) / 10 / 10)), iv ((((N / 10 / 10) / 10 / 10) % 100).toInt32), iv 1, iv 0] [(.ref bb)])) (fun t k => XS.iinc X20.here hx rfl (hb hby d4_57) rfl (l' := #[iv (own_ng (((N / 10 / 10) / 10 / 10) / 10 / 10)), iv 7, rv bb, iv (own_ng (((N / 10 / 10) / 10 / 10) / 10 / 10)), iv ((((N / 10 / 10) / 10 / 10) % 100).toInt32), iv 1, iv 0]) rfl k) ?_
  refine own_go (b := T20.setTop (mkF m 62 #[iv (own_ng (((N / 10 / 10) / 10 / 10) / 10 / 10)), iv 7, rv bb, iv (own_ng (((N / 10 / 10) / 10 / 10) / 10 / 10)), iv ((((N / 10 / 10) / 10 / 10) % 100).toInt32), iv 1, iv 0] [(.int 1), (.ref bb)])) (fun t k => XS.iload X20.here hx rfl (hb hby d4_60) rfl  k) ?_
  obtain ⟨T21, X21, e21, st21⟩ := getS2 X20 hx hZ hown (host := "") (Or.inl (hw _ (List.mem_of_getElem? (i := 126) rfl))) Via.refl e20 (ST.ext Ol20.2) (g := (mkF m 62 #[iv (own_ng (((N / 10 / 10) / 10 / 10) / 10 / 10)), iv 7, rv bb, iv (own_ng (((N / 10 / 10) / 10 / 10) / 10 / 10)), iv ((((N / 10 / 10) / 10 / 10) % 100).toInt32), iv 1, iv 0] [(.int 1), (.ref bb)])) rfl (hb hby d4_62)
  refine own_go (b := T21.setTop (mkF m 65 #[iv (own_ng (((N / 10 / 10) / 10 / 10) / 10 / 10)), iv 7, rv bb, iv (own_ng (((N / 10 / 10) / 10 / 10) / 10 / 10)), iv ((((N / 10 / 10) / 10 / 10) % 100).toInt32), iv 1, iv 0] [(.ref dT), (.int 1), (.ref bb)])) st21 ?_
  refine own_go (b := T21.setTop (mkF m 67 #[iv (own_ng (((N / 10 / 10) / 10 / 10) / 10 / 10)), iv 7, rv bb, iv (own_ng (((N / 10 / 10) / 10 / 10) / 10 / 10)), iv ((((N / 10 / 10) / 10 / 10) % 100).toInt32), iv 1, iv 0] [(.int ((((N / 10 / 10) / 10 / 10) % 100).toInt32)), (.ref dT), (.int 1), (.ref bb)])) (fun t k => XS.iload X21.here hx rfl (hb hby d4_65) rfl  k) ?_
  have hq22 := hT (((N / 10 / 10) / 10 / 10) % 100) (by omega)
  rw [own_d_tens] at hq22
  have ar22 := AT.ext Ol20.2
  refine own_go (b := T21.setTop (mkF m 68 #[iv (own_ng (((N / 10 / 10) / 10 / 10) / 10 / 10)), iv 7, rv bb, iv (own_ng (((N / 10 / 10) / 10 / 10) / 10 / 10)), iv ((((N / 10 / 10) / 10 / 10) % 100).toInt32), iv 1, iv 0] [(.int (own_d (((N / 10 / 10) / 10 / 10) / 10))), (.int 1), (.ref bb)])) (fun t k => X21.baloadBytes hx (j := ((((N / 10 / 10) / 10 / 10) % 100).toInt32)) (v := (.int (own_d (((N / 10 / 10) / 10 / 10) / 10)))) (by rw [e21]; exact ar22.1) (State.isArrayOf_alike hZ.alike ar22.2.1) ar22.2.2 hq22.1 hq22.2 (g := (mkF m 67 #[iv (own_ng (((N / 10 / 10) / 10 / 10) / 10 / 10)), iv 7, rv bb, iv (own_ng (((N / 10 / 10) / 10 / 10) / 10 / 10)), iv ((((N / 10 / 10) / 10 / 10) % 100).toInt32), iv 1, iv 0] [(.int ((((N / 10 / 10) / 10 / 10) % 100).toInt32)), (.ref dT), (.int 1), (.ref bb)])) rfl rfl (hb hby d4_67) t k) ?_
  obtain ⟨cl23, Ar23, qc23, Sz23, Ng23, Hs23, Ft23⟩ := id V_bb_20
  have hin23 : ¬ ((1 : Int32) < 0 ∨ cl23.slots.size ≤ ((1 : Int32)).toNatClampNeg) := inb_of Sz23 ⟨by decide, by decide⟩
  obtain ⟨T24, h24, X24, e24, W24, st24⟩ := stB X21 hx hZ e21 Ar23 (j := (1 : Int32)) hin23 (g := (mkF m 68 #[iv (own_ng (((N / 10 / 10) / 10 / 10) / 10 / 10)), iv 7, rv bb, iv (own_ng (((N / 10 / 10) / 10 / 10) / 10 / 10)), iv ((((N / 10 / 10) / 10 / 10) % 100).toInt32), iv 1, iv 0] [(.int (own_d (((N / 10 / 10) / 10 / 10) / 10))), (.int 1), (.ref bb)])) rfl rfl (hb hby d4_68)
  have V_bb_24 : Arv Z h24 bb kb .byte (7 : Int32) [(.int 0), (.int (nar .byte (own_d (((N / 10 / 10) / 10 / 10) / 10)))), (.int (nar .byte (own_d ((N / 10 / 10) / 10 / 10)))), (.int (nar .byte (own_d ((N / 10 / 10) / 10)))), (.int (nar .byte (own_d (N / 10 / 10)))), (.int (nar .byte (own_d (N / 10)))), (.int (nar .byte (own_d N)))] (.int (0 : Int32)) := Arv.set Ar23 qc23 Sz23 Ng23 Hs23 Ft23 (fits_nar_byte _) W24 1 rfl (Nat.le_of_ble_eq_true rfl)
  have Zs24 : n0 ≤ h24.size := Nat.le_trans Zs20 (Keep.of_wr W24).1
  have N24 := Fr.snoc X24 N20 gb
  have Kp24 : Keep h0 h24 [bb] := Kp20.wr W24 (Or.inl (List.mem_of_getElem? (i := 0) rfl))
  have Ol24 := Ol20.wr W24 gb
  refine own_go (b := T24.setTop (mkF m 69 #[iv (own_ng (((N / 10 / 10) / 10 / 10) / 10 / 10)), iv 7, rv bb, iv (own_ng (((N / 10 / 10) / 10 / 10) / 10 / 10)), iv ((((N / 10 / 10) / 10 / 10) % 100).toInt32), iv 1, iv 0] [])) st24 ?_
  refine own_go (b := T24.setTop (mkF m 22 #[iv (own_ng (((N / 10 / 10) / 10 / 10) / 10 / 10)), iv 7, rv bb, iv (own_ng (((N / 10 / 10) / 10 / 10) / 10 / 10)), iv ((((N / 10 / 10) / 10 / 10) % 100).toInt32), iv 1, iv 0] [])) (fun t k => XS.goto X24.here hx rfl (pc0 := 69) (pc' := 22) rfl (hb hby d4_69) (by decide) (by decide) k) ?_
  refine own_go (b := T24.setTop (mkF m 23 #[iv (own_ng (((N / 10 / 10) / 10 / 10) / 10 / 10)), iv 7, rv bb, iv (own_ng (((N / 10 / 10) / 10 / 10) / 10 / 10)), iv ((((N / 10 / 10) / 10 / 10) % 100).toInt32), iv 1, iv 0] [(.int (own_ng (((N / 10 / 10) / 10 / 10) / 10 / 10)))])) (fun t k => XS.iloadN X24.here hx rfl (hb hby d4_22) rfl  k) ?_
  refine own_go (b := T24.setTop (mkF m 25 #[iv (own_ng (((N / 10 / 10) / 10 / 10) / 10 / 10)), iv 7, rv bb, iv (own_ng (((N / 10 / 10) / 10 / 10) / 10 / 10)), iv ((((N / 10 / 10) / 10 / 10) % 100).toInt32), iv 1, iv 0] [(.int (-100)), (.int (own_ng (((N / 10 / 10) / 10 / 10) / 10 / 10)))])) (fun t k => XS.bipush X24.here hx rfl (hb hby d4_23) k) ?_
  refine own_go (b := T24.setTop (mkF m 72 #[iv (own_ng (((N / 10 / 10) / 10 / 10) / 10 / 10)), iv 7, rv bb, iv (own_ng (((N / 10 / 10) / 10 / 10) / 10 / 10)), iv ((((N / 10 / 10) / 10 / 10) % 100).toInt32), iv 1, iv 0] [])) (fun t k => XS.icmpYes X24.here hx rfl (pc0 := 25) (pc' := 72) rfl (hb hby d4_25) rfl (tlt (own_ng_gt (m := 100) (by omega) (by decide) (by omega))).2.2.1 (by decide) (by decide) k) ?_
  refine own_go (b := T24.setTop (mkF m 73 #[iv (own_ng (((N / 10 / 10) / 10 / 10) / 10 / 10)), iv 7, rv bb, iv (own_ng (((N / 10 / 10) / 10 / 10) / 10 / 10)), iv ((((N / 10 / 10) / 10 / 10) % 100).toInt32), iv 1, iv 0] [(.ref bb)])) (fun t k => XS.aloadN X24.here hx rfl (hb hby d4_72) rfl rfl k) ?_
  refine own_go (b := T24.setTop (mkF m 76 #[iv (own_ng (((N / 10 / 10) / 10 / 10) / 10 / 10)), iv 7, rv bb, iv (own_ng (((N / 10 / 10) / 10 / 10) / 10 / 10)), iv ((((N / 10 / 10) / 10 / 10) % 100).toInt32), iv 0, iv 0] [(.ref bb)])) (fun t k => XS.iinc X24.here hx rfl (hb hby d4_73) rfl (l' := #[iv (own_ng (((N / 10 / 10) / 10 / 10) / 10 / 10)), iv 7, rv bb, iv (own_ng (((N / 10 / 10) / 10 / 10) / 10 / 10)), iv ((((N / 10 / 10) / 10 / 10) % 100).toInt32), iv 0, iv 0]) rfl k) ?_
  refine own_go (b := T24.setTop (mkF m 78 #[iv (own_ng (((N / 10 / 10) / 10 / 10) / 10 / 10)), iv 7, rv bb, iv (own_ng (((N / 10 / 10) / 10 / 10) / 10 / 10)), iv ((((N / 10 / 10) / 10 / 10) % 100).toInt32), iv 0, iv 0] [(.int 0), (.ref bb)])) (fun t k => XS.iload X24.here hx rfl (hb hby d4_76) rfl  k) ?_
  obtain ⟨T25, X25, e25, st25⟩ := getS2 X24 hx hZ hown (host := "") (Or.inl (hw _ (List.mem_of_getElem? (i := 20) rfl))) Via.refl e24 (SO.ext Ol24.2) (g := (mkF m 78 #[iv (own_ng (((N / 10 / 10) / 10 / 10) / 10 / 10)), iv 7, rv bb, iv (own_ng (((N / 10 / 10) / 10 / 10) / 10 / 10)), iv ((((N / 10 / 10) / 10 / 10) % 100).toInt32), iv 0, iv 0] [(.int 0), (.ref bb)])) rfl (hb hby d4_78)
  refine own_go (b := T25.setTop (mkF m 81 #[iv (own_ng (((N / 10 / 10) / 10 / 10) / 10 / 10)), iv 7, rv bb, iv (own_ng (((N / 10 / 10) / 10 / 10) / 10 / 10)), iv ((((N / 10 / 10) / 10 / 10) % 100).toInt32), iv 0, iv 0] [(.ref dO), (.int 0), (.ref bb)])) st25 ?_
  refine own_go (b := T25.setTop (mkF m 82 #[iv (own_ng (((N / 10 / 10) / 10 / 10) / 10 / 10)), iv 7, rv bb, iv (own_ng (((N / 10 / 10) / 10 / 10) / 10 / 10)), iv ((((N / 10 / 10) / 10 / 10) % 100).toInt32), iv 0, iv 0] [(.int (own_ng (((N / 10 / 10) / 10 / 10) / 10 / 10))), (.ref dO), (.int 0), (.ref bb)])) (fun t k => XS.iloadN X25.here hx rfl (hb hby d4_81) rfl  k) ?_
  refine own_go (b := T25.setTop (mkF m 83 #[iv (own_ng (((N / 10 / 10) / 10 / 10) / 10 / 10)), iv 7, rv bb, iv (own_ng (((N / 10 / 10) / 10 / 10) / 10 / 10)), iv ((((N / 10 / 10) / 10 / 10) % 100).toInt32), iv 0, iv 0] [(.int (-(own_ng (((N / 10 / 10) / 10 / 10) / 10 / 10)))), (.ref dO), (.int 0), (.ref bb)])) (fun t k => XS.ineg X25.here hx rfl (hb hby d4_82) rfl k) ?_
  rw [own_ng_neg]
  have hq26 := hO (((N / 10 / 10) / 10 / 10) / 10 / 10) (by omega)
  have ar26 := AO.ext Ol24.2
  refine own_go (b := T25.setTop (mkF m 84 #[iv (own_ng (((N / 10 / 10) / 10 / 10) / 10 / 10)), iv 7, rv bb, iv (own_ng (((N / 10 / 10) / 10 / 10) / 10 / 10)), iv ((((N / 10 / 10) / 10 / 10) % 100).toInt32), iv 0, iv 0] [(.int (own_d (((N / 10 / 10) / 10 / 10) / 10 / 10))), (.int 0), (.ref bb)])) (fun t k => X25.baloadBytes hx (j := ((((N / 10 / 10) / 10 / 10) / 10 / 10).toInt32)) (v := (.int (own_d (((N / 10 / 10) / 10 / 10) / 10 / 10)))) (by rw [e25]; exact ar26.1) (State.isArrayOf_alike hZ.alike ar26.2.1) ar26.2.2 hq26.1 hq26.2 (g := (mkF m 83 #[iv (own_ng (((N / 10 / 10) / 10 / 10) / 10 / 10)), iv 7, rv bb, iv (own_ng (((N / 10 / 10) / 10 / 10) / 10 / 10)), iv ((((N / 10 / 10) / 10 / 10) % 100).toInt32), iv 0, iv 0] [(.int ((((N / 10 / 10) / 10 / 10) / 10 / 10).toInt32)), (.ref dO), (.int 0), (.ref bb)])) rfl rfl (hb hby d4_83) t k) ?_
  obtain ⟨cl27, Ar27, qc27, Sz27, Ng27, Hs27, Ft27⟩ := id V_bb_24
  have hin27 : ¬ ((0 : Int32) < 0 ∨ cl27.slots.size ≤ ((0 : Int32)).toNatClampNeg) := inb_of Sz27 ⟨by decide, by decide⟩
  obtain ⟨T28, h28, X28, e28, W28, st28⟩ := stB X25 hx hZ e25 Ar27 (j := (0 : Int32)) hin27 (g := (mkF m 84 #[iv (own_ng (((N / 10 / 10) / 10 / 10) / 10 / 10)), iv 7, rv bb, iv (own_ng (((N / 10 / 10) / 10 / 10) / 10 / 10)), iv ((((N / 10 / 10) / 10 / 10) % 100).toInt32), iv 0, iv 0] [(.int (own_d (((N / 10 / 10) / 10 / 10) / 10 / 10))), (.int 0), (.ref bb)])) rfl rfl (hb hby d4_84)
  have V_bb_28 : Arv Z h28 bb kb .byte (7 : Int32) [(.int (nar .byte (own_d (((N / 10 / 10) / 10 / 10) / 10 / 10)))), (.int (nar .byte (own_d (((N / 10 / 10) / 10 / 10) / 10)))), (.int (nar .byte (own_d ((N / 10 / 10) / 10 / 10)))), (.int (nar .byte (own_d ((N / 10 / 10) / 10)))), (.int (nar .byte (own_d (N / 10 / 10)))), (.int (nar .byte (own_d (N / 10)))), (.int (nar .byte (own_d N)))] (.int (0 : Int32)) := Arv.set Ar27 qc27 Sz27 Ng27 Hs27 Ft27 (fits_nar_byte _) W28 0 rfl (Nat.le_of_ble_eq_true rfl)
  have Zs28 : n0 ≤ h28.size := Nat.le_trans Zs24 (Keep.of_wr W28).1
  have N28 := Fr.snoc X28 N24 gb
  have Kp28 : Keep h0 h28 [bb] := Kp24.wr W28 (Or.inl (List.mem_of_getElem? (i := 0) rfl))
  have Ol28 := Ol24.wr W28 gb
  refine own_go (b := T28.setTop (mkF m 85 #[iv (own_ng (((N / 10 / 10) / 10 / 10) / 10 / 10)), iv 7, rv bb, iv (own_ng (((N / 10 / 10) / 10 / 10) / 10 / 10)), iv ((((N / 10 / 10) / 10 / 10) % 100).toInt32), iv 0, iv 0] [])) st28 ?_
  refine own_go (b := T28.setTop (mkF m 86 #[iv (own_ng (((N / 10 / 10) / 10 / 10) / 10 / 10)), iv 7, rv bb, iv (own_ng (((N / 10 / 10) / 10 / 10) / 10 / 10)), iv ((((N / 10 / 10) / 10 / 10) % 100).toInt32), iv 0, iv 0] [(.int (own_ng (((N / 10 / 10) / 10 / 10) / 10 / 10)))])) (fun t k => XS.iloadN X28.here hx rfl (hb hby d4_85) rfl  k) ?_
  refine own_go (b := T28.setTop (mkF m 88 #[iv (own_ng (((N / 10 / 10) / 10 / 10) / 10 / 10)), iv 7, rv bb, iv (own_ng (((N / 10 / 10) / 10 / 10) / 10 / 10)), iv ((((N / 10 / 10) / 10 / 10) % 100).toInt32), iv 0, iv 0] [(.int (-9)), (.int (own_ng (((N / 10 / 10) / 10 / 10) / 10 / 10)))])) (fun t k => XS.bipush X28.here hx rfl (hb hby d4_86) k) ?_
  refine own_go (b := T28.setTop (mkF m 104 #[iv (own_ng (((N / 10 / 10) / 10 / 10) / 10 / 10)), iv 7, rv bb, iv (own_ng (((N / 10 / 10) / 10 / 10) / 10 / 10)), iv ((((N / 10 / 10) / 10 / 10) % 100).toInt32), iv 0, iv 0] [])) (fun t k => XS.icmpYes X28.here hx rfl (pc0 := 88) (pc' := 104) rfl (hb hby d4_88) rfl (flt (own_ng_nlt (m := 9) (by omega) (by decide) (by omega))).2.1 (by decide) (by decide) k) ?_
  refine own_go (b := T28.setTop (mkF m 106 #[iv (own_ng (((N / 10 / 10) / 10 / 10) / 10 / 10)), iv 7, rv bb, iv (own_ng (((N / 10 / 10) / 10 / 10) / 10 / 10)), iv ((((N / 10 / 10) / 10 / 10) % 100).toInt32), iv 0, iv 0] [(.int 0)])) (fun t k => XS.iload X28.here hx rfl (hb hby d4_104) rfl  k) ?_
  refine own_go (b := T28.setTop (mkF m 118 #[iv (own_ng (((N / 10 / 10) / 10 / 10) / 10 / 10)), iv 7, rv bb, iv (own_ng (((N / 10 / 10) / 10 / 10) / 10 / 10)), iv ((((N / 10 / 10) / 10 / 10) % 100).toInt32), iv 0, iv 0] [])) (fun t k => XS.ifYes X28.here hx rfl (pc0 := 106) (pc' := 118) rfl (hb hby d4_106) rfl ((if0 _ _).trans (teq (rfl : (0 : Int32) = (0 : Int32))).1) (by decide) (by decide) k) ?_
  refine own_go (b := T28.setTop (mkF m 120 #[iv (own_ng (((N / 10 / 10) / 10 / 10) / 10 / 10)), iv 7, rv bb, iv (own_ng (((N / 10 / 10) / 10 / 10) / 10 / 10)), iv ((((N / 10 / 10) / 10 / 10) % 100).toInt32), iv 0, iv 0] [(.int 0)])) (fun t k => XS.iload X28.here hx rfl (hb hby d4_118) rfl  k) ?_
  exact own_retI X28 hx hlk hrt (hb hby d4_120) (Nat.le_of_ble_eq_true rfl) (Nat.le_of_ble_eq_true rfl) (⟨rfl, N28, by rw [e28]; exact Kp28, by rw [e28]; have q := V_bb_28; simp only [own_nar] at q; exact q⟩)
theorem ef_4_8 (m : MethodId) (ct : Int32) (sz : Int32) (bb : Addr) : entryFrame m #[(.int ct), (.int sz), (.ref bb)] 7 = mkF m 0 #[iv ct, iv sz, rv bb, .unset, .unset, .unset, .unset] [] := by first | (simp [entryFrame, mkF, argsToLocals, Value.category]; done) | rfl
def Q4_8 (Z : State) (ct : Int32) (sz : Int32) (bb : Addr) (N : Nat) (kb : ClassId) (dO : Addr) (dT : Addr) (cO : Cell) (cT : Cell) (h0 : Heap) (n0 : Nat) (v : Option Value) (h : Heap) (L : List Loc) : Prop := v = some (.int 0) ∧ Fr n0 L ∧ Keep h0 h [bb] ∧ Arv Z h bb kb .byte (Int32.ofNat 8) ((own_digs N 8).map Value.int) (.int (0 : Int32))
set_option maxRecDepth 65536 in
set_option maxHeartbeats 40000000 in
theorem rm4_8 (l : Launch) (Z : State) (a0 : Array Value) (hw : ∀ d ∈ tables_1, d.before a0 Z = true) (ws : List Jvm.Cond) (ct : Int32) (sz : Int32) (bb : Addr) (N : Nat) (kb : ClassId) (dO : Addr) (dT : Addr) (cO : Cell) (cT : Cell) (h0 : Heap) (n0 : Nat) (Z0 : n0 ≤ h0.size) (hct : ct = N.toInt32) (hct1 : sz = (8 : Int32)) (hN : N < 2147483648) (hlo : 10000000 ≤ N) (hhi : N < 100000000) (SO : Sta Z Z.heap "java/lang/Integer" "DigitOnes" "[B" (.ref dO)) (ST : Sta Z Z.heap "java/lang/Integer" "DigitTens" "[B" (.ref dT)) (AO : Arr Z Z.heap dO cO .byte) (AT : Arr Z Z.heap dT cT .byte) (hO : ∀ r : Nat, r < 100 → ¬ (r.toInt32 < 0 ∨ cO.slots.size ≤ r.toInt32.toNatClampNeg) ∧ cO.slots[r.toInt32.toNatClampNeg]? = some (.int (own_d r))) (hT : ∀ r : Nat, r < 100 → ¬ (r.toInt32 < 0 ∨ cT.slots.size ≤ r.toInt32.toNatClampNeg) ∧ cT.slots[r.toInt32.toNatClampNeg]? = some (.int (own_d (r / 10)))) (Vb : Arv Z h0 bb kb .byte (8 : Int32) [.int (0 : Int32), .int (0 : Int32), .int (0 : Int32), .int (0 : Int32), .int (0 : Int32), .int (0 : Int32), .int (0 : Int32), .int (0 : Int32)] (.int (0 : Int32))) (gb : n0 ≤ bb) (Od : Old Z n0 h0) :
    MetFree l (⟨"java/lang/Integer", "getChars", "(II[B)I"⟩ : MethodName) (head1 (Jvm.Cond.code (⟨"java/lang/Integer", "getChars", "(II[B)I"⟩ : MethodName) jdk_33_method_12_code 7 (some .int) :: ws) ({ frames := 0, cells := 0, slots := 0, locals := 0 } : Room)) (fun a U => a = #[(.int ct), (.int sz), (.ref bb)] ∧ Z.Warmed39 U.vm ∧ U.heap = h0) (fun _ _ _ _ _ => True) (fun _ U o U' => ∃ v L, o = .returned v ∧ Q4_8 Z ct sz bb N kb dO dT cO cT h0 n0 v U'.heap L ∧ FrameEnd U o U' L ({ frames := 0, cells := 0, slots := 0, locals := 0 } : Room).cells ({ frames := 0, cells := 0, slots := 0, locals := 0 } : Room).slots) := by
  refine MetFree.of_bodySF (plainFor_of_name pn_0) hisR ?_
  intro p e s m args below meth c s₁ Bd hml0 hP hK
  obtain ⟨rfl, hZ, hh⟩ := hP
  have hx := Bd.exec
  have hby := Bd.bytes
  have hml : c.maxLocals = 7 := hml0
  have hown : s.vm.findClass "java/lang/Integer" = some m.cls := findClass_of_methodNamed Bd.named
  have hnm := (name_of_methodNamed Bd.named Bd.method).1
  have hlk : meth.locks = false := Bd.notSynchronized
  have hrt := Bd.returns
  have X0 : Stand p l e ({ frames := 0, cells := 0, slots := 0, locals := 0 } : Room) s m #[(.int ct), (.int sz), (.ref bb)] below meth c s₁ [] 0 0 := Stand.of_body Bd
  have e0 : s₁.heap = h0 := by rw [← hh, Bd.state]; rfl
  have N0 := Fr.nil n0
  show own_Endz p.tables e below (own_EndQ s ({ frames := 0, cells := 0, slots := 0, locals := 0 } : Room).cells ({ frames := 0, cells := 0, slots := 0, locals := 0 } : Room).slots (Q4_8 Z ct sz bb N kb dO dT cO cT h0 n0)) (s₁.setTop (entryFrame m #[(.int ct), (.int sz), (.ref bb)] 7))
  refine own_cast (ef_4_8 m ct sz bb) ?_
  subst hct
  subst hct1
  refine own_go (b := s₁.setTop (mkF m 1 #[iv (N.toInt32), iv 8, rv bb, .unset, .unset, .unset, .unset] [(.int 8)])) (fun t k => XS.iloadN X0.here hx rfl (hb hby d4_0) rfl  k) ?_
  refine own_go (b := s₁.setTop (mkF m 3 #[iv (N.toInt32), iv 8, rv bb, .unset, .unset, iv 8, .unset] [])) (fun t k => XS.istore X0.here hx rfl (hb hby d4_1) rfl (l' := #[iv (N.toInt32), iv 8, rv bb, .unset, .unset, iv 8, .unset]) rfl k) ?_
  refine own_go (b := s₁.setTop (mkF m 4 #[iv (N.toInt32), iv 8, rv bb, .unset, .unset, iv 8, .unset] [(.int (N.toInt32))])) (fun t k => XS.iloadN X0.here hx rfl (hb hby d4_3) rfl  k) ?_
  refine own_go (b := s₁.setTop (mkF m 11 #[iv (N.toInt32), iv 8, rv bb, .unset, .unset, iv 8, .unset] [])) (fun t k => XS.ifYes X0.here hx rfl (pc0 := 4) (pc' := 11) rfl (hb hby d4_4) rfl ((if0 _ _).trans (flt (own_nn hN)).2.1) (by decide) (by decide) k) ?_
  refine own_go (b := s₁.setTop (mkF m 12 #[iv (N.toInt32), iv 8, rv bb, .unset, .unset, iv 8, .unset] [(.int 0)])) (fun t k => XS.iconst X0.here hx rfl (hb hby d4_11) k) ?_
  refine own_go (b := s₁.setTop (mkF m 14 #[iv (N.toInt32), iv 8, rv bb, .unset, .unset, iv 8, iv 0] [])) (fun t k => XS.istore X0.here hx rfl (hb hby d4_12) rfl (l' := #[iv (N.toInt32), iv 8, rv bb, .unset, .unset, iv 8, iv 0]) rfl k) ?_
  refine own_go (b := s₁.setTop (mkF m 16 #[iv (N.toInt32), iv 8, rv bb, .unset, .unset, iv 8, iv 0] [(.int 0)])) (fun t k => XS.iload X0.here hx rfl (hb hby d4_14) rfl  k) ?_
  refine own_go (b := s₁.setTop (mkF m 19 #[iv (N.toInt32), iv 8, rv bb, .unset, .unset, iv 8, iv 0] [])) (fun t k => XS.ifNo X0.here hx rfl (hb hby d4_16) rfl ((if0 _ _).trans (teq (rfl : (0 : Int32) = (0 : Int32))).2) k) ?_
  refine own_go (b := s₁.setTop (mkF m 20 #[iv (N.toInt32), iv 8, rv bb, .unset, .unset, iv 8, iv 0] [(.int (N.toInt32))])) (fun t k => XS.iloadN X0.here hx rfl (hb hby d4_19) rfl  k) ?_
  refine own_go (b := s₁.setTop (mkF m 21 #[iv (N.toInt32), iv 8, rv bb, .unset, .unset, iv 8, iv 0] [(.int (-(N.toInt32)))])) (fun t k => XS.ineg X0.here hx rfl (hb hby d4_20) rfl k) ?_
  refine own_go (b := s₁.setTop (mkF m 22 #[iv (-(N.toInt32)), iv 8, rv bb, .unset, .unset, iv 8, iv 0] [])) (fun t k => XS.istoreN X0.here hx rfl (hb hby d4_21) rfl (l' := #[iv (-(N.toInt32)), iv 8, rv bb, .unset, .unset, iv 8, iv 0]) rfl k) ?_
  show own_Endz p.tables e below (own_EndQ s ({ frames := 0, cells := 0, slots := 0, locals := 0 } : Room).cells ({ frames := 0, cells := 0, slots := 0, locals := 0 } : Room).slots (Q4_8 Z ((N.toInt32)) ((8 : Int32)) bb N kb dO dT cO cT h0 n0)) (s₁.setTop (mkF m 22 #[iv (own_ng N), iv 8, rv bb, .unset, .unset, iv 8, iv 0] []))
  refine own_go (b := s₁.setTop (mkF m 23 #[iv (own_ng N), iv 8, rv bb, .unset, .unset, iv 8, iv 0] [(.int (own_ng N))])) (fun t k => XS.iloadN X0.here hx rfl (hb hby d4_22) rfl  k) ?_
  refine own_go (b := s₁.setTop (mkF m 25 #[iv (own_ng N), iv 8, rv bb, .unset, .unset, iv 8, iv 0] [(.int (-100)), (.int (own_ng N))])) (fun t k => XS.bipush X0.here hx rfl (hb hby d4_23) k) ?_
  refine own_go (b := s₁.setTop (mkF m 28 #[iv (own_ng N), iv 8, rv bb, .unset, .unset, iv 8, iv 0] [])) (fun t k => XS.icmpNo X0.here hx rfl (hb hby d4_25) rfl (flt (own_ng_ngt (m := 100) (by omega) (by decide) (by omega))).2.2.1 k) ?_
  refine own_go (b := s₁.setTop (mkF m 29 #[iv (own_ng N), iv 8, rv bb, .unset, .unset, iv 8, iv 0] [(.int (own_ng N))])) (fun t k => XS.iloadN X0.here hx rfl (hb hby d4_28) rfl  k) ?_
  refine own_go (b := s₁.setTop (mkF m 31 #[iv (own_ng N), iv 8, rv bb, .unset, .unset, iv 8, iv 0] [(.int 100), (.int (own_ng N))])) (fun t k => XS.bipush X0.here hx rfl (hb hby d4_29) k) ?_
  refine own_go (b := s₁.setTop (mkF m 32 #[iv (own_ng N), iv 8, rv bb, .unset, .unset, iv 8, iv 0] [(.int ((own_ng N) / (100 : Int32)))])) (fun t k => XS.idiv X0.here hx rfl (hb hby d4_31) rfl (by decide) k) ?_
  refine own_go (b := s₁.setTop (mkF m 33 #[iv (own_ng N), iv 8, rv bb, iv ((own_ng N) / (100 : Int32)), .unset, iv 8, iv 0] [])) (fun t k => XS.istoreN X0.here hx rfl (hb hby d4_32) rfl (l' := #[iv (own_ng N), iv 8, rv bb, iv ((own_ng N) / (100 : Int32)), .unset, iv 8, iv 0]) rfl k) ?_
  rw [own_ng_div (a := N) (by omega)]
  refine own_go (b := s₁.setTop (mkF m 34 #[iv (own_ng N), iv 8, rv bb, iv (own_ng (N / 10 / 10)), .unset, iv 8, iv 0] [(.int (own_ng (N / 10 / 10)))])) (fun t k => XS.iloadN X0.here hx rfl (hb hby d4_33) rfl  k) ?_
  refine own_go (b := s₁.setTop (mkF m 36 #[iv (own_ng N), iv 8, rv bb, iv (own_ng (N / 10 / 10)), .unset, iv 8, iv 0] [(.int 100), (.int (own_ng (N / 10 / 10)))])) (fun t k => XS.bipush X0.here hx rfl (hb hby d4_34) k) ?_
  refine own_go (b := s₁.setTop (mkF m 37 #[iv (own_ng N), iv 8, rv bb, iv (own_ng (N / 10 / 10)), .unset, iv 8, iv 0] [(.int ((own_ng (N / 10 / 10)) * (100 : Int32)))])) (fun t k => XS.imul X0.here hx rfl (hb hby d4_36) rfl k) ?_
  refine own_go (b := s₁.setTop (mkF m 38 #[iv (own_ng N), iv 8, rv bb, iv (own_ng (N / 10 / 10)), .unset, iv 8, iv 0] [(.int (own_ng N)), (.int ((own_ng (N / 10 / 10)) * (100 : Int32)))])) (fun t k => XS.iloadN X0.here hx rfl (hb hby d4_37) rfl  k) ?_
  refine own_go (b := s₁.setTop (mkF m 39 #[iv (own_ng N), iv 8, rv bb, iv (own_ng (N / 10 / 10)), .unset, iv 8, iv 0] [(.int (((own_ng (N / 10 / 10)) * (100 : Int32)) - (own_ng N)))])) (fun t k => XS.isub X0.here hx rfl (hb hby d4_38) rfl k) ?_
  refine own_go (b := s₁.setTop (mkF m 41 #[iv (own_ng N), iv 8, rv bb, iv (own_ng (N / 10 / 10)), iv (((own_ng (N / 10 / 10)) * (100 : Int32)) - (own_ng N)), iv 8, iv 0] [])) (fun t k => XS.istore X0.here hx rfl (hb hby d4_39) rfl (l' := #[iv (own_ng N), iv 8, rv bb, iv (own_ng (N / 10 / 10)), iv (((own_ng (N / 10 / 10)) * (100 : Int32)) - (own_ng N)), iv 8, iv 0]) rfl k) ?_
  rw [own_ng_rem (a := N) (by omega)]
  refine own_go (b := s₁.setTop (mkF m 42 #[iv (own_ng N), iv 8, rv bb, iv (own_ng (N / 10 / 10)), iv ((N % 100).toInt32), iv 8, iv 0] [(.int (own_ng (N / 10 / 10)))])) (fun t k => XS.iloadN X0.here hx rfl (hb hby d4_41) rfl  k) ?_
  refine own_go (b := s₁.setTop (mkF m 43 #[iv (own_ng (N / 10 / 10)), iv 8, rv bb, iv (own_ng (N / 10 / 10)), iv ((N % 100).toInt32), iv 8, iv 0] [])) (fun t k => XS.istoreN X0.here hx rfl (hb hby d4_42) rfl (l' := #[iv (own_ng (N / 10 / 10)), iv 8, rv bb, iv (own_ng (N / 10 / 10)), iv ((N % 100).toInt32), iv 8, iv 0]) rfl k) ?_
  refine own_go (b := s₁.setTop (mkF m 44 #[iv (own_ng (N / 10 / 10)), iv 8, rv bb, iv (own_ng (N / 10 / 10)), iv ((N % 100).toInt32), iv 8, iv 0] [(.ref bb)])) (fun t k => XS.aloadN X0.here hx rfl (hb hby d4_43) rfl rfl k) ?_
  refine own_go (b := s₁.setTop (mkF m 47 #[iv (own_ng (N / 10 / 10)), iv 8, rv bb, iv (own_ng (N / 10 / 10)), iv ((N % 100).toInt32), iv 7, iv 0] [(.ref bb)])) (fun t k => XS.iinc X0.here hx rfl (hb hby d4_44) rfl (l' := #[iv (own_ng (N / 10 / 10)), iv 8, rv bb, iv (own_ng (N / 10 / 10)), iv ((N % 100).toInt32), iv 7, iv 0]) rfl k) ?_
  refine own_go (b := s₁.setTop (mkF m 49 #[iv (own_ng (N / 10 / 10)), iv 8, rv bb, iv (own_ng (N / 10 / 10)), iv ((N % 100).toInt32), iv 7, iv 0] [(.int 7), (.ref bb)])) (fun t k => XS.iload X0.here hx rfl (hb hby d4_47) rfl  k) ?_
  obtain ⟨T1, X1, e1, st1⟩ := getS2 X0 hx hZ hown (host := "") (Or.inl (hw _ (List.mem_of_getElem? (i := 20) rfl))) Via.refl e0 (SO.ext Od.2) (g := (mkF m 49 #[iv (own_ng (N / 10 / 10)), iv 8, rv bb, iv (own_ng (N / 10 / 10)), iv ((N % 100).toInt32), iv 7, iv 0] [(.int 7), (.ref bb)])) rfl (hb hby d4_49)
  refine own_go (b := T1.setTop (mkF m 52 #[iv (own_ng (N / 10 / 10)), iv 8, rv bb, iv (own_ng (N / 10 / 10)), iv ((N % 100).toInt32), iv 7, iv 0] [(.ref dO), (.int 7), (.ref bb)])) st1 ?_
  refine own_go (b := T1.setTop (mkF m 54 #[iv (own_ng (N / 10 / 10)), iv 8, rv bb, iv (own_ng (N / 10 / 10)), iv ((N % 100).toInt32), iv 7, iv 0] [(.int ((N % 100).toInt32)), (.ref dO), (.int 7), (.ref bb)])) (fun t k => XS.iload X1.here hx rfl (hb hby d4_52) rfl  k) ?_
  have hq2 := hO (N % 100) (by omega)
  rw [own_d_ones] at hq2
  have ar2 := AO.ext Od.2
  refine own_go (b := T1.setTop (mkF m 55 #[iv (own_ng (N / 10 / 10)), iv 8, rv bb, iv (own_ng (N / 10 / 10)), iv ((N % 100).toInt32), iv 7, iv 0] [(.int (own_d N)), (.int 7), (.ref bb)])) (fun t k => X1.baloadBytes hx (j := ((N % 100).toInt32)) (v := (.int (own_d N))) (by rw [e1]; exact ar2.1) (State.isArrayOf_alike hZ.alike ar2.2.1) ar2.2.2 hq2.1 hq2.2 (g := (mkF m 54 #[iv (own_ng (N / 10 / 10)), iv 8, rv bb, iv (own_ng (N / 10 / 10)), iv ((N % 100).toInt32), iv 7, iv 0] [(.int ((N % 100).toInt32)), (.ref dO), (.int 7), (.ref bb)])) rfl rfl (hb hby d4_54) t k) ?_
  obtain ⟨cl3, Ar3, qc3, Sz3, Ng3, Hs3, Ft3⟩ := id Vb
  have hin3 : ¬ ((7 : Int32) < 0 ∨ cl3.slots.size ≤ ((7 : Int32)).toNatClampNeg) := inb_of Sz3 ⟨by decide, by decide⟩
  obtain ⟨T4, h4, X4, e4, W4, st4⟩ := stB X1 hx hZ e1 Ar3 (j := (7 : Int32)) hin3 (g := (mkF m 55 #[iv (own_ng (N / 10 / 10)), iv 8, rv bb, iv (own_ng (N / 10 / 10)), iv ((N % 100).toInt32), iv 7, iv 0] [(.int (own_d N)), (.int 7), (.ref bb)])) rfl rfl (hb hby d4_55)
  have V_bb_4 : Arv Z h4 bb kb .byte (8 : Int32) [(.int 0), (.int 0), (.int 0), (.int 0), (.int 0), (.int 0), (.int 0), (.int (nar .byte (own_d N)))] (.int (0 : Int32)) := Arv.set Ar3 qc3 Sz3 Ng3 Hs3 Ft3 (fits_nar_byte _) W4 7 rfl (Nat.le_of_ble_eq_true rfl)
  have Zs4 : n0 ≤ h4.size := Nat.le_trans Z0 (Keep.of_wr W4).1
  have N4 := Fr.snoc X4 N0 gb
  have Kp4 : Keep h0 h4 [bb] := (Keep.refl h0 [bb]).wr W4 (Or.inl (List.mem_of_getElem? (i := 0) rfl))
  have Ol4 := Od.wr W4 gb
  refine own_go (b := T4.setTop (mkF m 56 #[iv (own_ng (N / 10 / 10)), iv 8, rv bb, iv (own_ng (N / 10 / 10)), iv ((N % 100).toInt32), iv 7, iv 0] [])) st4 ?_
  refine own_go (b := T4.setTop (mkF m 57 #[iv (own_ng (N / 10 / 10)), iv 8, rv bb, iv (own_ng (N / 10 / 10)), iv ((N % 100).toInt32), iv 7, iv 0] [(.ref bb)])) (fun t k => XS.aloadN X4.here hx rfl (hb hby d4_56) rfl rfl k) ?_
  refine own_go (b := T4.setTop (mkF m 60 #[iv (own_ng (N / 10 / 10)), iv 8, rv bb, iv (own_ng (N / 10 / 10)), iv ((N % 100).toInt32), iv 6, iv 0] [(.ref bb)])) (fun t k => XS.iinc X4.here hx rfl (hb hby d4_57) rfl (l' := #[iv (own_ng (N / 10 / 10)), iv 8, rv bb, iv (own_ng (N / 10 / 10)), iv ((N % 100).toInt32), iv 6, iv 0]) rfl k) ?_
  refine own_go (b := T4.setTop (mkF m 62 #[iv (own_ng (N / 10 / 10)), iv 8, rv bb, iv (own_ng (N / 10 / 10)), iv ((N % 100).toInt32), iv 6, iv 0] [(.int 6), (.ref bb)])) (fun t k => XS.iload X4.here hx rfl (hb hby d4_60) rfl  k) ?_
  obtain ⟨T5, X5, e5, st5⟩ := getS2 X4 hx hZ hown (host := "") (Or.inl (hw _ (List.mem_of_getElem? (i := 126) rfl))) Via.refl e4 (ST.ext Ol4.2) (g := (mkF m 62 #[iv (own_ng (N / 10 / 10)), iv 8, rv bb, iv (own_ng (N / 10 / 10)), iv ((N % 100).toInt32), iv 6, iv 0] [(.int 6), (.ref bb)])) rfl (hb hby d4_62)
  refine own_go (b := T5.setTop (mkF m 65 #[iv (own_ng (N / 10 / 10)), iv 8, rv bb, iv (own_ng (N / 10 / 10)), iv ((N % 100).toInt32), iv 6, iv 0] [(.ref dT), (.int 6), (.ref bb)])) st5 ?_
  refine own_go (b := T5.setTop (mkF m 67 #[iv (own_ng (N / 10 / 10)), iv 8, rv bb, iv (own_ng (N / 10 / 10)), iv ((N % 100).toInt32), iv 6, iv 0] [(.int ((N % 100).toInt32)), (.ref dT), (.int 6), (.ref bb)])) (fun t k => XS.iload X5.here hx rfl (hb hby d4_65) rfl  k) ?_
  have hq6 := hT (N % 100) (by omega)
  rw [own_d_tens] at hq6
  have ar6 := AT.ext Ol4.2
  refine own_go (b := T5.setTop (mkF m 68 #[iv (own_ng (N / 10 / 10)), iv 8, rv bb, iv (own_ng (N / 10 / 10)), iv ((N % 100).toInt32), iv 6, iv 0] [(.int (own_d (N / 10))), (.int 6), (.ref bb)])) (fun t k => X5.baloadBytes hx (j := ((N % 100).toInt32)) (v := (.int (own_d (N / 10)))) (by rw [e5]; exact ar6.1) (State.isArrayOf_alike hZ.alike ar6.2.1) ar6.2.2 hq6.1 hq6.2 (g := (mkF m 67 #[iv (own_ng (N / 10 / 10)), iv 8, rv bb, iv (own_ng (N / 10 / 10)), iv ((N % 100).toInt32), iv 6, iv 0] [(.int ((N % 100).toInt32)), (.ref dT), (.int 6), (.ref bb)])) rfl rfl (hb hby d4_67) t k) ?_
  obtain ⟨cl7, Ar7, qc7, Sz7, Ng7, Hs7, Ft7⟩ := id V_bb_4
  have hin7 : ¬ ((6 : Int32) < 0 ∨ cl7.slots.size ≤ ((6 : Int32)).toNatClampNeg) := inb_of Sz7 ⟨by decide, by decide⟩
  obtain ⟨T8, h8, X8, e8, W8, st8⟩ := stB X5 hx hZ e5 Ar7 (j := (6 : Int32)) hin7 (g := (mkF m 68 #[iv (own_ng (N / 10 / 10)), iv 8, rv bb, iv (own_ng (N / 10 / 10)), iv ((N % 100).toInt32), iv 6, iv 0] [(.int (own_d (N / 10))), (.int 6), (.ref bb)])) rfl rfl (hb hby d4_68)
  have V_bb_8 : Arv Z h8 bb kb .byte (8 : Int32) [(.int 0), (.int 0), (.int 0), (.int 0), (.int 0), (.int 0), (.int (nar .byte (own_d (N / 10)))), (.int (nar .byte (own_d N)))] (.int (0 : Int32)) := Arv.set Ar7 qc7 Sz7 Ng7 Hs7 Ft7 (fits_nar_byte _) W8 6 rfl (Nat.le_of_ble_eq_true rfl)
  have Zs8 : n0 ≤ h8.size := Nat.le_trans Zs4 (Keep.of_wr W8).1
  have N8 := Fr.snoc X8 N4 gb
  have Kp8 : Keep h0 h8 [bb] := Kp4.wr W8 (Or.inl (List.mem_of_getElem? (i := 0) rfl))
  have Ol8 := Ol4.wr W8 gb
  refine own_go (b := T8.setTop (mkF m 69 #[iv (own_ng (N / 10 / 10)), iv 8, rv bb, iv (own_ng (N / 10 / 10)), iv ((N % 100).toInt32), iv 6, iv 0] [])) st8 ?_
  refine own_go (b := T8.setTop (mkF m 22 #[iv (own_ng (N / 10 / 10)), iv 8, rv bb, iv (own_ng (N / 10 / 10)), iv ((N % 100).toInt32), iv 6, iv 0] [])) (fun t k => XS.goto X8.here hx rfl (pc0 := 69) (pc' := 22) rfl (hb hby d4_69) (by decide) (by decide) k) ?_
  refine own_go (b := T8.setTop (mkF m 23 #[iv (own_ng (N / 10 / 10)), iv 8, rv bb, iv (own_ng (N / 10 / 10)), iv ((N % 100).toInt32), iv 6, iv 0] [(.int (own_ng (N / 10 / 10)))])) (fun t k => XS.iloadN X8.here hx rfl (hb hby d4_22) rfl  k) ?_
  refine own_go (b := T8.setTop (mkF m 25 #[iv (own_ng (N / 10 / 10)), iv 8, rv bb, iv (own_ng (N / 10 / 10)), iv ((N % 100).toInt32), iv 6, iv 0] [(.int (-100)), (.int (own_ng (N / 10 / 10)))])) (fun t k => XS.bipush X8.here hx rfl (hb hby d4_23) k) ?_
  refine own_go (b := T8.setTop (mkF m 28 #[iv (own_ng (N / 10 / 10)), iv 8, rv bb, iv (own_ng (N / 10 / 10)), iv ((N % 100).toInt32), iv 6, iv 0] [])) (fun t k => XS.icmpNo X8.here hx rfl (hb hby d4_25) rfl (flt (own_ng_ngt (m := 100) (by omega) (by decide) (by omega))).2.2.1 k) ?_
  refine own_go (b := T8.setTop (mkF m 29 #[iv (own_ng (N / 10 / 10)), iv 8, rv bb, iv (own_ng (N / 10 / 10)), iv ((N % 100).toInt32), iv 6, iv 0] [(.int (own_ng (N / 10 / 10)))])) (fun t k => XS.iloadN X8.here hx rfl (hb hby d4_28) rfl  k) ?_
  refine own_go (b := T8.setTop (mkF m 31 #[iv (own_ng (N / 10 / 10)), iv 8, rv bb, iv (own_ng (N / 10 / 10)), iv ((N % 100).toInt32), iv 6, iv 0] [(.int 100), (.int (own_ng (N / 10 / 10)))])) (fun t k => XS.bipush X8.here hx rfl (hb hby d4_29) k) ?_
  refine own_go (b := T8.setTop (mkF m 32 #[iv (own_ng (N / 10 / 10)), iv 8, rv bb, iv (own_ng (N / 10 / 10)), iv ((N % 100).toInt32), iv 6, iv 0] [(.int ((own_ng (N / 10 / 10)) / (100 : Int32)))])) (fun t k => XS.idiv X8.here hx rfl (hb hby d4_31) rfl (by decide) k) ?_
  refine own_go (b := T8.setTop (mkF m 33 #[iv (own_ng (N / 10 / 10)), iv 8, rv bb, iv ((own_ng (N / 10 / 10)) / (100 : Int32)), iv ((N % 100).toInt32), iv 6, iv 0] [])) (fun t k => XS.istoreN X8.here hx rfl (hb hby d4_32) rfl (l' := #[iv (own_ng (N / 10 / 10)), iv 8, rv bb, iv ((own_ng (N / 10 / 10)) / (100 : Int32)), iv ((N % 100).toInt32), iv 6, iv 0]) rfl k) ?_
  rw [own_ng_div (a := (N / 10 / 10)) (by omega)]
  refine own_go (b := T8.setTop (mkF m 34 #[iv (own_ng (N / 10 / 10)), iv 8, rv bb, iv (own_ng ((N / 10 / 10) / 10 / 10)), iv ((N % 100).toInt32), iv 6, iv 0] [(.int (own_ng ((N / 10 / 10) / 10 / 10)))])) (fun t k => XS.iloadN X8.here hx rfl (hb hby d4_33) rfl  k) ?_
  refine own_go (b := T8.setTop (mkF m 36 #[iv (own_ng (N / 10 / 10)), iv 8, rv bb, iv (own_ng ((N / 10 / 10) / 10 / 10)), iv ((N % 100).toInt32), iv 6, iv 0] [(.int 100), (.int (own_ng ((N / 10 / 10) / 10 / 10)))])) (fun t k => XS.bipush X8.here hx rfl (hb hby d4_34) k) ?_
  refine own_go (b := T8.setTop (mkF m 37 #[iv (own_ng (N / 10 / 10)), iv 8, rv bb, iv (own_ng ((N / 10 / 10) / 10 / 10)), iv ((N % 100).toInt32), iv 6, iv 0] [(.int ((own_ng ((N / 10 / 10) / 10 / 10)) * (100 : Int32)))])) (fun t k => XS.imul X8.here hx rfl (hb hby d4_36) rfl k) ?_
  refine own_go (b := T8.setTop (mkF m 38 #[iv (own_ng (N / 10 / 10)), iv 8, rv bb, iv (own_ng ((N / 10 / 10) / 10 / 10)), iv ((N % 100).toInt32), iv 6, iv 0] [(.int (own_ng (N / 10 / 10))), (.int ((own_ng ((N / 10 / 10) / 10 / 10)) * (100 : Int32)))])) (fun t k => XS.iloadN X8.here hx rfl (hb hby d4_37) rfl  k) ?_
  refine own_go (b := T8.setTop (mkF m 39 #[iv (own_ng (N / 10 / 10)), iv 8, rv bb, iv (own_ng ((N / 10 / 10) / 10 / 10)), iv ((N % 100).toInt32), iv 6, iv 0] [(.int (((own_ng ((N / 10 / 10) / 10 / 10)) * (100 : Int32)) - (own_ng (N / 10 / 10))))])) (fun t k => XS.isub X8.here hx rfl (hb hby d4_38) rfl k) ?_
  refine own_go (b := T8.setTop (mkF m 41 #[iv (own_ng (N / 10 / 10)), iv 8, rv bb, iv (own_ng ((N / 10 / 10) / 10 / 10)), iv (((own_ng ((N / 10 / 10) / 10 / 10)) * (100 : Int32)) - (own_ng (N / 10 / 10))), iv 6, iv 0] [])) (fun t k => XS.istore X8.here hx rfl (hb hby d4_39) rfl (l' := #[iv (own_ng (N / 10 / 10)), iv 8, rv bb, iv (own_ng ((N / 10 / 10) / 10 / 10)), iv (((own_ng ((N / 10 / 10) / 10 / 10)) * (100 : Int32)) - (own_ng (N / 10 / 10))), iv 6, iv 0]) rfl k) ?_
  rw [own_ng_rem (a := (N / 10 / 10)) (by omega)]
  refine own_go (b := T8.setTop (mkF m 42 #[iv (own_ng (N / 10 / 10)), iv 8, rv bb, iv (own_ng ((N / 10 / 10) / 10 / 10)), iv (((N / 10 / 10) % 100).toInt32), iv 6, iv 0] [(.int (own_ng ((N / 10 / 10) / 10 / 10)))])) (fun t k => XS.iloadN X8.here hx rfl (hb hby d4_41) rfl  k) ?_
  refine own_go (b := T8.setTop (mkF m 43 #[iv (own_ng ((N / 10 / 10) / 10 / 10)), iv 8, rv bb, iv (own_ng ((N / 10 / 10) / 10 / 10)), iv (((N / 10 / 10) % 100).toInt32), iv 6, iv 0] [])) (fun t k => XS.istoreN X8.here hx rfl (hb hby d4_42) rfl (l' := #[iv (own_ng ((N / 10 / 10) / 10 / 10)), iv 8, rv bb, iv (own_ng ((N / 10 / 10) / 10 / 10)), iv (((N / 10 / 10) % 100).toInt32), iv 6, iv 0]) rfl k) ?_
  refine own_go (b := T8.setTop (mkF m 44 #[iv (own_ng ((N / 10 / 10) / 10 / 10)), iv 8, rv bb, iv (own_ng ((N / 10 / 10) / 10 / 10)), iv (((N / 10 / 10) % 100).toInt32), iv 6, iv 0] [(.ref bb)])) (fun t k => XS.aloadN X8.here hx rfl (hb hby d4_43) rfl rfl k) ?_
  refine own_go (b := T8.setTop (mkF m 47 #[iv (own_ng ((N / 10 / 10) / 10 / 10)), iv 8, rv bb, iv (own_ng ((N / 10 / 10) / 10 / 10)), iv (((N / 10 / 10) % 100).toInt32), iv 5, iv 0] [(.ref bb)])) (fun t k => XS.iinc X8.here hx rfl (hb hby d4_44) rfl (l' := #[iv (own_ng ((N / 10 / 10) / 10 / 10)), iv 8, rv bb, iv (own_ng ((N / 10 / 10) / 10 / 10)), iv (((N / 10 / 10) % 100).toInt32), iv 5, iv 0]) rfl k) ?_
  refine own_go (b := T8.setTop (mkF m 49 #[iv (own_ng ((N / 10 / 10) / 10 / 10)), iv 8, rv bb, iv (own_ng ((N / 10 / 10) / 10 / 10)), iv (((N / 10 / 10) % 100).toInt32), iv 5, iv 0] [(.int 5), (.ref bb)])) (fun t k => XS.iload X8.here hx rfl (hb hby d4_47) rfl  k) ?_
  obtain ⟨T9, X9, e9, st9⟩ := getS2 X8 hx hZ hown (host := "") (Or.inl (hw _ (List.mem_of_getElem? (i := 20) rfl))) Via.refl e8 (SO.ext Ol8.2) (g := (mkF m 49 #[iv (own_ng ((N / 10 / 10) / 10 / 10)), iv 8, rv bb, iv (own_ng ((N / 10 / 10) / 10 / 10)), iv (((N / 10 / 10) % 100).toInt32), iv 5, iv 0] [(.int 5), (.ref bb)])) rfl (hb hby d4_49)
  refine own_go (b := T9.setTop (mkF m 52 #[iv (own_ng ((N / 10 / 10) / 10 / 10)), iv 8, rv bb, iv (own_ng ((N / 10 / 10) / 10 / 10)), iv (((N / 10 / 10) % 100).toInt32), iv 5, iv 0] [(.ref dO), (.int 5), (.ref bb)])) st9 ?_
  refine own_go (b := T9.setTop (mkF m 54 #[iv (own_ng ((N / 10 / 10) / 10 / 10)), iv 8, rv bb, iv (own_ng ((N / 10 / 10) / 10 / 10)), iv (((N / 10 / 10) % 100).toInt32), iv 5, iv 0] [(.int (((N / 10 / 10) % 100).toInt32)), (.ref dO), (.int 5), (.ref bb)])) (fun t k => XS.iload X9.here hx rfl (hb hby d4_52) rfl  k) ?_
  have hq10 := hO ((N / 10 / 10) % 100) (by omega)
  rw [own_d_ones] at hq10
  have ar10 := AO.ext Ol8.2
  refine own_go (b := T9.setTop (mkF m 55 #[iv (own_ng ((N / 10 / 10) / 10 / 10)), iv 8, rv bb, iv (own_ng ((N / 10 / 10) / 10 / 10)), iv (((N / 10 / 10) % 100).toInt32), iv 5, iv 0] [(.int (own_d (N / 10 / 10))), (.int 5), (.ref bb)])) (fun t k => X9.baloadBytes hx (j := (((N / 10 / 10) % 100).toInt32)) (v := (.int (own_d (N / 10 / 10)))) (by rw [e9]; exact ar10.1) (State.isArrayOf_alike hZ.alike ar10.2.1) ar10.2.2 hq10.1 hq10.2 (g := (mkF m 54 #[iv (own_ng ((N / 10 / 10) / 10 / 10)), iv 8, rv bb, iv (own_ng ((N / 10 / 10) / 10 / 10)), iv (((N / 10 / 10) % 100).toInt32), iv 5, iv 0] [(.int (((N / 10 / 10) % 100).toInt32)), (.ref dO), (.int 5), (.ref bb)])) rfl rfl (hb hby d4_54) t k) ?_
  obtain ⟨cl11, Ar11, qc11, Sz11, Ng11, Hs11, Ft11⟩ := id V_bb_8
  have hin11 : ¬ ((5 : Int32) < 0 ∨ cl11.slots.size ≤ ((5 : Int32)).toNatClampNeg) := inb_of Sz11 ⟨by decide, by decide⟩
  obtain ⟨T12, h12, X12, e12, W12, st12⟩ := stB X9 hx hZ e9 Ar11 (j := (5 : Int32)) hin11 (g := (mkF m 55 #[iv (own_ng ((N / 10 / 10) / 10 / 10)), iv 8, rv bb, iv (own_ng ((N / 10 / 10) / 10 / 10)), iv (((N / 10 / 10) % 100).toInt32), iv 5, iv 0] [(.int (own_d (N / 10 / 10))), (.int 5), (.ref bb)])) rfl rfl (hb hby d4_55)
  have V_bb_12 : Arv Z h12 bb kb .byte (8 : Int32) [(.int 0), (.int 0), (.int 0), (.int 0), (.int 0), (.int (nar .byte (own_d (N / 10 / 10)))), (.int (nar .byte (own_d (N / 10)))), (.int (nar .byte (own_d N)))] (.int (0 : Int32)) := Arv.set Ar11 qc11 Sz11 Ng11 Hs11 Ft11 (fits_nar_byte _) W12 5 rfl (Nat.le_of_ble_eq_true rfl)
  have Zs12 : n0 ≤ h12.size := Nat.le_trans Zs8 (Keep.of_wr W12).1
  have N12 := Fr.snoc X12 N8 gb
  have Kp12 : Keep h0 h12 [bb] := Kp8.wr W12 (Or.inl (List.mem_of_getElem? (i := 0) rfl))
  have Ol12 := Ol8.wr W12 gb
  refine own_go (b := T12.setTop (mkF m 56 #[iv (own_ng ((N / 10 / 10) / 10 / 10)), iv 8, rv bb, iv (own_ng ((N / 10 / 10) / 10 / 10)), iv (((N / 10 / 10) % 100).toInt32), iv 5, iv 0] [])) st12 ?_
  refine own_go (b := T12.setTop (mkF m 57 #[iv (own_ng ((N / 10 / 10) / 10 / 10)), iv 8, rv bb, iv (own_ng ((N / 10 / 10) / 10 / 10)), iv (((N / 10 / 10) % 100).toInt32), iv 5, iv 0] [(.ref bb)])) (fun t k => XS.aloadN X12.here hx rfl (hb hby d4_56) rfl rfl k) ?_
  refine own_go (b := T12.setTop (mkF m 60 #[iv (own_ng ((N / 10 / 10) / 10 / 10)), iv 8, rv bb, iv (own_ng ((N / 10 / 10) / 10 / 10)), iv (((N / 10 / 10) % 100).toInt32), iv 4, iv 0] [(.ref bb)])) (fun t k => XS.iinc X12.here hx rfl (hb hby d4_57) rfl (l' := #[iv (own_ng ((N / 10 / 10) / 10 / 10)), iv 8, rv bb, iv (own_ng ((N / 10 / 10) / 10 / 10)), iv (((N / 10 / 10) % 100).toInt32), iv 4, iv 0]) rfl k) ?_
  refine own_go (b := T12.setTop (mkF m 62 #[iv (own_ng ((N / 10 / 10) / 10 / 10)), iv 8, rv bb, iv (own_ng ((N / 10 / 10) / 10 / 10)), iv (((N / 10 / 10) % 100).toInt32), iv 4, iv 0] [(.int 4), (.ref bb)])) (fun t k => XS.iload X12.here hx rfl (hb hby d4_60) rfl  k) ?_
  obtain ⟨T13, X13, e13, st13⟩ := getS2 X12 hx hZ hown (host := "") (Or.inl (hw _ (List.mem_of_getElem? (i := 126) rfl))) Via.refl e12 (ST.ext Ol12.2) (g := (mkF m 62 #[iv (own_ng ((N / 10 / 10) / 10 / 10)), iv 8, rv bb, iv (own_ng ((N / 10 / 10) / 10 / 10)), iv (((N / 10 / 10) % 100).toInt32), iv 4, iv 0] [(.int 4), (.ref bb)])) rfl (hb hby d4_62)
  refine own_go (b := T13.setTop (mkF m 65 #[iv (own_ng ((N / 10 / 10) / 10 / 10)), iv 8, rv bb, iv (own_ng ((N / 10 / 10) / 10 / 10)), iv (((N / 10 / 10) % 100).toInt32), iv 4, iv 0] [(.ref dT), (.int 4), (.ref bb)])) st13 ?_
  refine own_go (b := T13.setTop (mkF m 67 #[iv (own_ng ((N / 10 / 10) / 10 / 10)), iv 8, rv bb, iv (own_ng ((N / 10 / 10) / 10 / 10)), iv (((N / 10 / 10) % 100).toInt32), iv 4, iv 0] [(.int (((N / 10 / 10) % 100).toInt32)), (.ref dT), (.int 4), (.ref bb)])) (fun t k => XS.iload X13.here hx rfl (hb hby d4_65) rfl  k) ?_
  have hq14 := hT ((N / 10 / 10) % 100) (by omega)
  rw [own_d_tens] at hq14
  have ar14 := AT.ext Ol12.2
  refine own_go (b := T13.setTop (mkF m 68 #[iv (own_ng ((N / 10 / 10) / 10 / 10)), iv 8, rv bb, iv (own_ng ((N / 10 / 10) / 10 / 10)), iv (((N / 10 / 10) % 100).toInt32), iv 4, iv 0] [(.int (own_d ((N / 10 / 10) / 10))), (.int 4), (.ref bb)])) (fun t k => X13.baloadBytes hx (j := (((N / 10 / 10) % 100).toInt32)) (v := (.int (own_d ((N / 10 / 10) / 10)))) (by rw [e13]; exact ar14.1) (State.isArrayOf_alike hZ.alike ar14.2.1) ar14.2.2 hq14.1 hq14.2 (g := (mkF m 67 #[iv (own_ng ((N / 10 / 10) / 10 / 10)), iv 8, rv bb, iv (own_ng ((N / 10 / 10) / 10 / 10)), iv (((N / 10 / 10) % 100).toInt32), iv 4, iv 0] [(.int (((N / 10 / 10) % 100).toInt32)), (.ref dT), (.int 4), (.ref bb)])) rfl rfl (hb hby d4_67) t k) ?_
  obtain ⟨cl15, Ar15, qc15, Sz15, Ng15, Hs15, Ft15⟩ := id V_bb_12
  have hin15 : ¬ ((4 : Int32) < 0 ∨ cl15.slots.size ≤ ((4 : Int32)).toNatClampNeg) := inb_of Sz15 ⟨by decide, by decide⟩
  obtain ⟨T16, h16, X16, e16, W16, st16⟩ := stB X13 hx hZ e13 Ar15 (j := (4 : Int32)) hin15 (g := (mkF m 68 #[iv (own_ng ((N / 10 / 10) / 10 / 10)), iv 8, rv bb, iv (own_ng ((N / 10 / 10) / 10 / 10)), iv (((N / 10 / 10) % 100).toInt32), iv 4, iv 0] [(.int (own_d ((N / 10 / 10) / 10))), (.int 4), (.ref bb)])) rfl rfl (hb hby d4_68)
  have V_bb_16 : Arv Z h16 bb kb .byte (8 : Int32) [(.int 0), (.int 0), (.int 0), (.int 0), (.int (nar .byte (own_d ((N / 10 / 10) / 10)))), (.int (nar .byte (own_d (N / 10 / 10)))), (.int (nar .byte (own_d (N / 10)))), (.int (nar .byte (own_d N)))] (.int (0 : Int32)) := Arv.set Ar15 qc15 Sz15 Ng15 Hs15 Ft15 (fits_nar_byte _) W16 4 rfl (Nat.le_of_ble_eq_true rfl)
  have Zs16 : n0 ≤ h16.size := Nat.le_trans Zs12 (Keep.of_wr W16).1
  have N16 := Fr.snoc X16 N12 gb
  have Kp16 : Keep h0 h16 [bb] := Kp12.wr W16 (Or.inl (List.mem_of_getElem? (i := 0) rfl))
  have Ol16 := Ol12.wr W16 gb
  refine own_go (b := T16.setTop (mkF m 69 #[iv (own_ng ((N / 10 / 10) / 10 / 10)), iv 8, rv bb, iv (own_ng ((N / 10 / 10) / 10 / 10)), iv (((N / 10 / 10) % 100).toInt32), iv 4, iv 0] [])) st16 ?_
  refine own_go (b := T16.setTop (mkF m 22 #[iv (own_ng ((N / 10 / 10) / 10 / 10)), iv 8, rv bb, iv (own_ng ((N / 10 / 10) / 10 / 10)), iv (((N / 10 / 10) % 100).toInt32), iv 4, iv 0] [])) (fun t k => XS.goto X16.here hx rfl (pc0 := 69) (pc' := 22) rfl (hb hby d4_69) (by decide) (by decide) k) ?_
  refine own_go (b := T16.setTop (mkF m 23 #[iv (own_ng ((N / 10 / 10) / 10 / 10)), iv 8, rv bb, iv (own_ng ((N / 10 / 10) / 10 / 10)), iv (((N / 10 / 10) % 100).toInt32), iv 4, iv 0] [(.int (own_ng ((N / 10 / 10) / 10 / 10)))])) (fun t k => XS.iloadN X16.here hx rfl (hb hby d4_22) rfl  k) ?_
  refine own_go (b := T16.setTop (mkF m 25 #[iv (own_ng ((N / 10 / 10) / 10 / 10)), iv 8, rv bb, iv (own_ng ((N / 10 / 10) / 10 / 10)), iv (((N / 10 / 10) % 100).toInt32), iv 4, iv 0] [(.int (-100)), (.int (own_ng ((N / 10 / 10) / 10 / 10)))])) (fun t k => XS.bipush X16.here hx rfl (hb hby d4_23) k) ?_
  refine own_go (b := T16.setTop (mkF m 28 #[iv (own_ng ((N / 10 / 10) / 10 / 10)), iv 8, rv bb, iv (own_ng ((N / 10 / 10) / 10 / 10)), iv (((N / 10 / 10) % 100).toInt32), iv 4, iv 0] [])) (fun t k => XS.icmpNo X16.here hx rfl (hb hby d4_25) rfl (flt (own_ng_ngt (m := 100) (by omega) (by decide) (by omega))).2.2.1 k) ?_
  refine own_go (b := T16.setTop (mkF m 29 #[iv (own_ng ((N / 10 / 10) / 10 / 10)), iv 8, rv bb, iv (own_ng ((N / 10 / 10) / 10 / 10)), iv (((N / 10 / 10) % 100).toInt32), iv 4, iv 0] [(.int (own_ng ((N / 10 / 10) / 10 / 10)))])) (fun t k => XS.iloadN X16.here hx rfl (hb hby d4_28) rfl  k) ?_
  refine own_go (b := T16.setTop (mkF m 31 #[iv (own_ng ((N / 10 / 10) / 10 / 10)), iv 8, rv bb, iv (own_ng ((N / 10 / 10) / 10 / 10)), iv (((N / 10 / 10) % 100).toInt32), iv 4, iv 0] [(.int 100), (.int (own_ng ((N / 10 / 10) / 10 / 10)))])) (fun t k => XS.bipush X16.here hx rfl (hb hby d4_29) k) ?_
  refine own_go (b := T16.setTop (mkF m 32 #[iv (own_ng ((N / 10 / 10) / 10 / 10)), iv 8, rv bb, iv (own_ng ((N / 10 / 10) / 10 / 10)), iv (((N / 10 / 10) % 100).toInt32), iv 4, iv 0] [(.int ((own_ng ((N / 10 / 10) / 10 / 10)) / (100 : Int32)))])) (fun t k => XS.idiv X16.here hx rfl (hb hby d4_31) rfl (by decide) k) ?_
  refine own_go (b := T16.setTop (mkF m 33 #[iv (own_ng ((N / 10 / 10) / 10 / 10)), iv 8, rv bb, iv ((own_ng ((N / 10 / 10) / 10 / 10)) / (100 : Int32)), iv (((N / 10 / 10) % 100).toInt32), iv 4, iv 0] [])) (fun t k => XS.istoreN X16.here hx rfl (hb hby d4_32) rfl (l' := #[iv (own_ng ((N / 10 / 10) / 10 / 10)), iv 8, rv bb, iv ((own_ng ((N / 10 / 10) / 10 / 10)) / (100 : Int32)), iv (((N / 10 / 10) % 100).toInt32), iv 4, iv 0]) rfl k) ?_
  rw [own_ng_div (a := ((N / 10 / 10) / 10 / 10)) (by omega)]
  refine own_go (b := T16.setTop (mkF m 34 #[iv (own_ng ((N / 10 / 10) / 10 / 10)), iv 8, rv bb, iv (own_ng (((N / 10 / 10) / 10 / 10) / 10 / 10)), iv (((N / 10 / 10) % 100).toInt32), iv 4, iv 0] [(.int (own_ng (((N / 10 / 10) / 10 / 10) / 10 / 10)))])) (fun t k => XS.iloadN X16.here hx rfl (hb hby d4_33) rfl  k) ?_
  refine own_go (b := T16.setTop (mkF m 36 #[iv (own_ng ((N / 10 / 10) / 10 / 10)), iv 8, rv bb, iv (own_ng (((N / 10 / 10) / 10 / 10) / 10 / 10)), iv (((N / 10 / 10) % 100).toInt32), iv 4, iv 0] [(.int 100), (.int (own_ng (((N / 10 / 10) / 10 / 10) / 10 / 10)))])) (fun t k => XS.bipush X16.here hx rfl (hb hby d4_34) k) ?_
  refine own_go (b := T16.setTop (mkF m 37 #[iv (own_ng ((N / 10 / 10) / 10 / 10)), iv 8, rv bb, iv (own_ng (((N / 10 / 10) / 10 / 10) / 10 / 10)), iv (((N / 10 / 10) % 100).toInt32), iv 4, iv 0] [(.int ((own_ng (((N / 10 / 10) / 10 / 10) / 10 / 10)) * (100 : Int32)))])) (fun t k => XS.imul X16.here hx rfl (hb hby d4_36) rfl k) ?_
  refine own_go (b := T16.setTop (mkF m 38 #[iv (own_ng ((N / 10 / 10) / 10 / 10)), iv 8, rv bb, iv (own_ng (((N / 10 / 10) / 10 / 10) / 10 / 10)), iv (((N / 10 / 10) % 100).toInt32), iv 4, iv 0] [(.int (own_ng ((N / 10 / 10) / 10 / 10))), (.int ((own_ng (((N / 10 / 10) / 10 / 10) / 10 / 10)) * (100 : Int32)))])) (fun t k => XS.iloadN X16.here hx rfl (hb hby d4_37) rfl  k) ?_
  refine own_go (b := T16.setTop (mkF m 39 #[iv (own_ng ((N / 10 / 10) / 10 / 10)), iv 8, rv bb, iv (own_ng (((N / 10 / 10) / 10 / 10) / 10 / 10)), iv (((N / 10 / 10) % 100).toInt32), iv 4, iv 0] [(.int (((own_ng (((N / 10 / 10) / 10 / 10) / 10 / 10)) * (100 : Int32)) - (own_ng ((N / 10 / 10) / 10 / 10))))])) (fun t k => XS.isub X16.here hx rfl (hb hby d4_38) rfl k) ?_
  refine own_go (b := T16.setTop (mkF m 41 #[iv (own_ng ((N / 10 / 10) / 10 / 10)), iv 8, rv bb, iv (own_ng (((N / 10 / 10) / 10 / 10) / 10 / 10)), iv (((own_ng (((N / 10 / 10) / 10 / 10) / 10 / 10)) * (100 : Int32)) - (own_ng ((N / 10 / 10) / 10 / 10))), iv 4, iv 0] [])) (fun t k => XS.istore X16.here hx rfl (hb hby d4_39) rfl (l' := #[iv (own_ng ((N / 10 / 10) / 10 / 10)), iv 8, rv bb, iv (own_ng (((N / 10 / 10) / 10 / 10) / 10 / 10)), iv (((own_ng (((N / 10 / 10) / 10 / 10) / 10 / 10)) * (100 : Int32)) - (own_ng ((N / 10 / 10) / 10 / 10))), iv 4, iv 0]) rfl k) ?_
  rw [own_ng_rem (a := ((N / 10 / 10) / 10 / 10)) (by omega)]
  refine own_go (b := T16.setTop (mkF m 42 #[iv (own_ng ((N / 10 / 10) / 10 / 10)), iv 8, rv bb, iv (own_ng (((N / 10 / 10) / 10 / 10) / 10 / 10)), iv ((((N / 10 / 10) / 10 / 10) % 100).toInt32), iv 4, iv 0] [(.int (own_ng (((N / 10 / 10) / 10 / 10) / 10 / 10)))])) (fun t k => XS.iloadN X16.here hx rfl (hb hby d4_41) rfl  k) ?_
  refine own_go (b := T16.setTop (mkF m 43 #[iv (own_ng (((N / 10 / 10) / 10 / 10) / 10 / 10)), iv 8, rv bb, iv (own_ng (((N / 10 / 10) / 10 / 10) / 10 / 10)), iv ((((N / 10 / 10) / 10 / 10) % 100).toInt32), iv 4, iv 0] [])) (fun t k => XS.istoreN X16.here hx rfl (hb hby d4_42) rfl (l' := #[iv (own_ng (((N / 10 / 10) / 10 / 10) / 10 / 10)), iv 8, rv bb, iv (own_ng (((N / 10 / 10) / 10 / 10) / 10 / 10)), iv ((((N / 10 / 10) / 10 / 10) % 100).toInt32), iv 4, iv 0]) rfl k) ?_
  refine own_go (b := T16.setTop (mkF m 44 #[iv (own_ng (((N / 10 / 10) / 10 / 10) / 10 / 10)), iv 8, rv bb, iv (own_ng (((N / 10 / 10) / 10 / 10) / 10 / 10)), iv ((((N / 10 / 10) / 10 / 10) % 100).toInt32), iv 4, iv 0] [(.ref bb)])) (fun t k => XS.aloadN X16.here hx rfl (hb hby d4_43) rfl rfl k) ?_
  refine own_go (b := T16.setTop (mkF m 47 #[iv (own_ng (((N / 10 / 10) / 10 / 10) / 10 / 10)), iv 8, rv bb, iv (own_ng (((N / 10 / 10) / 10 / 10) / 10 / 10)), iv ((((N / 10 / 10) / 10 / 10) % 100).toInt32), iv 3, iv 0] [(.ref bb)])) (fun t k => XS.iinc X16.here hx rfl (hb hby d4_44) rfl (l' := #[iv (own_ng (((N / 10 / 10) / 10 / 10) / 10 / 10)), iv 8, rv bb, iv (own_ng (((N / 10 / 10) / 10 / 10) / 10 / 10)), iv ((((N / 10 / 10) / 10 / 10) % 100).toInt32), iv 3, iv 0]) rfl k) ?_
  refine own_go (b := T16.setTop (mkF m 49 #[iv (own_ng (((N / 10 / 10) / 10 / 10) / 10 / 10)), iv 8, rv bb, iv (own_ng (((N / 10 / 10) / 10 / 10) / 10 / 10)), iv ((((N / 10 / 10) / 10 / 10) % 100).toInt32), iv 3, iv 0] [(.int 3), (.ref bb)])) (fun t k => XS.iload X16.here hx rfl (hb hby d4_47) rfl  k) ?_
  obtain ⟨T17, X17, e17, st17⟩ := getS2 X16 hx hZ hown (host := "") (Or.inl (hw _ (List.mem_of_getElem? (i := 20) rfl))) Via.refl e16 (SO.ext Ol16.2) (g := (mkF m 49 #[iv (own_ng (((N / 10 / 10) / 10 / 10) / 10 / 10)), iv 8, rv bb, iv (own_ng (((N / 10 / 10) / 10 / 10) / 10 / 10)), iv ((((N / 10 / 10) / 10 / 10) % 100).toInt32), iv 3, iv 0] [(.int 3), (.ref bb)])) rfl (hb hby d4_49)
  refine own_go (b := T17.setTop (mkF m 52 #[iv (own_ng (((N / 10 / 10) / 10 / 10) / 10 / 10)), iv 8, rv bb, iv (own_ng (((N / 10 / 10) / 10 / 10) / 10 / 10)), iv ((((N / 10 / 10) / 10 / 10) % 100).toInt32), iv 3, iv 0] [(.ref dO), (.int 3), (.ref bb)])) st17 ?_
  refine own_go (b := T17.setTop (mkF m 54 #[iv (own_ng (((N / 10 / 10) / 10 / 10) / 10 / 10)), iv 8, rv bb, iv (own_ng (((N / 10 / 10) / 10 / 10) / 10 / 10)), iv ((((N / 10 / 10) / 10 / 10) % 100).toInt32), iv 3, iv 0] [(.int ((((N / 10 / 10) / 10 / 10) % 100).toInt32)), (.ref dO), (.int 3), (.ref bb)])) (fun t k => XS.iload X17.here hx rfl (hb hby d4_52) rfl  k) ?_
  have hq18 := hO (((N / 10 / 10) / 10 / 10) % 100) (by omega)
  rw [own_d_ones] at hq18
  have ar18 := AO.ext Ol16.2
  refine own_go (b := T17.setTop (mkF m 55 #[iv (own_ng (((N / 10 / 10) / 10 / 10) / 10 / 10)), iv 8, rv bb, iv (own_ng (((N / 10 / 10) / 10 / 10) / 10 / 10)), iv ((((N / 10 / 10) / 10 / 10) % 100).toInt32), iv 3, iv 0] [(.int (own_d ((N / 10 / 10) / 10 / 10))), (.int 3), (.ref bb)])) (fun t k => X17.baloadBytes hx (j := ((((N / 10 / 10) / 10 / 10) % 100).toInt32)) (v := (.int (own_d ((N / 10 / 10) / 10 / 10)))) (by rw [e17]; exact ar18.1) (State.isArrayOf_alike hZ.alike ar18.2.1) ar18.2.2 hq18.1 hq18.2 (g := (mkF m 54 #[iv (own_ng (((N / 10 / 10) / 10 / 10) / 10 / 10)), iv 8, rv bb, iv (own_ng (((N / 10 / 10) / 10 / 10) / 10 / 10)), iv ((((N / 10 / 10) / 10 / 10) % 100).toInt32), iv 3, iv 0] [(.int ((((N / 10 / 10) / 10 / 10) % 100).toInt32)), (.ref dO), (.int 3), (.ref bb)])) rfl rfl (hb hby d4_54) t k) ?_
  obtain ⟨cl19, Ar19, qc19, Sz19, Ng19, Hs19, Ft19⟩ := id V_bb_16
  have hin19 : ¬ ((3 : Int32) < 0 ∨ cl19.slots.size ≤ ((3 : Int32)).toNatClampNeg) := inb_of Sz19 ⟨by decide, by decide⟩
  obtain ⟨T20, h20, X20, e20, W20, st20⟩ := stB X17 hx hZ e17 Ar19 (j := (3 : Int32)) hin19 (g := (mkF m 55 #[iv (own_ng (((N / 10 / 10) / 10 / 10) / 10 / 10)), iv 8, rv bb, iv (own_ng (((N / 10 / 10) / 10 / 10) / 10 / 10)), iv ((((N / 10 / 10) / 10 / 10) % 100).toInt32), iv 3, iv 0] [(.int (own_d ((N / 10 / 10) / 10 / 10))), (.int 3), (.ref bb)])) rfl rfl (hb hby d4_55)
  have V_bb_20 : Arv Z h20 bb kb .byte (8 : Int32) [(.int 0), (.int 0), (.int 0), (.int (nar .byte (own_d ((N / 10 / 10) / 10 / 10)))), (.int (nar .byte (own_d ((N / 10 / 10) / 10)))), (.int (nar .byte (own_d (N / 10 / 10)))), (.int (nar .byte (own_d (N / 10)))), (.int (nar .byte (own_d N)))] (.int (0 : Int32)) := Arv.set Ar19 qc19 Sz19 Ng19 Hs19 Ft19 (fits_nar_byte _) W20 3 rfl (Nat.le_of_ble_eq_true rfl)
  have Zs20 : n0 ≤ h20.size := Nat.le_trans Zs16 (Keep.of_wr W20).1
  have N20 := Fr.snoc X20 N16 gb
  have Kp20 : Keep h0 h20 [bb] := Kp16.wr W20 (Or.inl (List.mem_of_getElem? (i := 0) rfl))
  have Ol20 := Ol16.wr W20 gb
  refine own_go (b := T20.setTop (mkF m 56 #[iv (own_ng (((N / 10 / 10) / 10 / 10) / 10 / 10)), iv 8, rv bb, iv (own_ng (((N / 10 / 10) / 10 / 10) / 10 / 10)), iv ((((N / 10 / 10) / 10 / 10) % 100).toInt32), iv 3, iv 0] [])) st20 ?_
  refine own_go (b := T20.setTop (mkF m 57 #[iv (own_ng (((N / 10 / 10) / 10 / 10) / 10 / 10)), iv 8, rv bb, iv (own_ng (((N / 10 / 10) / 10 / 10) / 10 / 10)), iv ((((N / 10 / 10) / 10 / 10) % 100).toInt32), iv 3, iv 0] [(.ref bb)])) (fun t k => XS.aloadN X20.here hx rfl (hb hby d4_56) rfl rfl k) ?_
  refine own_go (b := T20.setTop (mkF m 60 #[iv (own_ng (((N / 10 / 10) / 10 / 10) / 10 / 10)), iv 8, rv bb, iv (own_ng (((N / 10 / 10) / 10 / 10) / 10 / 10)), iv ((((N / 10 / 10) / 10 / 10) % 100).toInt32), iv 2, iv 0] [(.ref bb)])) (fun t k => XS.iinc X20.here hx rfl (hb hby d4_57) rfl (l' := #[iv (own_ng (((N / 10 / 10) / 10 / 10) / 10 / 10)), iv 8, rv bb, iv (own_ng (((N / 10 / 10) / 10 / 10) / 10 / 10)), iv ((((N / 10 / 10) / 10 / 10) % 100).toInt32), iv 2, iv 0]) rfl k) ?_
  refine own_go (b := T20.setTop (mkF m 62 #[iv (own_ng (((N / 10 / 10) / 10 / 10) / 10 / 10)), iv 8, rv bb, iv (own_ng (((N / 10 / 10) / 10 / 10) / 10 / 10)), iv ((((N / 10 / 10) / 10 / 10) % 100).toInt32), iv 2, iv 0] [(.int 2), (.ref bb)])) (fun t k => XS.iload X20.here hx rfl (hb hby d4_60) rfl  k) ?_
  obtain ⟨T21, X21, e21, st21⟩ := getS2 X20 hx hZ hown (host := "") (Or.inl (hw _ (List.mem_of_getElem? (i := 126) rfl))) Via.refl e20 (ST.ext Ol20.2) (g := (mkF m 62 #[iv (own_ng (((N / 10 / 10) / 10 / 10) / 10 / 10)), iv 8, rv bb, iv (own_ng (((N / 10 / 10) / 10 / 10) / 10 / 10)), iv ((((N / 10 / 10) / 10 / 10) % 100).toInt32), iv 2, iv 0] [(.int 2), (.ref bb)])) rfl (hb hby d4_62)
  refine own_go (b := T21.setTop (mkF m 65 #[iv (own_ng (((N / 10 / 10) / 10 / 10) / 10 / 10)), iv 8, rv bb, iv (own_ng (((N / 10 / 10) / 10 / 10) / 10 / 10)), iv ((((N / 10 / 10) / 10 / 10) % 100).toInt32), iv 2, iv 0] [(.ref dT), (.int 2), (.ref bb)])) st21 ?_
  refine own_go (b := T21.setTop (mkF m 67 #[iv (own_ng (((N / 10 / 10) / 10 / 10) / 10 / 10)), iv 8, rv bb, iv (own_ng (((N / 10 / 10) / 10 / 10) / 10 / 10)), iv ((((N / 10 / 10) / 10 / 10) % 100).toInt32), iv 2, iv 0] [(.int ((((N / 10 / 10) / 10 / 10) % 100).toInt32)), (.ref dT), (.int 2), (.ref bb)])) (fun t k => XS.iload X21.here hx rfl (hb hby d4_65) rfl  k) ?_
  have hq22 := hT (((N / 10 / 10) / 10 / 10) % 100) (by omega)
  rw [own_d_tens] at hq22
  have ar22 := AT.ext Ol20.2
  refine own_go (b := T21.setTop (mkF m 68 #[iv (own_ng (((N / 10 / 10) / 10 / 10) / 10 / 10)), iv 8, rv bb, iv (own_ng (((N / 10 / 10) / 10 / 10) / 10 / 10)), iv ((((N / 10 / 10) / 10 / 10) % 100).toInt32), iv 2, iv 0] [(.int (own_d (((N / 10 / 10) / 10 / 10) / 10))), (.int 2), (.ref bb)])) (fun t k => X21.baloadBytes hx (j := ((((N / 10 / 10) / 10 / 10) % 100).toInt32)) (v := (.int (own_d (((N / 10 / 10) / 10 / 10) / 10)))) (by rw [e21]; exact ar22.1) (State.isArrayOf_alike hZ.alike ar22.2.1) ar22.2.2 hq22.1 hq22.2 (g := (mkF m 67 #[iv (own_ng (((N / 10 / 10) / 10 / 10) / 10 / 10)), iv 8, rv bb, iv (own_ng (((N / 10 / 10) / 10 / 10) / 10 / 10)), iv ((((N / 10 / 10) / 10 / 10) % 100).toInt32), iv 2, iv 0] [(.int ((((N / 10 / 10) / 10 / 10) % 100).toInt32)), (.ref dT), (.int 2), (.ref bb)])) rfl rfl (hb hby d4_67) t k) ?_
  obtain ⟨cl23, Ar23, qc23, Sz23, Ng23, Hs23, Ft23⟩ := id V_bb_20
  have hin23 : ¬ ((2 : Int32) < 0 ∨ cl23.slots.size ≤ ((2 : Int32)).toNatClampNeg) := inb_of Sz23 ⟨by decide, by decide⟩
  obtain ⟨T24, h24, X24, e24, W24, st24⟩ := stB X21 hx hZ e21 Ar23 (j := (2 : Int32)) hin23 (g := (mkF m 68 #[iv (own_ng (((N / 10 / 10) / 10 / 10) / 10 / 10)), iv 8, rv bb, iv (own_ng (((N / 10 / 10) / 10 / 10) / 10 / 10)), iv ((((N / 10 / 10) / 10 / 10) % 100).toInt32), iv 2, iv 0] [(.int (own_d (((N / 10 / 10) / 10 / 10) / 10))), (.int 2), (.ref bb)])) rfl rfl (hb hby d4_68)
  have V_bb_24 : Arv Z h24 bb kb .byte (8 : Int32) [(.int 0), (.int 0), (.int (nar .byte (own_d (((N / 10 / 10) / 10 / 10) / 10)))), (.int (nar .byte (own_d ((N / 10 / 10) / 10 / 10)))), (.int (nar .byte (own_d ((N / 10 / 10) / 10)))), (.int (nar .byte (own_d (N / 10 / 10)))), (.int (nar .byte (own_d (N / 10)))), (.int (nar .byte (own_d N)))] (.int (0 : Int32)) := Arv.set Ar23 qc23 Sz23 Ng23 Hs23 Ft23 (fits_nar_byte _) W24 2 rfl (Nat.le_of_ble_eq_true rfl)
  have Zs24 : n0 ≤ h24.size := Nat.le_trans Zs20 (Keep.of_wr W24).1
  have N24 := Fr.snoc X24 N20 gb
  have Kp24 : Keep h0 h24 [bb] := Kp20.wr W24 (Or.inl (List.mem_of_getElem? (i := 0) rfl))
  have Ol24 := Ol20.wr W24 gb
  refine own_go (b := T24.setTop (mkF m 69 #[iv (own_ng (((N / 10 / 10) / 10 / 10) / 10 / 10)), iv 8, rv bb, iv (own_ng (((N / 10 / 10) / 10 / 10) / 10 / 10)), iv ((((N / 10 / 10) / 10 / 10) % 100).toInt32), iv 2, iv 0] [])) st24 ?_
  refine own_go (b := T24.setTop (mkF m 22 #[iv (own_ng (((N / 10 / 10) / 10 / 10) / 10 / 10)), iv 8, rv bb, iv (own_ng (((N / 10 / 10) / 10 / 10) / 10 / 10)), iv ((((N / 10 / 10) / 10 / 10) % 100).toInt32), iv 2, iv 0] [])) (fun t k => XS.goto X24.here hx rfl (pc0 := 69) (pc' := 22) rfl (hb hby d4_69) (by decide) (by decide) k) ?_
  refine own_go (b := T24.setTop (mkF m 23 #[iv (own_ng (((N / 10 / 10) / 10 / 10) / 10 / 10)), iv 8, rv bb, iv (own_ng (((N / 10 / 10) / 10 / 10) / 10 / 10)), iv ((((N / 10 / 10) / 10 / 10) % 100).toInt32), iv 2, iv 0] [(.int (own_ng (((N / 10 / 10) / 10 / 10) / 10 / 10)))])) (fun t k => XS.iloadN X24.here hx rfl (hb hby d4_22) rfl  k) ?_
  refine own_go (b := T24.setTop (mkF m 25 #[iv (own_ng (((N / 10 / 10) / 10 / 10) / 10 / 10)), iv 8, rv bb, iv (own_ng (((N / 10 / 10) / 10 / 10) / 10 / 10)), iv ((((N / 10 / 10) / 10 / 10) % 100).toInt32), iv 2, iv 0] [(.int (-100)), (.int (own_ng (((N / 10 / 10) / 10 / 10) / 10 / 10)))])) (fun t k => XS.bipush X24.here hx rfl (hb hby d4_23) k) ?_
  refine own_go (b := T24.setTop (mkF m 72 #[iv (own_ng (((N / 10 / 10) / 10 / 10) / 10 / 10)), iv 8, rv bb, iv (own_ng (((N / 10 / 10) / 10 / 10) / 10 / 10)), iv ((((N / 10 / 10) / 10 / 10) % 100).toInt32), iv 2, iv 0] [])) (fun t k => XS.icmpYes X24.here hx rfl (pc0 := 25) (pc' := 72) rfl (hb hby d4_25) rfl (tlt (own_ng_gt (m := 100) (by omega) (by decide) (by omega))).2.2.1 (by decide) (by decide) k) ?_
  refine own_go (b := T24.setTop (mkF m 73 #[iv (own_ng (((N / 10 / 10) / 10 / 10) / 10 / 10)), iv 8, rv bb, iv (own_ng (((N / 10 / 10) / 10 / 10) / 10 / 10)), iv ((((N / 10 / 10) / 10 / 10) % 100).toInt32), iv 2, iv 0] [(.ref bb)])) (fun t k => XS.aloadN X24.here hx rfl (hb hby d4_72) rfl rfl k) ?_
  refine own_go (b := T24.setTop (mkF m 76 #[iv (own_ng (((N / 10 / 10) / 10 / 10) / 10 / 10)), iv 8, rv bb, iv (own_ng (((N / 10 / 10) / 10 / 10) / 10 / 10)), iv ((((N / 10 / 10) / 10 / 10) % 100).toInt32), iv 1, iv 0] [(.ref bb)])) (fun t k => XS.iinc X24.here hx rfl (hb hby d4_73) rfl (l' := #[iv (own_ng (((N / 10 / 10) / 10 / 10) / 10 / 10)), iv 8, rv bb, iv (own_ng (((N / 10 / 10) / 10 / 10) / 10 / 10)), iv ((((N / 10 / 10) / 10 / 10) % 100).toInt32), iv 1, iv 0]) rfl k) ?_
  refine own_go (b := T24.setTop (mkF m 78 #[iv (own_ng (((N / 10 / 10) / 10 / 10) / 10 / 10)), iv 8, rv bb, iv (own_ng (((N / 10 / 10) / 10 / 10) / 10 / 10)), iv ((((N / 10 / 10) / 10 / 10) % 100).toInt32), iv 1, iv 0] [(.int 1), (.ref bb)])) (fun t k => XS.iload X24.here hx rfl (hb hby d4_76) rfl  k) ?_
  obtain ⟨T25, X25, e25, st25⟩ := getS2 X24 hx hZ hown (host := "") (Or.inl (hw _ (List.mem_of_getElem? (i := 20) rfl))) Via.refl e24 (SO.ext Ol24.2) (g := (mkF m 78 #[iv (own_ng (((N / 10 / 10) / 10 / 10) / 10 / 10)), iv 8, rv bb, iv (own_ng (((N / 10 / 10) / 10 / 10) / 10 / 10)), iv ((((N / 10 / 10) / 10 / 10) % 100).toInt32), iv 1, iv 0] [(.int 1), (.ref bb)])) rfl (hb hby d4_78)
  refine own_go (b := T25.setTop (mkF m 81 #[iv (own_ng (((N / 10 / 10) / 10 / 10) / 10 / 10)), iv 8, rv bb, iv (own_ng (((N / 10 / 10) / 10 / 10) / 10 / 10)), iv ((((N / 10 / 10) / 10 / 10) % 100).toInt32), iv 1, iv 0] [(.ref dO), (.int 1), (.ref bb)])) st25 ?_
  refine own_go (b := T25.setTop (mkF m 82 #[iv (own_ng (((N / 10 / 10) / 10 / 10) / 10 / 10)), iv 8, rv bb, iv (own_ng (((N / 10 / 10) / 10 / 10) / 10 / 10)), iv ((((N / 10 / 10) / 10 / 10) % 100).toInt32), iv 1, iv 0] [(.int (own_ng (((N / 10 / 10) / 10 / 10) / 10 / 10))), (.ref dO), (.int 1), (.ref bb)])) (fun t k => XS.iloadN X25.here hx rfl (hb hby d4_81) rfl  k) ?_
  refine own_go (b := T25.setTop (mkF m 83 #[iv (own_ng (((N / 10 / 10) / 10 / 10) / 10 / 10)), iv 8, rv bb, iv (own_ng (((N / 10 / 10) / 10 / 10) / 10 / 10)), iv ((((N / 10 / 10) / 10 / 10) % 100).toInt32), iv 1, iv 0] [(.int (-(own_ng (((N / 10 / 10) / 10 / 10) / 10 / 10)))), (.ref dO), (.int 1), (.ref bb)])) (fun t k => XS.ineg X25.here hx rfl (hb hby d4_82) rfl k) ?_
  rw [own_ng_neg]
  have hq26 := hO (((N / 10 / 10) / 10 / 10) / 10 / 10) (by omega)
  have ar26 := AO.ext Ol24.2
  refine own_go (b := T25.setTop (mkF m 84 #[iv (own_ng (((N / 10 / 10) / 10 / 10) / 10 / 10)), iv 8, rv bb, iv (own_ng (((N / 10 / 10) / 10 / 10) / 10 / 10)), iv ((((N / 10 / 10) / 10 / 10) % 100).toInt32), iv 1, iv 0] [(.int (own_d (((N / 10 / 10) / 10 / 10) / 10 / 10))), (.int 1), (.ref bb)])) (fun t k => X25.baloadBytes hx (j := ((((N / 10 / 10) / 10 / 10) / 10 / 10).toInt32)) (v := (.int (own_d (((N / 10 / 10) / 10 / 10) / 10 / 10)))) (by rw [e25]; exact ar26.1) (State.isArrayOf_alike hZ.alike ar26.2.1) ar26.2.2 hq26.1 hq26.2 (g := (mkF m 83 #[iv (own_ng (((N / 10 / 10) / 10 / 10) / 10 / 10)), iv 8, rv bb, iv (own_ng (((N / 10 / 10) / 10 / 10) / 10 / 10)), iv ((((N / 10 / 10) / 10 / 10) % 100).toInt32), iv 1, iv 0] [(.int ((((N / 10 / 10) / 10 / 10) / 10 / 10).toInt32)), (.ref dO), (.int 1), (.ref bb)])) rfl rfl (hb hby d4_83) t k) ?_
  obtain ⟨cl27, Ar27, qc27, Sz27, Ng27, Hs27, Ft27⟩ := id V_bb_24
  have hin27 : ¬ ((1 : Int32) < 0 ∨ cl27.slots.size ≤ ((1 : Int32)).toNatClampNeg) := inb_of Sz27 ⟨by decide, by decide⟩
  obtain ⟨T28, h28, X28, e28, W28, st28⟩ := stB X25 hx hZ e25 Ar27 (j := (1 : Int32)) hin27 (g := (mkF m 84 #[iv (own_ng (((N / 10 / 10) / 10 / 10) / 10 / 10)), iv 8, rv bb, iv (own_ng (((N / 10 / 10) / 10 / 10) / 10 / 10)), iv ((((N / 10 / 10) / 10 / 10) % 100).toInt32), iv 1, iv 0] [(.int (own_d (((N / 10 / 10) / 10 / 10) / 10 / 10))), (.int 1), (.ref bb)])) rfl rfl (hb hby d4_84)
  have V_bb_28 : Arv Z h28 bb kb .byte (8 : Int32) [(.int 0), (.int (nar .byte (own_d (((N / 10 / 10) / 10 / 10) / 10 / 10)))), (.int (nar .byte (own_d (((N / 10 / 10) / 10 / 10) / 10)))), (.int (nar .byte (own_d ((N / 10 / 10) / 10 / 10)))), (.int (nar .byte (own_d ((N / 10 / 10) / 10)))), (.int (nar .byte (own_d (N / 10 / 10)))), (.int (nar .byte (own_d (N / 10)))), (.int (nar .byte (own_d N)))] (.int (0 : Int32)) := Arv.set Ar27 qc27 Sz27 Ng27 Hs27 Ft27 (fits_nar_byte _) W28 1 rfl (Nat.le_of_ble_eq_true rfl)
  have Zs28 : n0 ≤ h28.size := Nat.le_trans Zs24 (Keep.of_wr W28).1
  have N28 := Fr.snoc X28 N24 gb
  have Kp28 : Keep h0 h28 [bb] := Kp24.wr W28 (Or.inl (List.mem_of_getElem? (i := 0) rfl))
  have Ol28 := Ol24.wr W28 gb
  refine own_go (b := T28.setTop (mkF m 85 #[iv (own_ng (((N / 10 / 10) / 10 / 10) / 10 / 10)), iv 8, rv bb, iv (own_ng (((N / 10 / 10) / 10 / 10) / 10 / 10)), iv ((((N / 10 / 10) / 10 / 10) % 100).toInt32), iv 1, iv 0] [])) st28 ?_
  refine own_go (b := T28.setTop (mkF m 86 #[iv (own_ng (((N / 10 / 10) / 10 / 10) / 10 / 10)), iv 8, rv bb, iv (own_ng (((N / 10 / 10) / 10 / 10) / 10 / 10)), iv ((((N / 10 / 10) / 10 / 10) % 100).toInt32), iv 1, iv 0] [(.int (own_ng (((N / 10 / 10) / 10 / 10) / 10 / 10)))])) (fun t k => XS.iloadN X28.here hx rfl (hb hby d4_85) rfl  k) ?_
  refine own_go (b := T28.setTop (mkF m 88 #[iv (own_ng (((N / 10 / 10) / 10 / 10) / 10 / 10)), iv 8, rv bb, iv (own_ng (((N / 10 / 10) / 10 / 10) / 10 / 10)), iv ((((N / 10 / 10) / 10 / 10) % 100).toInt32), iv 1, iv 0] [(.int (-9)), (.int (own_ng (((N / 10 / 10) / 10 / 10) / 10 / 10)))])) (fun t k => XS.bipush X28.here hx rfl (hb hby d4_86) k) ?_
  refine own_go (b := T28.setTop (mkF m 91 #[iv (own_ng (((N / 10 / 10) / 10 / 10) / 10 / 10)), iv 8, rv bb, iv (own_ng (((N / 10 / 10) / 10 / 10) / 10 / 10)), iv ((((N / 10 / 10) / 10 / 10) % 100).toInt32), iv 1, iv 0] [])) (fun t k => XS.icmpNo X28.here hx rfl (hb hby d4_88) rfl (tlt (own_ng_lt (m := 9) (by omega) (by decide) (by omega))).2.1 k) ?_
  refine own_go (b := T28.setTop (mkF m 92 #[iv (own_ng (((N / 10 / 10) / 10 / 10) / 10 / 10)), iv 8, rv bb, iv (own_ng (((N / 10 / 10) / 10 / 10) / 10 / 10)), iv ((((N / 10 / 10) / 10 / 10) % 100).toInt32), iv 1, iv 0] [(.ref bb)])) (fun t k => XS.aloadN X28.here hx rfl (hb hby d4_91) rfl rfl k) ?_
  refine own_go (b := T28.setTop (mkF m 95 #[iv (own_ng (((N / 10 / 10) / 10 / 10) / 10 / 10)), iv 8, rv bb, iv (own_ng (((N / 10 / 10) / 10 / 10) / 10 / 10)), iv ((((N / 10 / 10) / 10 / 10) % 100).toInt32), iv 0, iv 0] [(.ref bb)])) (fun t k => XS.iinc X28.here hx rfl (hb hby d4_92) rfl (l' := #[iv (own_ng (((N / 10 / 10) / 10 / 10) / 10 / 10)), iv 8, rv bb, iv (own_ng (((N / 10 / 10) / 10 / 10) / 10 / 10)), iv ((((N / 10 / 10) / 10 / 10) % 100).toInt32), iv 0, iv 0]) rfl k) ?_
  refine own_go (b := T28.setTop (mkF m 97 #[iv (own_ng (((N / 10 / 10) / 10 / 10) / 10 / 10)), iv 8, rv bb, iv (own_ng (((N / 10 / 10) / 10 / 10) / 10 / 10)), iv ((((N / 10 / 10) / 10 / 10) % 100).toInt32), iv 0, iv 0] [(.int 0), (.ref bb)])) (fun t k => XS.iload X28.here hx rfl (hb hby d4_95) rfl  k) ?_
  obtain ⟨T29, X29, e29, st29⟩ := getS2 X28 hx hZ hown (host := "") (Or.inl (hw _ (List.mem_of_getElem? (i := 126) rfl))) Via.refl e28 (ST.ext Ol28.2) (g := (mkF m 97 #[iv (own_ng (((N / 10 / 10) / 10 / 10) / 10 / 10)), iv 8, rv bb, iv (own_ng (((N / 10 / 10) / 10 / 10) / 10 / 10)), iv ((((N / 10 / 10) / 10 / 10) % 100).toInt32), iv 0, iv 0] [(.int 0), (.ref bb)])) rfl (hb hby d4_97)
  refine own_go (b := T29.setTop (mkF m 100 #[iv (own_ng (((N / 10 / 10) / 10 / 10) / 10 / 10)), iv 8, rv bb, iv (own_ng (((N / 10 / 10) / 10 / 10) / 10 / 10)), iv ((((N / 10 / 10) / 10 / 10) % 100).toInt32), iv 0, iv 0] [(.ref dT), (.int 0), (.ref bb)])) st29 ?_
  refine own_go (b := T29.setTop (mkF m 101 #[iv (own_ng (((N / 10 / 10) / 10 / 10) / 10 / 10)), iv 8, rv bb, iv (own_ng (((N / 10 / 10) / 10 / 10) / 10 / 10)), iv ((((N / 10 / 10) / 10 / 10) % 100).toInt32), iv 0, iv 0] [(.int (own_ng (((N / 10 / 10) / 10 / 10) / 10 / 10))), (.ref dT), (.int 0), (.ref bb)])) (fun t k => XS.iloadN X29.here hx rfl (hb hby d4_100) rfl  k) ?_
  refine own_go (b := T29.setTop (mkF m 102 #[iv (own_ng (((N / 10 / 10) / 10 / 10) / 10 / 10)), iv 8, rv bb, iv (own_ng (((N / 10 / 10) / 10 / 10) / 10 / 10)), iv ((((N / 10 / 10) / 10 / 10) % 100).toInt32), iv 0, iv 0] [(.int (-(own_ng (((N / 10 / 10) / 10 / 10) / 10 / 10)))), (.ref dT), (.int 0), (.ref bb)])) (fun t k => XS.ineg X29.here hx rfl (hb hby d4_101) rfl k) ?_
  rw [own_ng_neg]
  have hq30 := hT (((N / 10 / 10) / 10 / 10) / 10 / 10) (by omega)
  have ar30 := AT.ext Ol28.2
  refine own_go (b := T29.setTop (mkF m 103 #[iv (own_ng (((N / 10 / 10) / 10 / 10) / 10 / 10)), iv 8, rv bb, iv (own_ng (((N / 10 / 10) / 10 / 10) / 10 / 10)), iv ((((N / 10 / 10) / 10 / 10) % 100).toInt32), iv 0, iv 0] [(.int (own_d ((((N / 10 / 10) / 10 / 10) / 10 / 10) / 10))), (.int 0), (.ref bb)])) (fun t k => X29.baloadBytes hx (j := ((((N / 10 / 10) / 10 / 10) / 10 / 10).toInt32)) (v := (.int (own_d ((((N / 10 / 10) / 10 / 10) / 10 / 10) / 10)))) (by rw [e29]; exact ar30.1) (State.isArrayOf_alike hZ.alike ar30.2.1) ar30.2.2 hq30.1 hq30.2 (g := (mkF m 102 #[iv (own_ng (((N / 10 / 10) / 10 / 10) / 10 / 10)), iv 8, rv bb, iv (own_ng (((N / 10 / 10) / 10 / 10) / 10 / 10)), iv ((((N / 10 / 10) / 10 / 10) % 100).toInt32), iv 0, iv 0] [(.int ((((N / 10 / 10) / 10 / 10) / 10 / 10).toInt32)), (.ref dT), (.int 0), (.ref bb)])) rfl rfl (hb hby d4_102) t k) ?_
  obtain ⟨cl31, Ar31, qc31, Sz31, Ng31, Hs31, Ft31⟩ := id V_bb_28
  have hin31 : ¬ ((0 : Int32) < 0 ∨ cl31.slots.size ≤ ((0 : Int32)).toNatClampNeg) := inb_of Sz31 ⟨by decide, by decide⟩
  obtain ⟨T32, h32, X32, e32, W32, st32⟩ := stB X29 hx hZ e29 Ar31 (j := (0 : Int32)) hin31 (g := (mkF m 103 #[iv (own_ng (((N / 10 / 10) / 10 / 10) / 10 / 10)), iv 8, rv bb, iv (own_ng (((N / 10 / 10) / 10 / 10) / 10 / 10)), iv ((((N / 10 / 10) / 10 / 10) % 100).toInt32), iv 0, iv 0] [(.int (own_d ((((N / 10 / 10) / 10 / 10) / 10 / 10) / 10))), (.int 0), (.ref bb)])) rfl rfl (hb hby d4_103)
  have V_bb_32 : Arv Z h32 bb kb .byte (8 : Int32) [(.int (nar .byte (own_d ((((N / 10 / 10) / 10 / 10) / 10 / 10) / 10)))), (.int (nar .byte (own_d (((N / 10 / 10) / 10 / 10) / 10 / 10)))), (.int (nar .byte (own_d (((N / 10 / 10) / 10 / 10) / 10)))), (.int (nar .byte (own_d ((N / 10 / 10) / 10 / 10)))), (.int (nar .byte (own_d ((N / 10 / 10) / 10)))), (.int (nar .byte (own_d (N / 10 / 10)))), (.int (nar .byte (own_d (N / 10)))), (.int (nar .byte (own_d N)))] (.int (0 : Int32)) := Arv.set Ar31 qc31 Sz31 Ng31 Hs31 Ft31 (fits_nar_byte _) W32 0 rfl (Nat.le_of_ble_eq_true rfl)
  have Zs32 : n0 ≤ h32.size := Nat.le_trans Zs28 (Keep.of_wr W32).1
  have N32 := Fr.snoc X32 N28 gb
  have Kp32 : Keep h0 h32 [bb] := Kp28.wr W32 (Or.inl (List.mem_of_getElem? (i := 0) rfl))
  have Ol32 := Ol28.wr W32 gb
  refine own_go (b := T32.setTop (mkF m 104 #[iv (own_ng (((N / 10 / 10) / 10 / 10) / 10 / 10)), iv 8, rv bb, iv (own_ng (((N / 10 / 10) / 10 / 10) / 10 / 10)), iv ((((N / 10 / 10) / 10 / 10) % 100).toInt32), iv 0, iv 0] [])) st32 ?_
  refine own_go (b := T32.setTop (mkF m 106 #[iv (own_ng (((N / 10 / 10) / 10 / 10) / 10 / 10)), iv 8, rv bb, iv (own_ng (((N / 10 / 10) / 10 / 10) / 10 / 10)), iv ((((N / 10 / 10) / 10 / 10) % 100).toInt32), iv 0, iv 0] [(.int 0)])) (fun t k => XS.iload X32.here hx rfl (hb hby d4_104) rfl  k) ?_
  refine own_go (b := T32.setTop (mkF m 118 #[iv (own_ng (((N / 10 / 10) / 10 / 10) / 10 / 10)), iv 8, rv bb, iv (own_ng (((N / 10 / 10) / 10 / 10) / 10 / 10)), iv ((((N / 10 / 10) / 10 / 10) % 100).toInt32), iv 0, iv 0] [])) (fun t k => XS.ifYes X32.here hx rfl (pc0 := 106) (pc' := 118) rfl (hb hby d4_106) rfl ((if0 _ _).trans (teq (rfl : (0 : Int32) = (0 : Int32))).1) (by decide) (by decide) k) ?_
  refine own_go (b := T32.setTop (mkF m 120 #[iv (own_ng (((N / 10 / 10) / 10 / 10) / 10 / 10)), iv 8, rv bb, iv (own_ng (((N / 10 / 10) / 10 / 10) / 10 / 10)), iv ((((N / 10 / 10) / 10 / 10) % 100).toInt32), iv 0, iv 0] [(.int 0)])) (fun t k => XS.iload X32.here hx rfl (hb hby d4_118) rfl  k) ?_
  exact own_retI X32 hx hlk hrt (hb hby d4_120) (Nat.le_of_ble_eq_true rfl) (Nat.le_of_ble_eq_true rfl) (⟨rfl, N32, by rw [e32]; exact Kp32, by rw [e32]; have q := V_bb_32; simp only [own_nar] at q; exact q⟩)
theorem ef_4_9 (m : MethodId) (ct : Int32) (sz : Int32) (bb : Addr) : entryFrame m #[(.int ct), (.int sz), (.ref bb)] 7 = mkF m 0 #[iv ct, iv sz, rv bb, .unset, .unset, .unset, .unset] [] := by first | (simp [entryFrame, mkF, argsToLocals, Value.category]; done) | rfl
def Q4_9 (Z : State) (ct : Int32) (sz : Int32) (bb : Addr) (N : Nat) (kb : ClassId) (dO : Addr) (dT : Addr) (cO : Cell) (cT : Cell) (h0 : Heap) (n0 : Nat) (v : Option Value) (h : Heap) (L : List Loc) : Prop := v = some (.int 0) ∧ Fr n0 L ∧ Keep h0 h [bb] ∧ Arv Z h bb kb .byte (Int32.ofNat 9) ((own_digs N 9).map Value.int) (.int (0 : Int32))
set_option maxRecDepth 65536 in
set_option maxHeartbeats 40000000 in
theorem rm4_9 (l : Launch) (Z : State) (a0 : Array Value) (hw : ∀ d ∈ tables_1, d.before a0 Z = true) (ws : List Jvm.Cond) (ct : Int32) (sz : Int32) (bb : Addr) (N : Nat) (kb : ClassId) (dO : Addr) (dT : Addr) (cO : Cell) (cT : Cell) (h0 : Heap) (n0 : Nat) (Z0 : n0 ≤ h0.size) (hct : ct = N.toInt32) (hct1 : sz = (9 : Int32)) (hN : N < 2147483648) (hlo : 100000000 ≤ N) (hhi : N < 1000000000) (SO : Sta Z Z.heap "java/lang/Integer" "DigitOnes" "[B" (.ref dO)) (ST : Sta Z Z.heap "java/lang/Integer" "DigitTens" "[B" (.ref dT)) (AO : Arr Z Z.heap dO cO .byte) (AT : Arr Z Z.heap dT cT .byte) (hO : ∀ r : Nat, r < 100 → ¬ (r.toInt32 < 0 ∨ cO.slots.size ≤ r.toInt32.toNatClampNeg) ∧ cO.slots[r.toInt32.toNatClampNeg]? = some (.int (own_d r))) (hT : ∀ r : Nat, r < 100 → ¬ (r.toInt32 < 0 ∨ cT.slots.size ≤ r.toInt32.toNatClampNeg) ∧ cT.slots[r.toInt32.toNatClampNeg]? = some (.int (own_d (r / 10)))) (Vb : Arv Z h0 bb kb .byte (9 : Int32) [.int (0 : Int32), .int (0 : Int32), .int (0 : Int32), .int (0 : Int32), .int (0 : Int32), .int (0 : Int32), .int (0 : Int32), .int (0 : Int32), .int (0 : Int32)] (.int (0 : Int32))) (gb : n0 ≤ bb) (Od : Old Z n0 h0) :
    MetFree l (⟨"java/lang/Integer", "getChars", "(II[B)I"⟩ : MethodName) (head1 (Jvm.Cond.code (⟨"java/lang/Integer", "getChars", "(II[B)I"⟩ : MethodName) jdk_33_method_12_code 7 (some .int) :: ws) ({ frames := 0, cells := 0, slots := 0, locals := 0 } : Room)) (fun a U => a = #[(.int ct), (.int sz), (.ref bb)] ∧ Z.Warmed39 U.vm ∧ U.heap = h0) (fun _ _ _ _ _ => True) (fun _ U o U' => ∃ v L, o = .returned v ∧ Q4_9 Z ct sz bb N kb dO dT cO cT h0 n0 v U'.heap L ∧ FrameEnd U o U' L ({ frames := 0, cells := 0, slots := 0, locals := 0 } : Room).cells ({ frames := 0, cells := 0, slots := 0, locals := 0 } : Room).slots) := by
  refine MetFree.of_bodySF (plainFor_of_name pn_0) hisR ?_
  intro p e s m args below meth c s₁ Bd hml0 hP hK
  obtain ⟨rfl, hZ, hh⟩ := hP
  have hx := Bd.exec
  have hby := Bd.bytes
  have hml : c.maxLocals = 7 := hml0
  have hown : s.vm.findClass "java/lang/Integer" = some m.cls := findClass_of_methodNamed Bd.named
  have hnm := (name_of_methodNamed Bd.named Bd.method).1
  have hlk : meth.locks = false := Bd.notSynchronized
  have hrt := Bd.returns
  have X0 : Stand p l e ({ frames := 0, cells := 0, slots := 0, locals := 0 } : Room) s m #[(.int ct), (.int sz), (.ref bb)] below meth c s₁ [] 0 0 := Stand.of_body Bd
  have e0 : s₁.heap = h0 := by rw [← hh, Bd.state]; rfl
  have N0 := Fr.nil n0
  show own_Endz p.tables e below (own_EndQ s ({ frames := 0, cells := 0, slots := 0, locals := 0 } : Room).cells ({ frames := 0, cells := 0, slots := 0, locals := 0 } : Room).slots (Q4_9 Z ct sz bb N kb dO dT cO cT h0 n0)) (s₁.setTop (entryFrame m #[(.int ct), (.int sz), (.ref bb)] 7))
  refine own_cast (ef_4_9 m ct sz bb) ?_
  subst hct
  subst hct1
  refine own_go (b := s₁.setTop (mkF m 1 #[iv (N.toInt32), iv 9, rv bb, .unset, .unset, .unset, .unset] [(.int 9)])) (fun t k => XS.iloadN X0.here hx rfl (hb hby d4_0) rfl  k) ?_
  refine own_go (b := s₁.setTop (mkF m 3 #[iv (N.toInt32), iv 9, rv bb, .unset, .unset, iv 9, .unset] [])) (fun t k => XS.istore X0.here hx rfl (hb hby d4_1) rfl (l' := #[iv (N.toInt32), iv 9, rv bb, .unset, .unset, iv 9, .unset]) rfl k) ?_
  refine own_go (b := s₁.setTop (mkF m 4 #[iv (N.toInt32), iv 9, rv bb, .unset, .unset, iv 9, .unset] [(.int (N.toInt32))])) (fun t k => XS.iloadN X0.here hx rfl (hb hby d4_3) rfl  k) ?_
  refine own_go (b := s₁.setTop (mkF m 11 #[iv (N.toInt32), iv 9, rv bb, .unset, .unset, iv 9, .unset] [])) (fun t k => XS.ifYes X0.here hx rfl (pc0 := 4) (pc' := 11) rfl (hb hby d4_4) rfl ((if0 _ _).trans (flt (own_nn hN)).2.1) (by decide) (by decide) k) ?_
  refine own_go (b := s₁.setTop (mkF m 12 #[iv (N.toInt32), iv 9, rv bb, .unset, .unset, iv 9, .unset] [(.int 0)])) (fun t k => XS.iconst X0.here hx rfl (hb hby d4_11) k) ?_
  refine own_go (b := s₁.setTop (mkF m 14 #[iv (N.toInt32), iv 9, rv bb, .unset, .unset, iv 9, iv 0] [])) (fun t k => XS.istore X0.here hx rfl (hb hby d4_12) rfl (l' := #[iv (N.toInt32), iv 9, rv bb, .unset, .unset, iv 9, iv 0]) rfl k) ?_
  refine own_go (b := s₁.setTop (mkF m 16 #[iv (N.toInt32), iv 9, rv bb, .unset, .unset, iv 9, iv 0] [(.int 0)])) (fun t k => XS.iload X0.here hx rfl (hb hby d4_14) rfl  k) ?_
  refine own_go (b := s₁.setTop (mkF m 19 #[iv (N.toInt32), iv 9, rv bb, .unset, .unset, iv 9, iv 0] [])) (fun t k => XS.ifNo X0.here hx rfl (hb hby d4_16) rfl ((if0 _ _).trans (teq (rfl : (0 : Int32) = (0 : Int32))).2) k) ?_
  refine own_go (b := s₁.setTop (mkF m 20 #[iv (N.toInt32), iv 9, rv bb, .unset, .unset, iv 9, iv 0] [(.int (N.toInt32))])) (fun t k => XS.iloadN X0.here hx rfl (hb hby d4_19) rfl  k) ?_
  refine own_go (b := s₁.setTop (mkF m 21 #[iv (N.toInt32), iv 9, rv bb, .unset, .unset, iv 9, iv 0] [(.int (-(N.toInt32)))])) (fun t k => XS.ineg X0.here hx rfl (hb hby d4_20) rfl k) ?_
  refine own_go (b := s₁.setTop (mkF m 22 #[iv (-(N.toInt32)), iv 9, rv bb, .unset, .unset, iv 9, iv 0] [])) (fun t k => XS.istoreN X0.here hx rfl (hb hby d4_21) rfl (l' := #[iv (-(N.toInt32)), iv 9, rv bb, .unset, .unset, iv 9, iv 0]) rfl k) ?_
  show own_Endz p.tables e below (own_EndQ s ({ frames := 0, cells := 0, slots := 0, locals := 0 } : Room).cells ({ frames := 0, cells := 0, slots := 0, locals := 0 } : Room).slots (Q4_9 Z ((N.toInt32)) ((9 : Int32)) bb N kb dO dT cO cT h0 n0)) (s₁.setTop (mkF m 22 #[iv (own_ng N), iv 9, rv bb, .unset, .unset, iv 9, iv 0] []))
  refine own_go (b := s₁.setTop (mkF m 23 #[iv (own_ng N), iv 9, rv bb, .unset, .unset, iv 9, iv 0] [(.int (own_ng N))])) (fun t k => XS.iloadN X0.here hx rfl (hb hby d4_22) rfl  k) ?_
  refine own_go (b := s₁.setTop (mkF m 25 #[iv (own_ng N), iv 9, rv bb, .unset, .unset, iv 9, iv 0] [(.int (-100)), (.int (own_ng N))])) (fun t k => XS.bipush X0.here hx rfl (hb hby d4_23) k) ?_
  refine own_go (b := s₁.setTop (mkF m 28 #[iv (own_ng N), iv 9, rv bb, .unset, .unset, iv 9, iv 0] [])) (fun t k => XS.icmpNo X0.here hx rfl (hb hby d4_25) rfl (flt (own_ng_ngt (m := 100) (by omega) (by decide) (by omega))).2.2.1 k) ?_
  refine own_go (b := s₁.setTop (mkF m 29 #[iv (own_ng N), iv 9, rv bb, .unset, .unset, iv 9, iv 0] [(.int (own_ng N))])) (fun t k => XS.iloadN X0.here hx rfl (hb hby d4_28) rfl  k) ?_
  refine own_go (b := s₁.setTop (mkF m 31 #[iv (own_ng N), iv 9, rv bb, .unset, .unset, iv 9, iv 0] [(.int 100), (.int (own_ng N))])) (fun t k => XS.bipush X0.here hx rfl (hb hby d4_29) k) ?_
  refine own_go (b := s₁.setTop (mkF m 32 #[iv (own_ng N), iv 9, rv bb, .unset, .unset, iv 9, iv 0] [(.int ((own_ng N) / (100 : Int32)))])) (fun t k => XS.idiv X0.here hx rfl (hb hby d4_31) rfl (by decide) k) ?_
  refine own_go (b := s₁.setTop (mkF m 33 #[iv (own_ng N), iv 9, rv bb, iv ((own_ng N) / (100 : Int32)), .unset, iv 9, iv 0] [])) (fun t k => XS.istoreN X0.here hx rfl (hb hby d4_32) rfl (l' := #[iv (own_ng N), iv 9, rv bb, iv ((own_ng N) / (100 : Int32)), .unset, iv 9, iv 0]) rfl k) ?_
  rw [own_ng_div (a := N) (by omega)]
  refine own_go (b := s₁.setTop (mkF m 34 #[iv (own_ng N), iv 9, rv bb, iv (own_ng (N / 10 / 10)), .unset, iv 9, iv 0] [(.int (own_ng (N / 10 / 10)))])) (fun t k => XS.iloadN X0.here hx rfl (hb hby d4_33) rfl  k) ?_
  refine own_go (b := s₁.setTop (mkF m 36 #[iv (own_ng N), iv 9, rv bb, iv (own_ng (N / 10 / 10)), .unset, iv 9, iv 0] [(.int 100), (.int (own_ng (N / 10 / 10)))])) (fun t k => XS.bipush X0.here hx rfl (hb hby d4_34) k) ?_
  refine own_go (b := s₁.setTop (mkF m 37 #[iv (own_ng N), iv 9, rv bb, iv (own_ng (N / 10 / 10)), .unset, iv 9, iv 0] [(.int ((own_ng (N / 10 / 10)) * (100 : Int32)))])) (fun t k => XS.imul X0.here hx rfl (hb hby d4_36) rfl k) ?_
  refine own_go (b := s₁.setTop (mkF m 38 #[iv (own_ng N), iv 9, rv bb, iv (own_ng (N / 10 / 10)), .unset, iv 9, iv 0] [(.int (own_ng N)), (.int ((own_ng (N / 10 / 10)) * (100 : Int32)))])) (fun t k => XS.iloadN X0.here hx rfl (hb hby d4_37) rfl  k) ?_
  refine own_go (b := s₁.setTop (mkF m 39 #[iv (own_ng N), iv 9, rv bb, iv (own_ng (N / 10 / 10)), .unset, iv 9, iv 0] [(.int (((own_ng (N / 10 / 10)) * (100 : Int32)) - (own_ng N)))])) (fun t k => XS.isub X0.here hx rfl (hb hby d4_38) rfl k) ?_
  refine own_go (b := s₁.setTop (mkF m 41 #[iv (own_ng N), iv 9, rv bb, iv (own_ng (N / 10 / 10)), iv (((own_ng (N / 10 / 10)) * (100 : Int32)) - (own_ng N)), iv 9, iv 0] [])) (fun t k => XS.istore X0.here hx rfl (hb hby d4_39) rfl (l' := #[iv (own_ng N), iv 9, rv bb, iv (own_ng (N / 10 / 10)), iv (((own_ng (N / 10 / 10)) * (100 : Int32)) - (own_ng N)), iv 9, iv 0]) rfl k) ?_
  rw [own_ng_rem (a := N) (by omega)]
  refine own_go (b := s₁.setTop (mkF m 42 #[iv (own_ng N), iv 9, rv bb, iv (own_ng (N / 10 / 10)), iv ((N % 100).toInt32), iv 9, iv 0] [(.int (own_ng (N / 10 / 10)))])) (fun t k => XS.iloadN X0.here hx rfl (hb hby d4_41) rfl  k) ?_
  refine own_go (b := s₁.setTop (mkF m 43 #[iv (own_ng (N / 10 / 10)), iv 9, rv bb, iv (own_ng (N / 10 / 10)), iv ((N % 100).toInt32), iv 9, iv 0] [])) (fun t k => XS.istoreN X0.here hx rfl (hb hby d4_42) rfl (l' := #[iv (own_ng (N / 10 / 10)), iv 9, rv bb, iv (own_ng (N / 10 / 10)), iv ((N % 100).toInt32), iv 9, iv 0]) rfl k) ?_
  refine own_go (b := s₁.setTop (mkF m 44 #[iv (own_ng (N / 10 / 10)), iv 9, rv bb, iv (own_ng (N / 10 / 10)), iv ((N % 100).toInt32), iv 9, iv 0] [(.ref bb)])) (fun t k => XS.aloadN X0.here hx rfl (hb hby d4_43) rfl rfl k) ?_
  refine own_go (b := s₁.setTop (mkF m 47 #[iv (own_ng (N / 10 / 10)), iv 9, rv bb, iv (own_ng (N / 10 / 10)), iv ((N % 100).toInt32), iv 8, iv 0] [(.ref bb)])) (fun t k => XS.iinc X0.here hx rfl (hb hby d4_44) rfl (l' := #[iv (own_ng (N / 10 / 10)), iv 9, rv bb, iv (own_ng (N / 10 / 10)), iv ((N % 100).toInt32), iv 8, iv 0]) rfl k) ?_
  refine own_go (b := s₁.setTop (mkF m 49 #[iv (own_ng (N / 10 / 10)), iv 9, rv bb, iv (own_ng (N / 10 / 10)), iv ((N % 100).toInt32), iv 8, iv 0] [(.int 8), (.ref bb)])) (fun t k => XS.iload X0.here hx rfl (hb hby d4_47) rfl  k) ?_
  obtain ⟨T1, X1, e1, st1⟩ := getS2 X0 hx hZ hown (host := "") (Or.inl (hw _ (List.mem_of_getElem? (i := 20) rfl))) Via.refl e0 (SO.ext Od.2) (g := (mkF m 49 #[iv (own_ng (N / 10 / 10)), iv 9, rv bb, iv (own_ng (N / 10 / 10)), iv ((N % 100).toInt32), iv 8, iv 0] [(.int 8), (.ref bb)])) rfl (hb hby d4_49)
  refine own_go (b := T1.setTop (mkF m 52 #[iv (own_ng (N / 10 / 10)), iv 9, rv bb, iv (own_ng (N / 10 / 10)), iv ((N % 100).toInt32), iv 8, iv 0] [(.ref dO), (.int 8), (.ref bb)])) st1 ?_
  refine own_go (b := T1.setTop (mkF m 54 #[iv (own_ng (N / 10 / 10)), iv 9, rv bb, iv (own_ng (N / 10 / 10)), iv ((N % 100).toInt32), iv 8, iv 0] [(.int ((N % 100).toInt32)), (.ref dO), (.int 8), (.ref bb)])) (fun t k => XS.iload X1.here hx rfl (hb hby d4_52) rfl  k) ?_
  have hq2 := hO (N % 100) (by omega)
  rw [own_d_ones] at hq2
  have ar2 := AO.ext Od.2
  refine own_go (b := T1.setTop (mkF m 55 #[iv (own_ng (N / 10 / 10)), iv 9, rv bb, iv (own_ng (N / 10 / 10)), iv ((N % 100).toInt32), iv 8, iv 0] [(.int (own_d N)), (.int 8), (.ref bb)])) (fun t k => X1.baloadBytes hx (j := ((N % 100).toInt32)) (v := (.int (own_d N))) (by rw [e1]; exact ar2.1) (State.isArrayOf_alike hZ.alike ar2.2.1) ar2.2.2 hq2.1 hq2.2 (g := (mkF m 54 #[iv (own_ng (N / 10 / 10)), iv 9, rv bb, iv (own_ng (N / 10 / 10)), iv ((N % 100).toInt32), iv 8, iv 0] [(.int ((N % 100).toInt32)), (.ref dO), (.int 8), (.ref bb)])) rfl rfl (hb hby d4_54) t k) ?_
  obtain ⟨cl3, Ar3, qc3, Sz3, Ng3, Hs3, Ft3⟩ := id Vb
  have hin3 : ¬ ((8 : Int32) < 0 ∨ cl3.slots.size ≤ ((8 : Int32)).toNatClampNeg) := inb_of Sz3 ⟨by decide, by decide⟩
  obtain ⟨T4, h4, X4, e4, W4, st4⟩ := stB X1 hx hZ e1 Ar3 (j := (8 : Int32)) hin3 (g := (mkF m 55 #[iv (own_ng (N / 10 / 10)), iv 9, rv bb, iv (own_ng (N / 10 / 10)), iv ((N % 100).toInt32), iv 8, iv 0] [(.int (own_d N)), (.int 8), (.ref bb)])) rfl rfl (hb hby d4_55)
  have V_bb_4 : Arv Z h4 bb kb .byte (9 : Int32) [(.int 0), (.int 0), (.int 0), (.int 0), (.int 0), (.int 0), (.int 0), (.int 0), (.int (nar .byte (own_d N)))] (.int (0 : Int32)) := Arv.set Ar3 qc3 Sz3 Ng3 Hs3 Ft3 (fits_nar_byte _) W4 8 rfl (Nat.le_of_ble_eq_true rfl)
  have Zs4 : n0 ≤ h4.size := Nat.le_trans Z0 (Keep.of_wr W4).1
  have N4 := Fr.snoc X4 N0 gb
  have Kp4 : Keep h0 h4 [bb] := (Keep.refl h0 [bb]).wr W4 (Or.inl (List.mem_of_getElem? (i := 0) rfl))
  have Ol4 := Od.wr W4 gb
  refine own_go (b := T4.setTop (mkF m 56 #[iv (own_ng (N / 10 / 10)), iv 9, rv bb, iv (own_ng (N / 10 / 10)), iv ((N % 100).toInt32), iv 8, iv 0] [])) st4 ?_
  refine own_go (b := T4.setTop (mkF m 57 #[iv (own_ng (N / 10 / 10)), iv 9, rv bb, iv (own_ng (N / 10 / 10)), iv ((N % 100).toInt32), iv 8, iv 0] [(.ref bb)])) (fun t k => XS.aloadN X4.here hx rfl (hb hby d4_56) rfl rfl k) ?_
  refine own_go (b := T4.setTop (mkF m 60 #[iv (own_ng (N / 10 / 10)), iv 9, rv bb, iv (own_ng (N / 10 / 10)), iv ((N % 100).toInt32), iv 7, iv 0] [(.ref bb)])) (fun t k => XS.iinc X4.here hx rfl (hb hby d4_57) rfl (l' := #[iv (own_ng (N / 10 / 10)), iv 9, rv bb, iv (own_ng (N / 10 / 10)), iv ((N % 100).toInt32), iv 7, iv 0]) rfl k) ?_
  refine own_go (b := T4.setTop (mkF m 62 #[iv (own_ng (N / 10 / 10)), iv 9, rv bb, iv (own_ng (N / 10 / 10)), iv ((N % 100).toInt32), iv 7, iv 0] [(.int 7), (.ref bb)])) (fun t k => XS.iload X4.here hx rfl (hb hby d4_60) rfl  k) ?_
  obtain ⟨T5, X5, e5, st5⟩ := getS2 X4 hx hZ hown (host := "") (Or.inl (hw _ (List.mem_of_getElem? (i := 126) rfl))) Via.refl e4 (ST.ext Ol4.2) (g := (mkF m 62 #[iv (own_ng (N / 10 / 10)), iv 9, rv bb, iv (own_ng (N / 10 / 10)), iv ((N % 100).toInt32), iv 7, iv 0] [(.int 7), (.ref bb)])) rfl (hb hby d4_62)
  refine own_go (b := T5.setTop (mkF m 65 #[iv (own_ng (N / 10 / 10)), iv 9, rv bb, iv (own_ng (N / 10 / 10)), iv ((N % 100).toInt32), iv 7, iv 0] [(.ref dT), (.int 7), (.ref bb)])) st5 ?_
  refine own_go (b := T5.setTop (mkF m 67 #[iv (own_ng (N / 10 / 10)), iv 9, rv bb, iv (own_ng (N / 10 / 10)), iv ((N % 100).toInt32), iv 7, iv 0] [(.int ((N % 100).toInt32)), (.ref dT), (.int 7), (.ref bb)])) (fun t k => XS.iload X5.here hx rfl (hb hby d4_65) rfl  k) ?_
  have hq6 := hT (N % 100) (by omega)
  rw [own_d_tens] at hq6
  have ar6 := AT.ext Ol4.2
  refine own_go (b := T5.setTop (mkF m 68 #[iv (own_ng (N / 10 / 10)), iv 9, rv bb, iv (own_ng (N / 10 / 10)), iv ((N % 100).toInt32), iv 7, iv 0] [(.int (own_d (N / 10))), (.int 7), (.ref bb)])) (fun t k => X5.baloadBytes hx (j := ((N % 100).toInt32)) (v := (.int (own_d (N / 10)))) (by rw [e5]; exact ar6.1) (State.isArrayOf_alike hZ.alike ar6.2.1) ar6.2.2 hq6.1 hq6.2 (g := (mkF m 67 #[iv (own_ng (N / 10 / 10)), iv 9, rv bb, iv (own_ng (N / 10 / 10)), iv ((N % 100).toInt32), iv 7, iv 0] [(.int ((N % 100).toInt32)), (.ref dT), (.int 7), (.ref bb)])) rfl rfl (hb hby d4_67) t k) ?_
  obtain ⟨cl7, Ar7, qc7, Sz7, Ng7, Hs7, Ft7⟩ := id V_bb_4
  have hin7 : ¬ ((7 : Int32) < 0 ∨ cl7.slots.size ≤ ((7 : Int32)).toNatClampNeg) := inb_of Sz7 ⟨by decide, by decide⟩
  obtain ⟨T8, h8, X8, e8, W8, st8⟩ := stB X5 hx hZ e5 Ar7 (j := (7 : Int32)) hin7 (g := (mkF m 68 #[iv (own_ng (N / 10 / 10)), iv 9, rv bb, iv (own_ng (N / 10 / 10)), iv ((N % 100).toInt32), iv 7, iv 0] [(.int (own_d (N / 10))), (.int 7), (.ref bb)])) rfl rfl (hb hby d4_68)
  have V_bb_8 : Arv Z h8 bb kb .byte (9 : Int32) [(.int 0), (.int 0), (.int 0), (.int 0), (.int 0), (.int 0), (.int 0), (.int (nar .byte (own_d (N / 10)))), (.int (nar .byte (own_d N)))] (.int (0 : Int32)) := Arv.set Ar7 qc7 Sz7 Ng7 Hs7 Ft7 (fits_nar_byte _) W8 7 rfl (Nat.le_of_ble_eq_true rfl)
  have Zs8 : n0 ≤ h8.size := Nat.le_trans Zs4 (Keep.of_wr W8).1
  have N8 := Fr.snoc X8 N4 gb
  have Kp8 : Keep h0 h8 [bb] := Kp4.wr W8 (Or.inl (List.mem_of_getElem? (i := 0) rfl))
  have Ol8 := Ol4.wr W8 gb
  refine own_go (b := T8.setTop (mkF m 69 #[iv (own_ng (N / 10 / 10)), iv 9, rv bb, iv (own_ng (N / 10 / 10)), iv ((N % 100).toInt32), iv 7, iv 0] [])) st8 ?_
  refine own_go (b := T8.setTop (mkF m 22 #[iv (own_ng (N / 10 / 10)), iv 9, rv bb, iv (own_ng (N / 10 / 10)), iv ((N % 100).toInt32), iv 7, iv 0] [])) (fun t k => XS.goto X8.here hx rfl (pc0 := 69) (pc' := 22) rfl (hb hby d4_69) (by decide) (by decide) k) ?_
  refine own_go (b := T8.setTop (mkF m 23 #[iv (own_ng (N / 10 / 10)), iv 9, rv bb, iv (own_ng (N / 10 / 10)), iv ((N % 100).toInt32), iv 7, iv 0] [(.int (own_ng (N / 10 / 10)))])) (fun t k => XS.iloadN X8.here hx rfl (hb hby d4_22) rfl  k) ?_
  refine own_go (b := T8.setTop (mkF m 25 #[iv (own_ng (N / 10 / 10)), iv 9, rv bb, iv (own_ng (N / 10 / 10)), iv ((N % 100).toInt32), iv 7, iv 0] [(.int (-100)), (.int (own_ng (N / 10 / 10)))])) (fun t k => XS.bipush X8.here hx rfl (hb hby d4_23) k) ?_
  refine own_go (b := T8.setTop (mkF m 28 #[iv (own_ng (N / 10 / 10)), iv 9, rv bb, iv (own_ng (N / 10 / 10)), iv ((N % 100).toInt32), iv 7, iv 0] [])) (fun t k => XS.icmpNo X8.here hx rfl (hb hby d4_25) rfl (flt (own_ng_ngt (m := 100) (by omega) (by decide) (by omega))).2.2.1 k) ?_
  refine own_go (b := T8.setTop (mkF m 29 #[iv (own_ng (N / 10 / 10)), iv 9, rv bb, iv (own_ng (N / 10 / 10)), iv ((N % 100).toInt32), iv 7, iv 0] [(.int (own_ng (N / 10 / 10)))])) (fun t k => XS.iloadN X8.here hx rfl (hb hby d4_28) rfl  k) ?_
  refine own_go (b := T8.setTop (mkF m 31 #[iv (own_ng (N / 10 / 10)), iv 9, rv bb, iv (own_ng (N / 10 / 10)), iv ((N % 100).toInt32), iv 7, iv 0] [(.int 100), (.int (own_ng (N / 10 / 10)))])) (fun t k => XS.bipush X8.here hx rfl (hb hby d4_29) k) ?_
  refine own_go (b := T8.setTop (mkF m 32 #[iv (own_ng (N / 10 / 10)), iv 9, rv bb, iv (own_ng (N / 10 / 10)), iv ((N % 100).toInt32), iv 7, iv 0] [(.int ((own_ng (N / 10 / 10)) / (100 : Int32)))])) (fun t k => XS.idiv X8.here hx rfl (hb hby d4_31) rfl (by decide) k) ?_
  refine own_go (b := T8.setTop (mkF m 33 #[iv (own_ng (N / 10 / 10)), iv 9, rv bb, iv ((own_ng (N / 10 / 10)) / (100 : Int32)), iv ((N % 100).toInt32), iv 7, iv 0] [])) (fun t k => XS.istoreN X8.here hx rfl (hb hby d4_32) rfl (l' := #[iv (own_ng (N / 10 / 10)), iv 9, rv bb, iv ((own_ng (N / 10 / 10)) / (100 : Int32)), iv ((N % 100).toInt32), iv 7, iv 0]) rfl k) ?_
  rw [own_ng_div (a := (N / 10 / 10)) (by omega)]
  refine own_go (b := T8.setTop (mkF m 34 #[iv (own_ng (N / 10 / 10)), iv 9, rv bb, iv (own_ng ((N / 10 / 10) / 10 / 10)), iv ((N % 100).toInt32), iv 7, iv 0] [(.int (own_ng ((N / 10 / 10) / 10 / 10)))])) (fun t k => XS.iloadN X8.here hx rfl (hb hby d4_33) rfl  k) ?_
  refine own_go (b := T8.setTop (mkF m 36 #[iv (own_ng (N / 10 / 10)), iv 9, rv bb, iv (own_ng ((N / 10 / 10) / 10 / 10)), iv ((N % 100).toInt32), iv 7, iv 0] [(.int 100), (.int (own_ng ((N / 10 / 10) / 10 / 10)))])) (fun t k => XS.bipush X8.here hx rfl (hb hby d4_34) k) ?_
  refine own_go (b := T8.setTop (mkF m 37 #[iv (own_ng (N / 10 / 10)), iv 9, rv bb, iv (own_ng ((N / 10 / 10) / 10 / 10)), iv ((N % 100).toInt32), iv 7, iv 0] [(.int ((own_ng ((N / 10 / 10) / 10 / 10)) * (100 : Int32)))])) (fun t k => XS.imul X8.here hx rfl (hb hby d4_36) rfl k) ?_
  refine own_go (b := T8.setTop (mkF m 38 #[iv (own_ng (N / 10 / 10)), iv 9, rv bb, iv (own_ng ((N / 10 / 10) / 10 / 10)), iv ((N % 100).toInt32), iv 7, iv 0] [(.int (own_ng (N / 10 / 10))), (.int ((own_ng ((N / 10 / 10) / 10 / 10)) * (100 : Int32)))])) (fun t k => XS.iloadN X8.here hx rfl (hb hby d4_37) rfl  k) ?_
  refine own_go (b := T8.setTop (mkF m 39 #[iv (own_ng (N / 10 / 10)), iv 9, rv bb, iv (own_ng ((N / 10 / 10) / 10 / 10)), iv ((N % 100).toInt32), iv 7, iv 0] [(.int (((own_ng ((N / 10 / 10) / 10 / 10)) * (100 : Int32)) - (own_ng (N / 10 / 10))))])) (fun t k => XS.isub X8.here hx rfl (hb hby d4_38) rfl k) ?_
  refine own_go (b := T8.setTop (mkF m 41 #[iv (own_ng (N / 10 / 10)), iv 9, rv bb, iv (own_ng ((N / 10 / 10) / 10 / 10)), iv (((own_ng ((N / 10 / 10) / 10 / 10)) * (100 : Int32)) - (own_ng (N / 10 / 10))), iv 7, iv 0] [])) (fun t k => XS.istore X8.here hx rfl (hb hby d4_39) rfl (l' := #[iv (own_ng (N / 10 / 10)), iv 9, rv bb, iv (own_ng ((N / 10 / 10) / 10 / 10)), iv (((own_ng ((N / 10 / 10) / 10 / 10)) * (100 : Int32)) - (own_ng (N / 10 / 10))), iv 7, iv 0]) rfl k) ?_
  rw [own_ng_rem (a := (N / 10 / 10)) (by omega)]
  refine own_go (b := T8.setTop (mkF m 42 #[iv (own_ng (N / 10 / 10)), iv 9, rv bb, iv (own_ng ((N / 10 / 10) / 10 / 10)), iv (((N / 10 / 10) % 100).toInt32), iv 7, iv 0] [(.int (own_ng ((N / 10 / 10) / 10 / 10)))])) (fun t k => XS.iloadN X8.here hx rfl (hb hby d4_41) rfl  k) ?_
  refine own_go (b := T8.setTop (mkF m 43 #[iv (own_ng ((N / 10 / 10) / 10 / 10)), iv 9, rv bb, iv (own_ng ((N / 10 / 10) / 10 / 10)), iv (((N / 10 / 10) % 100).toInt32), iv 7, iv 0] [])) (fun t k => XS.istoreN X8.here hx rfl (hb hby d4_42) rfl (l' := #[iv (own_ng ((N / 10 / 10) / 10 / 10)), iv 9, rv bb, iv (own_ng ((N / 10 / 10) / 10 / 10)), iv (((N / 10 / 10) % 100).toInt32), iv 7, iv 0]) rfl k) ?_
  refine own_go (b := T8.setTop (mkF m 44 #[iv (own_ng ((N / 10 / 10) / 10 / 10)), iv 9, rv bb, iv (own_ng ((N / 10 / 10) / 10 / 10)), iv (((N / 10 / 10) % 100).toInt32), iv 7, iv 0] [(.ref bb)])) (fun t k => XS.aloadN X8.here hx rfl (hb hby d4_43) rfl rfl k) ?_
  refine own_go (b := T8.setTop (mkF m 47 #[iv (own_ng ((N / 10 / 10) / 10 / 10)), iv 9, rv bb, iv (own_ng ((N / 10 / 10) / 10 / 10)), iv (((N / 10 / 10) % 100).toInt32), iv 6, iv 0] [(.ref bb)])) (fun t k => XS.iinc X8.here hx rfl (hb hby d4_44) rfl (l' := #[iv (own_ng ((N / 10 / 10) / 10 / 10)), iv 9, rv bb, iv (own_ng ((N / 10 / 10) / 10 / 10)), iv (((N / 10 / 10) % 100).toInt32), iv 6, iv 0]) rfl k) ?_
  refine own_go (b := T8.setTop (mkF m 49 #[iv (own_ng ((N / 10 / 10) / 10 / 10)), iv 9, rv bb, iv (own_ng ((N / 10 / 10) / 10 / 10)), iv (((N / 10 / 10) % 100).toInt32), iv 6, iv 0] [(.int 6), (.ref bb)])) (fun t k => XS.iload X8.here hx rfl (hb hby d4_47) rfl  k) ?_
  obtain ⟨T9, X9, e9, st9⟩ := getS2 X8 hx hZ hown (host := "") (Or.inl (hw _ (List.mem_of_getElem? (i := 20) rfl))) Via.refl e8 (SO.ext Ol8.2) (g := (mkF m 49 #[iv (own_ng ((N / 10 / 10) / 10 / 10)), iv 9, rv bb, iv (own_ng ((N / 10 / 10) / 10 / 10)), iv (((N / 10 / 10) % 100).toInt32), iv 6, iv 0] [(.int 6), (.ref bb)])) rfl (hb hby d4_49)
  refine own_go (b := T9.setTop (mkF m 52 #[iv (own_ng ((N / 10 / 10) / 10 / 10)), iv 9, rv bb, iv (own_ng ((N / 10 / 10) / 10 / 10)), iv (((N / 10 / 10) % 100).toInt32), iv 6, iv 0] [(.ref dO), (.int 6), (.ref bb)])) st9 ?_
  refine own_go (b := T9.setTop (mkF m 54 #[iv (own_ng ((N / 10 / 10) / 10 / 10)), iv 9, rv bb, iv (own_ng ((N / 10 / 10) / 10 / 10)), iv (((N / 10 / 10) % 100).toInt32), iv 6, iv 0] [(.int (((N / 10 / 10) % 100).toInt32)), (.ref dO), (.int 6), (.ref bb)])) (fun t k => XS.iload X9.here hx rfl (hb hby d4_52) rfl  k) ?_
  have hq10 := hO ((N / 10 / 10) % 100) (by omega)
  rw [own_d_ones] at hq10
  have ar10 := AO.ext Ol8.2
  refine own_go (b := T9.setTop (mkF m 55 #[iv (own_ng ((N / 10 / 10) / 10 / 10)), iv 9, rv bb, iv (own_ng ((N / 10 / 10) / 10 / 10)), iv (((N / 10 / 10) % 100).toInt32), iv 6, iv 0] [(.int (own_d (N / 10 / 10))), (.int 6), (.ref bb)])) (fun t k => X9.baloadBytes hx (j := (((N / 10 / 10) % 100).toInt32)) (v := (.int (own_d (N / 10 / 10)))) (by rw [e9]; exact ar10.1) (State.isArrayOf_alike hZ.alike ar10.2.1) ar10.2.2 hq10.1 hq10.2 (g := (mkF m 54 #[iv (own_ng ((N / 10 / 10) / 10 / 10)), iv 9, rv bb, iv (own_ng ((N / 10 / 10) / 10 / 10)), iv (((N / 10 / 10) % 100).toInt32), iv 6, iv 0] [(.int (((N / 10 / 10) % 100).toInt32)), (.ref dO), (.int 6), (.ref bb)])) rfl rfl (hb hby d4_54) t k) ?_
  obtain ⟨cl11, Ar11, qc11, Sz11, Ng11, Hs11, Ft11⟩ := id V_bb_8
  have hin11 : ¬ ((6 : Int32) < 0 ∨ cl11.slots.size ≤ ((6 : Int32)).toNatClampNeg) := inb_of Sz11 ⟨by decide, by decide⟩
  obtain ⟨T12, h12, X12, e12, W12, st12⟩ := stB X9 hx hZ e9 Ar11 (j := (6 : Int32)) hin11 (g := (mkF m 55 #[iv (own_ng ((N / 10 / 10) / 10 / 10)), iv 9, rv bb, iv (own_ng ((N / 10 / 10) / 10 / 10)), iv (((N / 10 / 10) % 100).toInt32), iv 6, iv 0] [(.int (own_d (N / 10 / 10))), (.int 6), (.ref bb)])) rfl rfl (hb hby d4_55)
  have V_bb_12 : Arv Z h12 bb kb .byte (9 : Int32) [(.int 0), (.int 0), (.int 0), (.int 0), (.int 0), (.int 0), (.int (nar .byte (own_d (N / 10 / 10)))), (.int (nar .byte (own_d (N / 10)))), (.int (nar .byte (own_d N)))] (.int (0 : Int32)) := Arv.set Ar11 qc11 Sz11 Ng11 Hs11 Ft11 (fits_nar_byte _) W12 6 rfl (Nat.le_of_ble_eq_true rfl)
  have Zs12 : n0 ≤ h12.size := Nat.le_trans Zs8 (Keep.of_wr W12).1
  have N12 := Fr.snoc X12 N8 gb
  have Kp12 : Keep h0 h12 [bb] := Kp8.wr W12 (Or.inl (List.mem_of_getElem? (i := 0) rfl))
  have Ol12 := Ol8.wr W12 gb
  refine own_go (b := T12.setTop (mkF m 56 #[iv (own_ng ((N / 10 / 10) / 10 / 10)), iv 9, rv bb, iv (own_ng ((N / 10 / 10) / 10 / 10)), iv (((N / 10 / 10) % 100).toInt32), iv 6, iv 0] [])) st12 ?_
  refine own_go (b := T12.setTop (mkF m 57 #[iv (own_ng ((N / 10 / 10) / 10 / 10)), iv 9, rv bb, iv (own_ng ((N / 10 / 10) / 10 / 10)), iv (((N / 10 / 10) % 100).toInt32), iv 6, iv 0] [(.ref bb)])) (fun t k => XS.aloadN X12.here hx rfl (hb hby d4_56) rfl rfl k) ?_
  refine own_go (b := T12.setTop (mkF m 60 #[iv (own_ng ((N / 10 / 10) / 10 / 10)), iv 9, rv bb, iv (own_ng ((N / 10 / 10) / 10 / 10)), iv (((N / 10 / 10) % 100).toInt32), iv 5, iv 0] [(.ref bb)])) (fun t k => XS.iinc X12.here hx rfl (hb hby d4_57) rfl (l' := #[iv (own_ng ((N / 10 / 10) / 10 / 10)), iv 9, rv bb, iv (own_ng ((N / 10 / 10) / 10 / 10)), iv (((N / 10 / 10) % 100).toInt32), iv 5, iv 0]) rfl k) ?_
  refine own_go (b := T12.setTop (mkF m 62 #[iv (own_ng ((N / 10 / 10) / 10 / 10)), iv 9, rv bb, iv (own_ng ((N / 10 / 10) / 10 / 10)), iv (((N / 10 / 10) % 100).toInt32), iv 5, iv 0] [(.int 5), (.ref bb)])) (fun t k => XS.iload X12.here hx rfl (hb hby d4_60) rfl  k) ?_
  obtain ⟨T13, X13, e13, st13⟩ := getS2 X12 hx hZ hown (host := "") (Or.inl (hw _ (List.mem_of_getElem? (i := 126) rfl))) Via.refl e12 (ST.ext Ol12.2) (g := (mkF m 62 #[iv (own_ng ((N / 10 / 10) / 10 / 10)), iv 9, rv bb, iv (own_ng ((N / 10 / 10) / 10 / 10)), iv (((N / 10 / 10) % 100).toInt32), iv 5, iv 0] [(.int 5), (.ref bb)])) rfl (hb hby d4_62)
  refine own_go (b := T13.setTop (mkF m 65 #[iv (own_ng ((N / 10 / 10) / 10 / 10)), iv 9, rv bb, iv (own_ng ((N / 10 / 10) / 10 / 10)), iv (((N / 10 / 10) % 100).toInt32), iv 5, iv 0] [(.ref dT), (.int 5), (.ref bb)])) st13 ?_
  refine own_go (b := T13.setTop (mkF m 67 #[iv (own_ng ((N / 10 / 10) / 10 / 10)), iv 9, rv bb, iv (own_ng ((N / 10 / 10) / 10 / 10)), iv (((N / 10 / 10) % 100).toInt32), iv 5, iv 0] [(.int (((N / 10 / 10) % 100).toInt32)), (.ref dT), (.int 5), (.ref bb)])) (fun t k => XS.iload X13.here hx rfl (hb hby d4_65) rfl  k) ?_
  have hq14 := hT ((N / 10 / 10) % 100) (by omega)
  rw [own_d_tens] at hq14
  have ar14 := AT.ext Ol12.2
  refine own_go (b := T13.setTop (mkF m 68 #[iv (own_ng ((N / 10 / 10) / 10 / 10)), iv 9, rv bb, iv (own_ng ((N / 10 / 10) / 10 / 10)), iv (((N / 10 / 10) % 100).toInt32), iv 5, iv 0] [(.int (own_d ((N / 10 / 10) / 10))), (.int 5), (.ref bb)])) (fun t k => X13.baloadBytes hx (j := (((N / 10 / 10) % 100).toInt32)) (v := (.int (own_d ((N / 10 / 10) / 10)))) (by rw [e13]; exact ar14.1) (State.isArrayOf_alike hZ.alike ar14.2.1) ar14.2.2 hq14.1 hq14.2 (g := (mkF m 67 #[iv (own_ng ((N / 10 / 10) / 10 / 10)), iv 9, rv bb, iv (own_ng ((N / 10 / 10) / 10 / 10)), iv (((N / 10 / 10) % 100).toInt32), iv 5, iv 0] [(.int (((N / 10 / 10) % 100).toInt32)), (.ref dT), (.int 5), (.ref bb)])) rfl rfl (hb hby d4_67) t k) ?_
  obtain ⟨cl15, Ar15, qc15, Sz15, Ng15, Hs15, Ft15⟩ := id V_bb_12
  have hin15 : ¬ ((5 : Int32) < 0 ∨ cl15.slots.size ≤ ((5 : Int32)).toNatClampNeg) := inb_of Sz15 ⟨by decide, by decide⟩
  obtain ⟨T16, h16, X16, e16, W16, st16⟩ := stB X13 hx hZ e13 Ar15 (j := (5 : Int32)) hin15 (g := (mkF m 68 #[iv (own_ng ((N / 10 / 10) / 10 / 10)), iv 9, rv bb, iv (own_ng ((N / 10 / 10) / 10 / 10)), iv (((N / 10 / 10) % 100).toInt32), iv 5, iv 0] [(.int (own_d ((N / 10 / 10) / 10))), (.int 5), (.ref bb)])) rfl rfl (hb hby d4_68)
  have V_bb_16 : Arv Z h16 bb kb .byte (9 : Int32) [(.int 0), (.int 0), (.int 0), (.int 0), (.int 0), (.int (nar .byte (own_d ((N / 10 / 10) / 10)))), (.int (nar .byte (own_d (N / 10 / 10)))), (.int (nar .byte (own_d (N / 10)))), (.int (nar .byte (own_d N)))] (.int (0 : Int32)) := Arv.set Ar15 qc15 Sz15 Ng15 Hs15 Ft15 (fits_nar_byte _) W16 5 rfl (Nat.le_of_ble_eq_true rfl)
  have Zs16 : n0 ≤ h16.size := Nat.le_trans Zs12 (Keep.of_wr W16).1
  have N16 := Fr.snoc X16 N12 gb
  have Kp16 : Keep h0 h16 [bb] := Kp12.wr W16 (Or.inl (List.mem_of_getElem? (i := 0) rfl))
  have Ol16 := Ol12.wr W16 gb
  refine own_go (b := T16.setTop (mkF m 69 #[iv (own_ng ((N / 10 / 10) / 10 / 10)), iv 9, rv bb, iv (own_ng ((N / 10 / 10) / 10 / 10)), iv (((N / 10 / 10) % 100).toInt32), iv 5, iv 0] [])) st16 ?_
  refine own_go (b := T16.setTop (mkF m 22 #[iv (own_ng ((N / 10 / 10) / 10 / 10)), iv 9, rv bb, iv (own_ng ((N / 10 / 10) / 10 / 10)), iv (((N / 10 / 10) % 100).toInt32), iv 5, iv 0] [])) (fun t k => XS.goto X16.here hx rfl (pc0 := 69) (pc' := 22) rfl (hb hby d4_69) (by decide) (by decide) k) ?_
  refine own_go (b := T16.setTop (mkF m 23 #[iv (own_ng ((N / 10 / 10) / 10 / 10)), iv 9, rv bb, iv (own_ng ((N / 10 / 10) / 10 / 10)), iv (((N / 10 / 10) % 100).toInt32), iv 5, iv 0] [(.int (own_ng ((N / 10 / 10) / 10 / 10)))])) (fun t k => XS.iloadN X16.here hx rfl (hb hby d4_22) rfl  k) ?_
  refine own_go (b := T16.setTop (mkF m 25 #[iv (own_ng ((N / 10 / 10) / 10 / 10)), iv 9, rv bb, iv (own_ng ((N / 10 / 10) / 10 / 10)), iv (((N / 10 / 10) % 100).toInt32), iv 5, iv 0] [(.int (-100)), (.int (own_ng ((N / 10 / 10) / 10 / 10)))])) (fun t k => XS.bipush X16.here hx rfl (hb hby d4_23) k) ?_
  refine own_go (b := T16.setTop (mkF m 28 #[iv (own_ng ((N / 10 / 10) / 10 / 10)), iv 9, rv bb, iv (own_ng ((N / 10 / 10) / 10 / 10)), iv (((N / 10 / 10) % 100).toInt32), iv 5, iv 0] [])) (fun t k => XS.icmpNo X16.here hx rfl (hb hby d4_25) rfl (flt (own_ng_ngt (m := 100) (by omega) (by decide) (by omega))).2.2.1 k) ?_
  refine own_go (b := T16.setTop (mkF m 29 #[iv (own_ng ((N / 10 / 10) / 10 / 10)), iv 9, rv bb, iv (own_ng ((N / 10 / 10) / 10 / 10)), iv (((N / 10 / 10) % 100).toInt32), iv 5, iv 0] [(.int (own_ng ((N / 10 / 10) / 10 / 10)))])) (fun t k => XS.iloadN X16.here hx rfl (hb hby d4_28) rfl  k) ?_
  refine own_go (b := T16.setTop (mkF m 31 #[iv (own_ng ((N / 10 / 10) / 10 / 10)), iv 9, rv bb, iv (own_ng ((N / 10 / 10) / 10 / 10)), iv (((N / 10 / 10) % 100).toInt32), iv 5, iv 0] [(.int 100), (.int (own_ng ((N / 10 / 10) / 10 / 10)))])) (fun t k => XS.bipush X16.here hx rfl (hb hby d4_29) k) ?_
  refine own_go (b := T16.setTop (mkF m 32 #[iv (own_ng ((N / 10 / 10) / 10 / 10)), iv 9, rv bb, iv (own_ng ((N / 10 / 10) / 10 / 10)), iv (((N / 10 / 10) % 100).toInt32), iv 5, iv 0] [(.int ((own_ng ((N / 10 / 10) / 10 / 10)) / (100 : Int32)))])) (fun t k => XS.idiv X16.here hx rfl (hb hby d4_31) rfl (by decide) k) ?_
  refine own_go (b := T16.setTop (mkF m 33 #[iv (own_ng ((N / 10 / 10) / 10 / 10)), iv 9, rv bb, iv ((own_ng ((N / 10 / 10) / 10 / 10)) / (100 : Int32)), iv (((N / 10 / 10) % 100).toInt32), iv 5, iv 0] [])) (fun t k => XS.istoreN X16.here hx rfl (hb hby d4_32) rfl (l' := #[iv (own_ng ((N / 10 / 10) / 10 / 10)), iv 9, rv bb, iv ((own_ng ((N / 10 / 10) / 10 / 10)) / (100 : Int32)), iv (((N / 10 / 10) % 100).toInt32), iv 5, iv 0]) rfl k) ?_
  rw [own_ng_div (a := ((N / 10 / 10) / 10 / 10)) (by omega)]
  refine own_go (b := T16.setTop (mkF m 34 #[iv (own_ng ((N / 10 / 10) / 10 / 10)), iv 9, rv bb, iv (own_ng (((N / 10 / 10) / 10 / 10) / 10 / 10)), iv (((N / 10 / 10) % 100).toInt32), iv 5, iv 0] [(.int (own_ng (((N / 10 / 10) / 10 / 10) / 10 / 10)))])) (fun t k => XS.iloadN X16.here hx rfl (hb hby d4_33) rfl  k) ?_
  refine own_go (b := T16.setTop (mkF m 36 #[iv (own_ng ((N / 10 / 10) / 10 / 10)), iv 9, rv bb, iv (own_ng (((N / 10 / 10) / 10 / 10) / 10 / 10)), iv (((N / 10 / 10) % 100).toInt32), iv 5, iv 0] [(.int 100), (.int (own_ng (((N / 10 / 10) / 10 / 10) / 10 / 10)))])) (fun t k => XS.bipush X16.here hx rfl (hb hby d4_34) k) ?_
  refine own_go (b := T16.setTop (mkF m 37 #[iv (own_ng ((N / 10 / 10) / 10 / 10)), iv 9, rv bb, iv (own_ng (((N / 10 / 10) / 10 / 10) / 10 / 10)), iv (((N / 10 / 10) % 100).toInt32), iv 5, iv 0] [(.int ((own_ng (((N / 10 / 10) / 10 / 10) / 10 / 10)) * (100 : Int32)))])) (fun t k => XS.imul X16.here hx rfl (hb hby d4_36) rfl k) ?_
  refine own_go (b := T16.setTop (mkF m 38 #[iv (own_ng ((N / 10 / 10) / 10 / 10)), iv 9, rv bb, iv (own_ng (((N / 10 / 10) / 10 / 10) / 10 / 10)), iv (((N / 10 / 10) % 100).toInt32), iv 5, iv 0] [(.int (own_ng ((N / 10 / 10) / 10 / 10))), (.int ((own_ng (((N / 10 / 10) / 10 / 10) / 10 / 10)) * (100 : Int32)))])) (fun t k => XS.iloadN X16.here hx rfl (hb hby d4_37) rfl  k) ?_
  refine own_go (b := T16.setTop (mkF m 39 #[iv (own_ng ((N / 10 / 10) / 10 / 10)), iv 9, rv bb, iv (own_ng (((N / 10 / 10) / 10 / 10) / 10 / 10)), iv (((N / 10 / 10) % 100).toInt32), iv 5, iv 0] [(.int (((own_ng (((N / 10 / 10) / 10 / 10) / 10 / 10)) * (100 : Int32)) - (own_ng ((N / 10 / 10) / 10 / 10))))])) (fun t k => XS.isub X16.here hx rfl (hb hby d4_38) rfl k) ?_
  refine own_go (b := T16.setTop (mkF m 41 #[iv (own_ng ((N / 10 / 10) / 10 / 10)), iv 9, rv bb, iv (own_ng (((N / 10 / 10) / 10 / 10) / 10 / 10)), iv (((own_ng (((N / 10 / 10) / 10 / 10) / 10 / 10)) * (100 : Int32)) - (own_ng ((N / 10 / 10) / 10 / 10))), iv 5, iv 0] [])) (fun t k => XS.istore X16.here hx rfl (hb hby d4_39) rfl (l' := #[iv (own_ng ((N / 10 / 10) / 10 / 10)), iv 9, rv bb, iv (own_ng (((N / 10 / 10) / 10 / 10) / 10 / 10)), iv (((own_ng (((N / 10 / 10) / 10 / 10) / 10 / 10)) * (100 : Int32)) - (own_ng ((N / 10 / 10) / 10 / 10))), iv 5, iv 0]) rfl k) ?_
  rw [own_ng_rem (a := ((N / 10 / 10) / 10 / 10)) (by omega)]
  refine own_go (b := T16.setTop (mkF m 42 #[iv (own_ng ((N / 10 / 10) / 10 / 10)), iv 9, rv bb, iv (own_ng (((N / 10 / 10) / 10 / 10) / 10 / 10)), iv ((((N / 10 / 10) / 10 / 10) % 100).toInt32), iv 5, iv 0] [(.int (own_ng (((N / 10 / 10) / 10 / 10) / 10 / 10)))])) (fun t k => XS.iloadN X16.here hx rfl (hb hby d4_41) rfl  k) ?_
  refine own_go (b := T16.setTop (mkF m 43 #[iv (own_ng (((N / 10 / 10) / 10 / 10) / 10 / 10)), iv 9, rv bb, iv (own_ng (((N / 10 / 10) / 10 / 10) / 10 / 10)), iv ((((N / 10 / 10) / 10 / 10) % 100).toInt32), iv 5, iv 0] [])) (fun t k => XS.istoreN X16.here hx rfl (hb hby d4_42) rfl (l' := #[iv (own_ng (((N / 10 / 10) / 10 / 10) / 10 / 10)), iv 9, rv bb, iv (own_ng (((N / 10 / 10) / 10 / 10) / 10 / 10)), iv ((((N / 10 / 10) / 10 / 10) % 100).toInt32), iv 5, iv 0]) rfl k) ?_
  refine own_go (b := T16.setTop (mkF m 44 #[iv (own_ng (((N / 10 / 10) / 10 / 10) / 10 / 10)), iv 9, rv bb, iv (own_ng (((N / 10 / 10) / 10 / 10) / 10 / 10)), iv ((((N / 10 / 10) / 10 / 10) % 100).toInt32), iv 5, iv 0] [(.ref bb)])) (fun t k => XS.aloadN X16.here hx rfl (hb hby d4_43) rfl rfl k) ?_
  refine own_go (b := T16.setTop (mkF m 47 #[iv (own_ng (((N / 10 / 10) / 10 / 10) / 10 / 10)), iv 9, rv bb, iv (own_ng (((N / 10 / 10) / 10 / 10) / 10 / 10)), iv ((((N / 10 / 10) / 10 / 10) % 100).toInt32), iv 4, iv 0] [(.ref bb)])) (fun t k => XS.iinc X16.here hx rfl (hb hby d4_44) rfl (l' := #[iv (own_ng (((N / 10 / 10) / 10 / 10) / 10 / 10)), iv 9, rv bb, iv (own_ng (((N / 10 / 10) / 10 / 10) / 10 / 10)), iv ((((N / 10 / 10) / 10 / 10) % 100).toInt32), iv 4, iv 0]) rfl k) ?_
  refine own_go (b := T16.setTop (mkF m 49 #[iv (own_ng (((N / 10 / 10) / 10 / 10) / 10 / 10)), iv 9, rv bb, iv (own_ng (((N / 10 / 10) / 10 / 10) / 10 / 10)), iv ((((N / 10 / 10) / 10 / 10) % 100).toInt32), iv 4, iv 0] [(.int 4), (.ref bb)])) (fun t k => XS.iload X16.here hx rfl (hb hby d4_47) rfl  k) ?_
  obtain ⟨T17, X17, e17, st17⟩ := getS2 X16 hx hZ hown (host := "") (Or.inl (hw _ (List.mem_of_getElem? (i := 20) rfl))) Via.refl e16 (SO.ext Ol16.2) (g := (mkF m 49 #[iv (own_ng (((N / 10 / 10) / 10 / 10) / 10 / 10)), iv 9, rv bb, iv (own_ng (((N / 10 / 10) / 10 / 10) / 10 / 10)), iv ((((N / 10 / 10) / 10 / 10) % 100).toInt32), iv 4, iv 0] [(.int 4), (.ref bb)])) rfl (hb hby d4_49)
  refine own_go (b := T17.setTop (mkF m 52 #[iv (own_ng (((N / 10 / 10) / 10 / 10) / 10 / 10)), iv 9, rv bb, iv (own_ng (((N / 10 / 10) / 10 / 10) / 10 / 10)), iv ((((N / 10 / 10) / 10 / 10) % 100).toInt32), iv 4, iv 0] [(.ref dO), (.int 4), (.ref bb)])) st17 ?_
  refine own_go (b := T17.setTop (mkF m 54 #[iv (own_ng (((N / 10 / 10) / 10 / 10) / 10 / 10)), iv 9, rv bb, iv (own_ng (((N / 10 / 10) / 10 / 10) / 10 / 10)), iv ((((N / 10 / 10) / 10 / 10) % 100).toInt32), iv 4, iv 0] [(.int ((((N / 10 / 10) / 10 / 10) % 100).toInt32)), (.ref dO), (.int 4), (.ref bb)])) (fun t k => XS.iload X17.here hx rfl (hb hby d4_52) rfl  k) ?_
  have hq18 := hO (((N / 10 / 10) / 10 / 10) % 100) (by omega)
  rw [own_d_ones] at hq18
  have ar18 := AO.ext Ol16.2
  refine own_go (b := T17.setTop (mkF m 55 #[iv (own_ng (((N / 10 / 10) / 10 / 10) / 10 / 10)), iv 9, rv bb, iv (own_ng (((N / 10 / 10) / 10 / 10) / 10 / 10)), iv ((((N / 10 / 10) / 10 / 10) % 100).toInt32), iv 4, iv 0] [(.int (own_d ((N / 10 / 10) / 10 / 10))), (.int 4), (.ref bb)])) (fun t k => X17.baloadBytes hx (j := ((((N / 10 / 10) / 10 / 10) % 100).toInt32)) (v := (.int (own_d ((N / 10 / 10) / 10 / 10)))) (by rw [e17]; exact ar18.1) (State.isArrayOf_alike hZ.alike ar18.2.1) ar18.2.2 hq18.1 hq18.2 (g := (mkF m 54 #[iv (own_ng (((N / 10 / 10) / 10 / 10) / 10 / 10)), iv 9, rv bb, iv (own_ng (((N / 10 / 10) / 10 / 10) / 10 / 10)), iv ((((N / 10 / 10) / 10 / 10) % 100).toInt32), iv 4, iv 0] [(.int ((((N / 10 / 10) / 10 / 10) % 100).toInt32)), (.ref dO), (.int 4), (.ref bb)])) rfl rfl (hb hby d4_54) t k) ?_
  obtain ⟨cl19, Ar19, qc19, Sz19, Ng19, Hs19, Ft19⟩ := id V_bb_16
  have hin19 : ¬ ((4 : Int32) < 0 ∨ cl19.slots.size ≤ ((4 : Int32)).toNatClampNeg) := inb_of Sz19 ⟨by decide, by decide⟩
  obtain ⟨T20, h20, X20, e20, W20, st20⟩ := stB X17 hx hZ e17 Ar19 (j := (4 : Int32)) hin19 (g := (mkF m 55 #[iv (own_ng (((N / 10 / 10) / 10 / 10) / 10 / 10)), iv 9, rv bb, iv (own_ng (((N / 10 / 10) / 10 / 10) / 10 / 10)), iv ((((N / 10 / 10) / 10 / 10) % 100).toInt32), iv 4, iv 0] [(.int (own_d ((N / 10 / 10) / 10 / 10))), (.int 4), (.ref bb)])) rfl rfl (hb hby d4_55)
  have V_bb_20 : Arv Z h20 bb kb .byte (9 : Int32) [(.int 0), (.int 0), (.int 0), (.int 0), (.int (nar .byte (own_d ((N / 10 / 10) / 10 / 10)))), (.int (nar .byte (own_d ((N / 10 / 10) / 10)))), (.int (nar .byte (own_d (N / 10 / 10)))), (.int (nar .byte (own_d (N / 10)))), (.int (nar .byte (own_d N)))] (.int (0 : Int32)) := Arv.set Ar19 qc19 Sz19 Ng19 Hs19 Ft19 (fits_nar_byte _) W20 4 rfl (Nat.le_of_ble_eq_true rfl)
  have Zs20 : n0 ≤ h20.size := Nat.le_trans Zs16 (Keep.of_wr W20).1
  have N20 := Fr.snoc X20 N16 gb
  have Kp20 : Keep h0 h20 [bb] := Kp16.wr W20 (Or.inl (List.mem_of_getElem? (i := 0) rfl))
  have Ol20 := Ol16.wr W20 gb
  refine own_go (b := T20.setTop (mkF m 56 #[iv (own_ng (((N / 10 / 10) / 10 / 10) / 10 / 10)), iv 9, rv bb, iv (own_ng (((N / 10 / 10) / 10 / 10) / 10 / 10)), iv ((((N / 10 / 10) / 10 / 10) % 100).toInt32), iv 4, iv 0] [])) st20 ?_
  refine own_go (b := T20.setTop (mkF m 57 #[iv (own_ng (((N / 10 / 10) / 10 / 10) / 10 / 10)), iv 9, rv bb, iv (own_ng (((N / 10 / 10) / 10 / 10) / 10 / 10)), iv ((((N / 10 / 10) / 10 / 10) % 100).toInt32), iv 4, iv 0] [(.ref bb)])) (fun t k => XS.aloadN X20.here hx rfl (hb hby d4_56) rfl rfl k) ?_
  refine own_go (b := T20.setTop (mkF m 60 #[iv (own_ng (((N / 10 / 10) / 10 / 10) / 10 / 10)), iv 9, rv bb, iv (own_ng (((N / 10 / 10) / 10 / 10) / 10 / 10)), iv ((((N / 10 / 10) / 10 / 10) % 100).toInt32), iv 3, iv 0] [(.ref bb)])) (fun t k => XS.iinc X20.here hx rfl (hb hby d4_57) rfl (l' := #[iv (own_ng (((N / 10 / 10) / 10 / 10) / 10 / 10)), iv 9, rv bb, iv (own_ng (((N / 10 / 10) / 10 / 10) / 10 / 10)), iv ((((N / 10 / 10) / 10 / 10) % 100).toInt32), iv 3, iv 0]) rfl k) ?_
  refine own_go (b := T20.setTop (mkF m 62 #[iv (own_ng (((N / 10 / 10) / 10 / 10) / 10 / 10)), iv 9, rv bb, iv (own_ng (((N / 10 / 10) / 10 / 10) / 10 / 10)), iv ((((N / 10 / 10) / 10 / 10) % 100).toInt32), iv 3, iv 0] [(.int 3), (.ref bb)])) (fun t k => XS.iload X20.here hx rfl (hb hby d4_60) rfl  k) ?_
  obtain ⟨T21, X21, e21, st21⟩ := getS2 X20 hx hZ hown (host := "") (Or.inl (hw _ (List.mem_of_getElem? (i := 126) rfl))) Via.refl e20 (ST.ext Ol20.2) (g := (mkF m 62 #[iv (own_ng (((N / 10 / 10) / 10 / 10) / 10 / 10)), iv 9, rv bb, iv (own_ng (((N / 10 / 10) / 10 / 10) / 10 / 10)), iv ((((N / 10 / 10) / 10 / 10) % 100).toInt32), iv 3, iv 0] [(.int 3), (.ref bb)])) rfl (hb hby d4_62)
  refine own_go (b := T21.setTop (mkF m 65 #[iv (own_ng (((N / 10 / 10) / 10 / 10) / 10 / 10)), iv 9, rv bb, iv (own_ng (((N / 10 / 10) / 10 / 10) / 10 / 10)), iv ((((N / 10 / 10) / 10 / 10) % 100).toInt32), iv 3, iv 0] [(.ref dT), (.int 3), (.ref bb)])) st21 ?_
  refine own_go (b := T21.setTop (mkF m 67 #[iv (own_ng (((N / 10 / 10) / 10 / 10) / 10 / 10)), iv 9, rv bb, iv (own_ng (((N / 10 / 10) / 10 / 10) / 10 / 10)), iv ((((N / 10 / 10) / 10 / 10) % 100).toInt32), iv 3, iv 0] [(.int ((((N / 10 / 10) / 10 / 10) % 100).toInt32)), (.ref dT), (.int 3), (.ref bb)])) (fun t k => XS.iload X21.here hx rfl (hb hby d4_65) rfl  k) ?_
  have hq22 := hT (((N / 10 / 10) / 10 / 10) % 100) (by omega)
  rw [own_d_tens] at hq22
  have ar22 := AT.ext Ol20.2
  refine own_go (b := T21.setTop (mkF m 68 #[iv (own_ng (((N / 10 / 10) / 10 / 10) / 10 / 10)), iv 9, rv bb, iv (own_ng (((N / 10 / 10) / 10 / 10) / 10 / 10)), iv ((((N / 10 / 10) / 10 / 10) % 100).toInt32), iv 3, iv 0] [(.int (own_d (((N / 10 / 10) / 10 / 10) / 10))), (.int 3), (.ref bb)])) (fun t k => X21.baloadBytes hx (j := ((((N / 10 / 10) / 10 / 10) % 100).toInt32)) (v := (.int (own_d (((N / 10 / 10) / 10 / 10) / 10)))) (by rw [e21]; exact ar22.1) (State.isArrayOf_alike hZ.alike ar22.2.1) ar22.2.2 hq22.1 hq22.2 (g := (mkF m 67 #[iv (own_ng (((N / 10 / 10) / 10 / 10) / 10 / 10)), iv 9, rv bb, iv (own_ng (((N / 10 / 10) / 10 / 10) / 10 / 10)), iv ((((N / 10 / 10) / 10 / 10) % 100).toInt32), iv 3, iv 0] [(.int ((((N / 10 / 10) / 10 / 10) % 100).toInt32)), (.ref dT), (.int 3), (.ref bb)])) rfl rfl (hb hby d4_67) t k) ?_
  obtain ⟨cl23, Ar23, qc23, Sz23, Ng23, Hs23, Ft23⟩ := id V_bb_20
  have hin23 : ¬ ((3 : Int32) < 0 ∨ cl23.slots.size ≤ ((3 : Int32)).toNatClampNeg) := inb_of Sz23 ⟨by decide, by decide⟩
  obtain ⟨T24, h24, X24, e24, W24, st24⟩ := stB X21 hx hZ e21 Ar23 (j := (3 : Int32)) hin23 (g := (mkF m 68 #[iv (own_ng (((N / 10 / 10) / 10 / 10) / 10 / 10)), iv 9, rv bb, iv (own_ng (((N / 10 / 10) / 10 / 10) / 10 / 10)), iv ((((N / 10 / 10) / 10 / 10) % 100).toInt32), iv 3, iv 0] [(.int (own_d (((N / 10 / 10) / 10 / 10) / 10))), (.int 3), (.ref bb)])) rfl rfl (hb hby d4_68)
  have V_bb_24 : Arv Z h24 bb kb .byte (9 : Int32) [(.int 0), (.int 0), (.int 0), (.int (nar .byte (own_d (((N / 10 / 10) / 10 / 10) / 10)))), (.int (nar .byte (own_d ((N / 10 / 10) / 10 / 10)))), (.int (nar .byte (own_d ((N / 10 / 10) / 10)))), (.int (nar .byte (own_d (N / 10 / 10)))), (.int (nar .byte (own_d (N / 10)))), (.int (nar .byte (own_d N)))] (.int (0 : Int32)) := Arv.set Ar23 qc23 Sz23 Ng23 Hs23 Ft23 (fits_nar_byte _) W24 3 rfl (Nat.le_of_ble_eq_true rfl)
  have Zs24 : n0 ≤ h24.size := Nat.le_trans Zs20 (Keep.of_wr W24).1
  have N24 := Fr.snoc X24 N20 gb
  have Kp24 : Keep h0 h24 [bb] := Kp20.wr W24 (Or.inl (List.mem_of_getElem? (i := 0) rfl))
  have Ol24 := Ol20.wr W24 gb
  refine own_go (b := T24.setTop (mkF m 69 #[iv (own_ng (((N / 10 / 10) / 10 / 10) / 10 / 10)), iv 9, rv bb, iv (own_ng (((N / 10 / 10) / 10 / 10) / 10 / 10)), iv ((((N / 10 / 10) / 10 / 10) % 100).toInt32), iv 3, iv 0] [])) st24 ?_
  refine own_go (b := T24.setTop (mkF m 22 #[iv (own_ng (((N / 10 / 10) / 10 / 10) / 10 / 10)), iv 9, rv bb, iv (own_ng (((N / 10 / 10) / 10 / 10) / 10 / 10)), iv ((((N / 10 / 10) / 10 / 10) % 100).toInt32), iv 3, iv 0] [])) (fun t k => XS.goto X24.here hx rfl (pc0 := 69) (pc' := 22) rfl (hb hby d4_69) (by decide) (by decide) k) ?_
  refine own_go (b := T24.setTop (mkF m 23 #[iv (own_ng (((N / 10 / 10) / 10 / 10) / 10 / 10)), iv 9, rv bb, iv (own_ng (((N / 10 / 10) / 10 / 10) / 10 / 10)), iv ((((N / 10 / 10) / 10 / 10) % 100).toInt32), iv 3, iv 0] [(.int (own_ng (((N / 10 / 10) / 10 / 10) / 10 / 10)))])) (fun t k => XS.iloadN X24.here hx rfl (hb hby d4_22) rfl  k) ?_
  refine own_go (b := T24.setTop (mkF m 25 #[iv (own_ng (((N / 10 / 10) / 10 / 10) / 10 / 10)), iv 9, rv bb, iv (own_ng (((N / 10 / 10) / 10 / 10) / 10 / 10)), iv ((((N / 10 / 10) / 10 / 10) % 100).toInt32), iv 3, iv 0] [(.int (-100)), (.int (own_ng (((N / 10 / 10) / 10 / 10) / 10 / 10)))])) (fun t k => XS.bipush X24.here hx rfl (hb hby d4_23) k) ?_
  refine own_go (b := T24.setTop (mkF m 28 #[iv (own_ng (((N / 10 / 10) / 10 / 10) / 10 / 10)), iv 9, rv bb, iv (own_ng (((N / 10 / 10) / 10 / 10) / 10 / 10)), iv ((((N / 10 / 10) / 10 / 10) % 100).toInt32), iv 3, iv 0] [])) (fun t k => XS.icmpNo X24.here hx rfl (hb hby d4_25) rfl (flt (own_ng_ngt (m := 100) (by omega) (by decide) (by omega))).2.2.1 k) ?_
  refine own_go (b := T24.setTop (mkF m 29 #[iv (own_ng (((N / 10 / 10) / 10 / 10) / 10 / 10)), iv 9, rv bb, iv (own_ng (((N / 10 / 10) / 10 / 10) / 10 / 10)), iv ((((N / 10 / 10) / 10 / 10) % 100).toInt32), iv 3, iv 0] [(.int (own_ng (((N / 10 / 10) / 10 / 10) / 10 / 10)))])) (fun t k => XS.iloadN X24.here hx rfl (hb hby d4_28) rfl  k) ?_
  refine own_go (b := T24.setTop (mkF m 31 #[iv (own_ng (((N / 10 / 10) / 10 / 10) / 10 / 10)), iv 9, rv bb, iv (own_ng (((N / 10 / 10) / 10 / 10) / 10 / 10)), iv ((((N / 10 / 10) / 10 / 10) % 100).toInt32), iv 3, iv 0] [(.int 100), (.int (own_ng (((N / 10 / 10) / 10 / 10) / 10 / 10)))])) (fun t k => XS.bipush X24.here hx rfl (hb hby d4_29) k) ?_
  refine own_go (b := T24.setTop (mkF m 32 #[iv (own_ng (((N / 10 / 10) / 10 / 10) / 10 / 10)), iv 9, rv bb, iv (own_ng (((N / 10 / 10) / 10 / 10) / 10 / 10)), iv ((((N / 10 / 10) / 10 / 10) % 100).toInt32), iv 3, iv 0] [(.int ((own_ng (((N / 10 / 10) / 10 / 10) / 10 / 10)) / (100 : Int32)))])) (fun t k => XS.idiv X24.here hx rfl (hb hby d4_31) rfl (by decide) k) ?_
  refine own_go (b := T24.setTop (mkF m 33 #[iv (own_ng (((N / 10 / 10) / 10 / 10) / 10 / 10)), iv 9, rv bb, iv ((own_ng (((N / 10 / 10) / 10 / 10) / 10 / 10)) / (100 : Int32)), iv ((((N / 10 / 10) / 10 / 10) % 100).toInt32), iv 3, iv 0] [])) (fun t k => XS.istoreN X24.here hx rfl (hb hby d4_32) rfl (l' := #[iv (own_ng (((N / 10 / 10) / 10 / 10) / 10 / 10)), iv 9, rv bb, iv ((own_ng (((N / 10 / 10) / 10 / 10) / 10 / 10)) / (100 : Int32)), iv ((((N / 10 / 10) / 10 / 10) % 100).toInt32), iv 3, iv 0]) rfl k) ?_
  rw [own_ng_div (a := (((N / 10 / 10) / 10 / 10) / 10 / 10)) (by omega)]
  refine own_go (b := T24.setTop (mkF m 34 #[iv (own_ng (((N / 10 / 10) / 10 / 10) / 10 / 10)), iv 9, rv bb, iv (own_ng ((((N / 10 / 10) / 10 / 10) / 10 / 10) / 10 / 10)), iv ((((N / 10 / 10) / 10 / 10) % 100).toInt32), iv 3, iv 0] [(.int (own_ng ((((N / 10 / 10) / 10 / 10) / 10 / 10) / 10 / 10)))])) (fun t k => XS.iloadN X24.here hx rfl (hb hby d4_33) rfl  k) ?_
  refine own_go (b := T24.setTop (mkF m 36 #[iv (own_ng (((N / 10 / 10) / 10 / 10) / 10 / 10)), iv 9, rv bb, iv (own_ng ((((N / 10 / 10) / 10 / 10) / 10 / 10) / 10 / 10)), iv ((((N / 10 / 10) / 10 / 10) % 100).toInt32), iv 3, iv 0] [(.int 100), (.int (own_ng ((((N / 10 / 10) / 10 / 10) / 10 / 10) / 10 / 10)))])) (fun t k => XS.bipush X24.here hx rfl (hb hby d4_34) k) ?_
  refine own_go (b := T24.setTop (mkF m 37 #[iv (own_ng (((N / 10 / 10) / 10 / 10) / 10 / 10)), iv 9, rv bb, iv (own_ng ((((N / 10 / 10) / 10 / 10) / 10 / 10) / 10 / 10)), iv ((((N / 10 / 10) / 10 / 10) % 100).toInt32), iv 3, iv 0] [(.int ((own_ng ((((N / 10 / 10) / 10 / 10) / 10 / 10) / 10 / 10)) * (100 : Int32)))])) (fun t k => XS.imul X24.here hx rfl (hb hby d4_36) rfl k) ?_
  refine own_go (b := T24.setTop (mkF m 38 #[iv (own_ng (((N / 10 / 10) / 10 / 10) / 10 / 10)), iv 9, rv bb, iv (own_ng ((((N / 10 / 10) / 10 / 10) / 10 / 10) / 10 / 10)), iv ((((N / 10 / 10) / 10 / 10) % 100).toInt32), iv 3, iv 0] [(.int (own_ng (((N / 10 / 10) / 10 / 10) / 10 / 10))), (.int ((own_ng ((((N / 10 / 10) / 10 / 10) / 10 / 10) / 10 / 10)) * (100 : Int32)))])) (fun t k => XS.iloadN X24.here hx rfl (hb hby d4_37) rfl  k) ?_
  refine own_go (b := T24.setTop (mkF m 39 #[iv (own_ng (((N / 10 / 10) / 10 / 10) / 10 / 10)), iv 9, rv bb, iv (own_ng ((((N / 10 / 10) / 10 / 10) / 10 / 10) / 10 / 10)), iv ((((N / 10 / 10) / 10 / 10) % 100).toInt32), iv 3, iv 0] [(.int (((own_ng ((((N / 10 / 10) / 10 / 10) / 10 / 10) / 10 / 10)) * (100 : Int32)) - (own_ng (((N / 10 / 10) / 10 / 10) / 10 / 10))))])) (fun t k => XS.isub X24.here hx rfl (hb hby d4_38) rfl k) ?_
  refine own_go (b := T24.setTop (mkF m 41 #[iv (own_ng (((N / 10 / 10) / 10 / 10) / 10 / 10)), iv 9, rv bb, iv (own_ng ((((N / 10 / 10) / 10 / 10) / 10 / 10) / 10 / 10)), iv (((own_ng ((((N / 10 / 10) / 10 / 10) / 10 / 10) / 10 / 10)) * (100 : Int32)) - (own_ng (((N / 10 / 10) / 10 / 10) / 10 / 10))), iv 3, iv 0] [])) (fun t k => XS.istore X24.here hx rfl (hb hby d4_39) rfl (l' := #[iv (own_ng (((N / 10 / 10) / 10 / 10) / 10 / 10)), iv 9, rv bb, iv (own_ng ((((N / 10 / 10) / 10 / 10) / 10 / 10) / 10 / 10)), iv (((own_ng ((((N / 10 / 10) / 10 / 10) / 10 / 10) / 10 / 10)) * (100 : Int32)) - (own_ng (((N / 10 / 10) / 10 / 10) / 10 / 10))), iv 3, iv 0]) rfl k) ?_
  rw [own_ng_rem (a := (((N / 10 / 10) / 10 / 10) / 10 / 10)) (by omega)]
  refine own_go (b := T24.setTop (mkF m 42 #[iv (own_ng (((N / 10 / 10) / 10 / 10) / 10 / 10)), iv 9, rv bb, iv (own_ng ((((N / 10 / 10) / 10 / 10) / 10 / 10) / 10 / 10)), iv (((((N / 10 / 10) / 10 / 10) / 10 / 10) % 100).toInt32), iv 3, iv 0] [(.int (own_ng ((((N / 10 / 10) / 10 / 10) / 10 / 10) / 10 / 10)))])) (fun t k => XS.iloadN X24.here hx rfl (hb hby d4_41) rfl  k) ?_
  refine own_go (b := T24.setTop (mkF m 43 #[iv (own_ng ((((N / 10 / 10) / 10 / 10) / 10 / 10) / 10 / 10)), iv 9, rv bb, iv (own_ng ((((N / 10 / 10) / 10 / 10) / 10 / 10) / 10 / 10)), iv (((((N / 10 / 10) / 10 / 10) / 10 / 10) % 100).toInt32), iv 3, iv 0] [])) (fun t k => XS.istoreN X24.here hx rfl (hb hby d4_42) rfl (l' := #[iv (own_ng ((((N / 10 / 10) / 10 / 10) / 10 / 10) / 10 / 10)), iv 9, rv bb, iv (own_ng ((((N / 10 / 10) / 10 / 10) / 10 / 10) / 10 / 10)), iv (((((N / 10 / 10) / 10 / 10) / 10 / 10) % 100).toInt32), iv 3, iv 0]) rfl k) ?_
  refine own_go (b := T24.setTop (mkF m 44 #[iv (own_ng ((((N / 10 / 10) / 10 / 10) / 10 / 10) / 10 / 10)), iv 9, rv bb, iv (own_ng ((((N / 10 / 10) / 10 / 10) / 10 / 10) / 10 / 10)), iv (((((N / 10 / 10) / 10 / 10) / 10 / 10) % 100).toInt32), iv 3, iv 0] [(.ref bb)])) (fun t k => XS.aloadN X24.here hx rfl (hb hby d4_43) rfl rfl k) ?_
  refine own_go (b := T24.setTop (mkF m 47 #[iv (own_ng ((((N / 10 / 10) / 10 / 10) / 10 / 10) / 10 / 10)), iv 9, rv bb, iv (own_ng ((((N / 10 / 10) / 10 / 10) / 10 / 10) / 10 / 10)), iv (((((N / 10 / 10) / 10 / 10) / 10 / 10) % 100).toInt32), iv 2, iv 0] [(.ref bb)])) (fun t k => XS.iinc X24.here hx rfl (hb hby d4_44) rfl (l' := #[iv (own_ng ((((N / 10 / 10) / 10 / 10) / 10 / 10) / 10 / 10)), iv 9, rv bb, iv (own_ng ((((N / 10 / 10) / 10 / 10) / 10 / 10) / 10 / 10)), iv (((((N / 10 / 10) / 10 / 10) / 10 / 10) % 100).toInt32), iv 2, iv 0]) rfl k) ?_
  refine own_go (b := T24.setTop (mkF m 49 #[iv (own_ng ((((N / 10 / 10) / 10 / 10) / 10 / 10) / 10 / 10)), iv 9, rv bb, iv (own_ng ((((N / 10 / 10) / 10 / 10) / 10 / 10) / 10 / 10)), iv (((((N / 10 / 10) / 10 / 10) / 10 / 10) % 100).toInt32), iv 2, iv 0] [(.int 2), (.ref bb)])) (fun t k => XS.iload X24.here hx rfl (hb hby d4_47) rfl  k) ?_
  obtain ⟨T25, X25, e25, st25⟩ := getS2 X24 hx hZ hown (host := "") (Or.inl (hw _ (List.mem_of_getElem? (i := 20) rfl))) Via.refl e24 (SO.ext Ol24.2) (g := (mkF m 49 #[iv (own_ng ((((N / 10 / 10) / 10 / 10) / 10 / 10) / 10 / 10)), iv 9, rv bb, iv (own_ng ((((N / 10 / 10) / 10 / 10) / 10 / 10) / 10 / 10)), iv (((((N / 10 / 10) / 10 / 10) / 10 / 10) % 100).toInt32), iv 2, iv 0] [(.int 2), (.ref bb)])) rfl (hb hby d4_49)
  refine own_go (b := T25.setTop (mkF m 52 #[iv (own_ng ((((N / 10 / 10) / 10 / 10) / 10 / 10) / 10 / 10)), iv 9, rv bb, iv (own_ng ((((N / 10 / 10) / 10 / 10) / 10 / 10) / 10 / 10)), iv (((((N / 10 / 10) / 10 / 10) / 10 / 10) % 100).toInt32), iv 2, iv 0] [(.ref dO), (.int 2), (.ref bb)])) st25 ?_
  refine own_go (b := T25.setTop (mkF m 54 #[iv (own_ng ((((N / 10 / 10) / 10 / 10) / 10 / 10) / 10 / 10)), iv 9, rv bb, iv (own_ng ((((N / 10 / 10) / 10 / 10) / 10 / 10) / 10 / 10)), iv (((((N / 10 / 10) / 10 / 10) / 10 / 10) % 100).toInt32), iv 2, iv 0] [(.int (((((N / 10 / 10) / 10 / 10) / 10 / 10) % 100).toInt32)), (.ref dO), (.int 2), (.ref bb)])) (fun t k => XS.iload X25.here hx rfl (hb hby d4_52) rfl  k) ?_
  have hq26 := hO ((((N / 10 / 10) / 10 / 10) / 10 / 10) % 100) (by omega)
  rw [own_d_ones] at hq26
  have ar26 := AO.ext Ol24.2
  refine own_go (b := T25.setTop (mkF m 55 #[iv (own_ng ((((N / 10 / 10) / 10 / 10) / 10 / 10) / 10 / 10)), iv 9, rv bb, iv (own_ng ((((N / 10 / 10) / 10 / 10) / 10 / 10) / 10 / 10)), iv (((((N / 10 / 10) / 10 / 10) / 10 / 10) % 100).toInt32), iv 2, iv 0] [(.int (own_d (((N / 10 / 10) / 10 / 10) / 10 / 10))), (.int 2), (.ref bb)])) (fun t k => X25.baloadBytes hx (j := (((((N / 10 / 10) / 10 / 10) / 10 / 10) % 100).toInt32)) (v := (.int (own_d (((N / 10 / 10) / 10 / 10) / 10 / 10)))) (by rw [e25]; exact ar26.1) (State.isArrayOf_alike hZ.alike ar26.2.1) ar26.2.2 hq26.1 hq26.2 (g := (mkF m 54 #[iv (own_ng ((((N / 10 / 10) / 10 / 10) / 10 / 10) / 10 / 10)), iv 9, rv bb, iv (own_ng ((((N / 10 / 10) / 10 / 10) / 10 / 10) / 10 / 10)), iv (((((N / 10 / 10) / 10 / 10) / 10 / 10) % 100).toInt32), iv 2, iv 0] [(.int (((((N / 10 / 10) / 10 / 10) / 10 / 10) % 100).toInt32)), (.ref dO), (.int 2), (.ref bb)])) rfl rfl (hb hby d4_54) t k) ?_
  obtain ⟨cl27, Ar27, qc27, Sz27, Ng27, Hs27, Ft27⟩ := id V_bb_24
  have hin27 : ¬ ((2 : Int32) < 0 ∨ cl27.slots.size ≤ ((2 : Int32)).toNatClampNeg) := inb_of Sz27 ⟨by decide, by decide⟩
  obtain ⟨T28, h28, X28, e28, W28, st28⟩ := stB X25 hx hZ e25 Ar27 (j := (2 : Int32)) hin27 (g := (mkF m 55 #[iv (own_ng ((((N / 10 / 10) / 10 / 10) / 10 / 10) / 10 / 10)), iv 9, rv bb, iv (own_ng ((((N / 10 / 10) / 10 / 10) / 10 / 10) / 10 / 10)), iv (((((N / 10 / 10) / 10 / 10) / 10 / 10) % 100).toInt32), iv 2, iv 0] [(.int (own_d (((N / 10 / 10) / 10 / 10) / 10 / 10))), (.int 2), (.ref bb)])) rfl rfl (hb hby d4_55)
  have V_bb_28 : Arv Z h28 bb kb .byte (9 : Int32) [(.int 0), (.int 0), (.int (nar .byte (own_d (((N / 10 / 10) / 10 / 10) / 10 / 10)))), (.int (nar .byte (own_d (((N / 10 / 10) / 10 / 10) / 10)))), (.int (nar .byte (own_d ((N / 10 / 10) / 10 / 10)))), (.int (nar .byte (own_d ((N / 10 / 10) / 10)))), (.int (nar .byte (own_d (N / 10 / 10)))), (.int (nar .byte (own_d (N / 10)))), (.int (nar .byte (own_d N)))] (.int (0 : Int32)) := Arv.set Ar27 qc27 Sz27 Ng27 Hs27 Ft27 (fits_nar_byte _) W28 2 rfl (Nat.le_of_ble_eq_true rfl)
  have Zs28 : n0 ≤ h28.size := Nat.le_trans Zs24 (Keep.of_wr W28).1
  have N28 := Fr.snoc X28 N24 gb
  have Kp28 : Keep h0 h28 [bb] := Kp24.wr W28 (Or.inl (List.mem_of_getElem? (i := 0) rfl))
  have Ol28 := Ol24.wr W28 gb
  refine own_go (b := T28.setTop (mkF m 56 #[iv (own_ng ((((N / 10 / 10) / 10 / 10) / 10 / 10) / 10 / 10)), iv 9, rv bb, iv (own_ng ((((N / 10 / 10) / 10 / 10) / 10 / 10) / 10 / 10)), iv (((((N / 10 / 10) / 10 / 10) / 10 / 10) % 100).toInt32), iv 2, iv 0] [])) st28 ?_
  refine own_go (b := T28.setTop (mkF m 57 #[iv (own_ng ((((N / 10 / 10) / 10 / 10) / 10 / 10) / 10 / 10)), iv 9, rv bb, iv (own_ng ((((N / 10 / 10) / 10 / 10) / 10 / 10) / 10 / 10)), iv (((((N / 10 / 10) / 10 / 10) / 10 / 10) % 100).toInt32), iv 2, iv 0] [(.ref bb)])) (fun t k => XS.aloadN X28.here hx rfl (hb hby d4_56) rfl rfl k) ?_
  refine own_go (b := T28.setTop (mkF m 60 #[iv (own_ng ((((N / 10 / 10) / 10 / 10) / 10 / 10) / 10 / 10)), iv 9, rv bb, iv (own_ng ((((N / 10 / 10) / 10 / 10) / 10 / 10) / 10 / 10)), iv (((((N / 10 / 10) / 10 / 10) / 10 / 10) % 100).toInt32), iv 1, iv 0] [(.ref bb)])) (fun t k => XS.iinc X28.here hx rfl (hb hby d4_57) rfl (l' := #[iv (own_ng ((((N / 10 / 10) / 10 / 10) / 10 / 10) / 10 / 10)), iv 9, rv bb, iv (own_ng ((((N / 10 / 10) / 10 / 10) / 10 / 10) / 10 / 10)), iv (((((N / 10 / 10) / 10 / 10) / 10 / 10) % 100).toInt32), iv 1, iv 0]) rfl k) ?_
  refine own_go (b := T28.setTop (mkF m 62 #[iv (own_ng ((((N / 10 / 10) / 10 / 10) / 10 / 10) / 10 / 10)), iv 9, rv bb, iv (own_ng ((((N / 10 / 10) / 10 / 10) / 10 / 10) / 10 / 10)), iv (((((N / 10 / 10) / 10 / 10) / 10 / 10) % 100).toInt32), iv 1, iv 0] [(.int 1), (.ref bb)])) (fun t k => XS.iload X28.here hx rfl (hb hby d4_60) rfl  k) ?_
  obtain ⟨T29, X29, e29, st29⟩ := getS2 X28 hx hZ hown (host := "") (Or.inl (hw _ (List.mem_of_getElem? (i := 126) rfl))) Via.refl e28 (ST.ext Ol28.2) (g := (mkF m 62 #[iv (own_ng ((((N / 10 / 10) / 10 / 10) / 10 / 10) / 10 / 10)), iv 9, rv bb, iv (own_ng ((((N / 10 / 10) / 10 / 10) / 10 / 10) / 10 / 10)), iv (((((N / 10 / 10) / 10 / 10) / 10 / 10) % 100).toInt32), iv 1, iv 0] [(.int 1), (.ref bb)])) rfl (hb hby d4_62)
  refine own_go (b := T29.setTop (mkF m 65 #[iv (own_ng ((((N / 10 / 10) / 10 / 10) / 10 / 10) / 10 / 10)), iv 9, rv bb, iv (own_ng ((((N / 10 / 10) / 10 / 10) / 10 / 10) / 10 / 10)), iv (((((N / 10 / 10) / 10 / 10) / 10 / 10) % 100).toInt32), iv 1, iv 0] [(.ref dT), (.int 1), (.ref bb)])) st29 ?_
  refine own_go (b := T29.setTop (mkF m 67 #[iv (own_ng ((((N / 10 / 10) / 10 / 10) / 10 / 10) / 10 / 10)), iv 9, rv bb, iv (own_ng ((((N / 10 / 10) / 10 / 10) / 10 / 10) / 10 / 10)), iv (((((N / 10 / 10) / 10 / 10) / 10 / 10) % 100).toInt32), iv 1, iv 0] [(.int (((((N / 10 / 10) / 10 / 10) / 10 / 10) % 100).toInt32)), (.ref dT), (.int 1), (.ref bb)])) (fun t k => XS.iload X29.here hx rfl (hb hby d4_65) rfl  k) ?_
  have hq30 := hT ((((N / 10 / 10) / 10 / 10) / 10 / 10) % 100) (by omega)
  rw [own_d_tens] at hq30
  have ar30 := AT.ext Ol28.2
  refine own_go (b := T29.setTop (mkF m 68 #[iv (own_ng ((((N / 10 / 10) / 10 / 10) / 10 / 10) / 10 / 10)), iv 9, rv bb, iv (own_ng ((((N / 10 / 10) / 10 / 10) / 10 / 10) / 10 / 10)), iv (((((N / 10 / 10) / 10 / 10) / 10 / 10) % 100).toInt32), iv 1, iv 0] [(.int (own_d ((((N / 10 / 10) / 10 / 10) / 10 / 10) / 10))), (.int 1), (.ref bb)])) (fun t k => X29.baloadBytes hx (j := (((((N / 10 / 10) / 10 / 10) / 10 / 10) % 100).toInt32)) (v := (.int (own_d ((((N / 10 / 10) / 10 / 10) / 10 / 10) / 10)))) (by rw [e29]; exact ar30.1) (State.isArrayOf_alike hZ.alike ar30.2.1) ar30.2.2 hq30.1 hq30.2 (g := (mkF m 67 #[iv (own_ng ((((N / 10 / 10) / 10 / 10) / 10 / 10) / 10 / 10)), iv 9, rv bb, iv (own_ng ((((N / 10 / 10) / 10 / 10) / 10 / 10) / 10 / 10)), iv (((((N / 10 / 10) / 10 / 10) / 10 / 10) % 100).toInt32), iv 1, iv 0] [(.int (((((N / 10 / 10) / 10 / 10) / 10 / 10) % 100).toInt32)), (.ref dT), (.int 1), (.ref bb)])) rfl rfl (hb hby d4_67) t k) ?_
  obtain ⟨cl31, Ar31, qc31, Sz31, Ng31, Hs31, Ft31⟩ := id V_bb_28
  have hin31 : ¬ ((1 : Int32) < 0 ∨ cl31.slots.size ≤ ((1 : Int32)).toNatClampNeg) := inb_of Sz31 ⟨by decide, by decide⟩
  obtain ⟨T32, h32, X32, e32, W32, st32⟩ := stB X29 hx hZ e29 Ar31 (j := (1 : Int32)) hin31 (g := (mkF m 68 #[iv (own_ng ((((N / 10 / 10) / 10 / 10) / 10 / 10) / 10 / 10)), iv 9, rv bb, iv (own_ng ((((N / 10 / 10) / 10 / 10) / 10 / 10) / 10 / 10)), iv (((((N / 10 / 10) / 10 / 10) / 10 / 10) % 100).toInt32), iv 1, iv 0] [(.int (own_d ((((N / 10 / 10) / 10 / 10) / 10 / 10) / 10))), (.int 1), (.ref bb)])) rfl rfl (hb hby d4_68)
  have V_bb_32 : Arv Z h32 bb kb .byte (9 : Int32) [(.int 0), (.int (nar .byte (own_d ((((N / 10 / 10) / 10 / 10) / 10 / 10) / 10)))), (.int (nar .byte (own_d (((N / 10 / 10) / 10 / 10) / 10 / 10)))), (.int (nar .byte (own_d (((N / 10 / 10) / 10 / 10) / 10)))), (.int (nar .byte (own_d ((N / 10 / 10) / 10 / 10)))), (.int (nar .byte (own_d ((N / 10 / 10) / 10)))), (.int (nar .byte (own_d (N / 10 / 10)))), (.int (nar .byte (own_d (N / 10)))), (.int (nar .byte (own_d N)))] (.int (0 : Int32)) := Arv.set Ar31 qc31 Sz31 Ng31 Hs31 Ft31 (fits_nar_byte _) W32 1 rfl (Nat.le_of_ble_eq_true rfl)
  have Zs32 : n0 ≤ h32.size := Nat.le_trans Zs28 (Keep.of_wr W32).1
  have N32 := Fr.snoc X32 N28 gb
  have Kp32 : Keep h0 h32 [bb] := Kp28.wr W32 (Or.inl (List.mem_of_getElem? (i := 0) rfl))
  have Ol32 := Ol28.wr W32 gb
  refine own_go (b := T32.setTop (mkF m 69 #[iv (own_ng ((((N / 10 / 10) / 10 / 10) / 10 / 10) / 10 / 10)), iv 9, rv bb, iv (own_ng ((((N / 10 / 10) / 10 / 10) / 10 / 10) / 10 / 10)), iv (((((N / 10 / 10) / 10 / 10) / 10 / 10) % 100).toInt32), iv 1, iv 0] [])) st32 ?_
  refine own_go (b := T32.setTop (mkF m 22 #[iv (own_ng ((((N / 10 / 10) / 10 / 10) / 10 / 10) / 10 / 10)), iv 9, rv bb, iv (own_ng ((((N / 10 / 10) / 10 / 10) / 10 / 10) / 10 / 10)), iv (((((N / 10 / 10) / 10 / 10) / 10 / 10) % 100).toInt32), iv 1, iv 0] [])) (fun t k => XS.goto X32.here hx rfl (pc0 := 69) (pc' := 22) rfl (hb hby d4_69) (by decide) (by decide) k) ?_
  refine own_go (b := T32.setTop (mkF m 23 #[iv (own_ng ((((N / 10 / 10) / 10 / 10) / 10 / 10) / 10 / 10)), iv 9, rv bb, iv (own_ng ((((N / 10 / 10) / 10 / 10) / 10 / 10) / 10 / 10)), iv (((((N / 10 / 10) / 10 / 10) / 10 / 10) % 100).toInt32), iv 1, iv 0] [(.int (own_ng ((((N / 10 / 10) / 10 / 10) / 10 / 10) / 10 / 10)))])) (fun t k => XS.iloadN X32.here hx rfl (hb hby d4_22) rfl  k) ?_
  refine own_go (b := T32.setTop (mkF m 25 #[iv (own_ng ((((N / 10 / 10) / 10 / 10) / 10 / 10) / 10 / 10)), iv 9, rv bb, iv (own_ng ((((N / 10 / 10) / 10 / 10) / 10 / 10) / 10 / 10)), iv (((((N / 10 / 10) / 10 / 10) / 10 / 10) % 100).toInt32), iv 1, iv 0] [(.int (-100)), (.int (own_ng ((((N / 10 / 10) / 10 / 10) / 10 / 10) / 10 / 10)))])) (fun t k => XS.bipush X32.here hx rfl (hb hby d4_23) k) ?_
  refine own_go (b := T32.setTop (mkF m 72 #[iv (own_ng ((((N / 10 / 10) / 10 / 10) / 10 / 10) / 10 / 10)), iv 9, rv bb, iv (own_ng ((((N / 10 / 10) / 10 / 10) / 10 / 10) / 10 / 10)), iv (((((N / 10 / 10) / 10 / 10) / 10 / 10) % 100).toInt32), iv 1, iv 0] [])) (fun t k => XS.icmpYes X32.here hx rfl (pc0 := 25) (pc' := 72) rfl (hb hby d4_25) rfl (tlt (own_ng_gt (m := 100) (by omega) (by decide) (by omega))).2.2.1 (by decide) (by decide) k) ?_
  refine own_go (b := T32.setTop (mkF m 73 #[iv (own_ng ((((N / 10 / 10) / 10 / 10) / 10 / 10) / 10 / 10)), iv 9, rv bb, iv (own_ng ((((N / 10 / 10) / 10 / 10) / 10 / 10) / 10 / 10)), iv (((((N / 10 / 10) / 10 / 10) / 10 / 10) % 100).toInt32), iv 1, iv 0] [(.ref bb)])) (fun t k => XS.aloadN X32.here hx rfl (hb hby d4_72) rfl rfl k) ?_
  refine own_go (b := T32.setTop (mkF m 76 #[iv (own_ng ((((N / 10 / 10) / 10 / 10) / 10 / 10) / 10 / 10)), iv 9, rv bb, iv (own_ng ((((N / 10 / 10) / 10 / 10) / 10 / 10) / 10 / 10)), iv (((((N / 10 / 10) / 10 / 10) / 10 / 10) % 100).toInt32), iv 0, iv 0] [(.ref bb)])) (fun t k => XS.iinc X32.here hx rfl (hb hby d4_73) rfl (l' := #[iv (own_ng ((((N / 10 / 10) / 10 / 10) / 10 / 10) / 10 / 10)), iv 9, rv bb, iv (own_ng ((((N / 10 / 10) / 10 / 10) / 10 / 10) / 10 / 10)), iv (((((N / 10 / 10) / 10 / 10) / 10 / 10) % 100).toInt32), iv 0, iv 0]) rfl k) ?_
  refine own_go (b := T32.setTop (mkF m 78 #[iv (own_ng ((((N / 10 / 10) / 10 / 10) / 10 / 10) / 10 / 10)), iv 9, rv bb, iv (own_ng ((((N / 10 / 10) / 10 / 10) / 10 / 10) / 10 / 10)), iv (((((N / 10 / 10) / 10 / 10) / 10 / 10) % 100).toInt32), iv 0, iv 0] [(.int 0), (.ref bb)])) (fun t k => XS.iload X32.here hx rfl (hb hby d4_76) rfl  k) ?_
  obtain ⟨T33, X33, e33, st33⟩ := getS2 X32 hx hZ hown (host := "") (Or.inl (hw _ (List.mem_of_getElem? (i := 20) rfl))) Via.refl e32 (SO.ext Ol32.2) (g := (mkF m 78 #[iv (own_ng ((((N / 10 / 10) / 10 / 10) / 10 / 10) / 10 / 10)), iv 9, rv bb, iv (own_ng ((((N / 10 / 10) / 10 / 10) / 10 / 10) / 10 / 10)), iv (((((N / 10 / 10) / 10 / 10) / 10 / 10) % 100).toInt32), iv 0, iv 0] [(.int 0), (.ref bb)])) rfl (hb hby d4_78)
  refine own_go (b := T33.setTop (mkF m 81 #[iv (own_ng ((((N / 10 / 10) / 10 / 10) / 10 / 10) / 10 / 10)), iv 9, rv bb, iv (own_ng ((((N / 10 / 10) / 10 / 10) / 10 / 10) / 10 / 10)), iv (((((N / 10 / 10) / 10 / 10) / 10 / 10) % 100).toInt32), iv 0, iv 0] [(.ref dO), (.int 0), (.ref bb)])) st33 ?_
  refine own_go (b := T33.setTop (mkF m 82 #[iv (own_ng ((((N / 10 / 10) / 10 / 10) / 10 / 10) / 10 / 10)), iv 9, rv bb, iv (own_ng ((((N / 10 / 10) / 10 / 10) / 10 / 10) / 10 / 10)), iv (((((N / 10 / 10) / 10 / 10) / 10 / 10) % 100).toInt32), iv 0, iv 0] [(.int (own_ng ((((N / 10 / 10) / 10 / 10) / 10 / 10) / 10 / 10))), (.ref dO), (.int 0), (.ref bb)])) (fun t k => XS.iloadN X33.here hx rfl (hb hby d4_81) rfl  k) ?_
  refine own_go (b := T33.setTop (mkF m 83 #[iv (own_ng ((((N / 10 / 10) / 10 / 10) / 10 / 10) / 10 / 10)), iv 9, rv bb, iv (own_ng ((((N / 10 / 10) / 10 / 10) / 10 / 10) / 10 / 10)), iv (((((N / 10 / 10) / 10 / 10) / 10 / 10) % 100).toInt32), iv 0, iv 0] [(.int (-(own_ng ((((N / 10 / 10) / 10 / 10) / 10 / 10) / 10 / 10)))), (.ref dO), (.int 0), (.ref bb)])) (fun t k => XS.ineg X33.here hx rfl (hb hby d4_82) rfl k) ?_
  rw [own_ng_neg]
  have hq34 := hO ((((N / 10 / 10) / 10 / 10) / 10 / 10) / 10 / 10) (by omega)
  have ar34 := AO.ext Ol32.2
  refine own_go (b := T33.setTop (mkF m 84 #[iv (own_ng ((((N / 10 / 10) / 10 / 10) / 10 / 10) / 10 / 10)), iv 9, rv bb, iv (own_ng ((((N / 10 / 10) / 10 / 10) / 10 / 10) / 10 / 10)), iv (((((N / 10 / 10) / 10 / 10) / 10 / 10) % 100).toInt32), iv 0, iv 0] [(.int (own_d ((((N / 10 / 10) / 10 / 10) / 10 / 10) / 10 / 10))), (.int 0), (.ref bb)])) (fun t k => X33.baloadBytes hx (j := (((((N / 10 / 10) / 10 / 10) / 10 / 10) / 10 / 10).toInt32)) (v := (.int (own_d ((((N / 10 / 10) / 10 / 10) / 10 / 10) / 10 / 10)))) (by rw [e33]; exact ar34.1) (State.isArrayOf_alike hZ.alike ar34.2.1) ar34.2.2 hq34.1 hq34.2 (g := (mkF m 83 #[iv (own_ng ((((N / 10 / 10) / 10 / 10) / 10 / 10) / 10 / 10)), iv 9, rv bb, iv (own_ng ((((N / 10 / 10) / 10 / 10) / 10 / 10) / 10 / 10)), iv (((((N / 10 / 10) / 10 / 10) / 10 / 10) % 100).toInt32), iv 0, iv 0] [(.int (((((N / 10 / 10) / 10 / 10) / 10 / 10) / 10 / 10).toInt32)), (.ref dO), (.int 0), (.ref bb)])) rfl rfl (hb hby d4_83) t k) ?_
  obtain ⟨cl35, Ar35, qc35, Sz35, Ng35, Hs35, Ft35⟩ := id V_bb_32
  have hin35 : ¬ ((0 : Int32) < 0 ∨ cl35.slots.size ≤ ((0 : Int32)).toNatClampNeg) := inb_of Sz35 ⟨by decide, by decide⟩
  obtain ⟨T36, h36, X36, e36, W36, st36⟩ := stB X33 hx hZ e33 Ar35 (j := (0 : Int32)) hin35 (g := (mkF m 84 #[iv (own_ng ((((N / 10 / 10) / 10 / 10) / 10 / 10) / 10 / 10)), iv 9, rv bb, iv (own_ng ((((N / 10 / 10) / 10 / 10) / 10 / 10) / 10 / 10)), iv (((((N / 10 / 10) / 10 / 10) / 10 / 10) % 100).toInt32), iv 0, iv 0] [(.int (own_d ((((N / 10 / 10) / 10 / 10) / 10 / 10) / 10 / 10))), (.int 0), (.ref bb)])) rfl rfl (hb hby d4_84)
  have V_bb_36 : Arv Z h36 bb kb .byte (9 : Int32) [(.int (nar .byte (own_d ((((N / 10 / 10) / 10 / 10) / 10 / 10) / 10 / 10)))), (.int (nar .byte (own_d ((((N / 10 / 10) / 10 / 10) / 10 / 10) / 10)))), (.int (nar .byte (own_d (((N / 10 / 10) / 10 / 10) / 10 / 10)))), (.int (nar .byte (own_d (((N / 10 / 10) / 10 / 10) / 10)))), (.int (nar .byte (own_d ((N / 10 / 10) / 10 / 10)))), (.int (nar .byte (own_d ((N / 10 / 10) / 10)))), (.int (nar .byte (own_d (N / 10 / 10)))), (.int (nar .byte (own_d (N / 10)))), (.int (nar .byte (own_d N)))] (.int (0 : Int32)) := Arv.set Ar35 qc35 Sz35 Ng35 Hs35 Ft35 (fits_nar_byte _) W36 0 rfl (Nat.le_of_ble_eq_true rfl)
  have Zs36 : n0 ≤ h36.size := Nat.le_trans Zs32 (Keep.of_wr W36).1
  have N36 := Fr.snoc X36 N32 gb
  have Kp36 : Keep h0 h36 [bb] := Kp32.wr W36 (Or.inl (List.mem_of_getElem? (i := 0) rfl))
  have Ol36 := Ol32.wr W36 gb
  refine own_go (b := T36.setTop (mkF m 85 #[iv (own_ng ((((N / 10 / 10) / 10 / 10) / 10 / 10) / 10 / 10)), iv 9, rv bb, iv (own_ng ((((N / 10 / 10) / 10 / 10) / 10 / 10) / 10 / 10)), iv (((((N / 10 / 10) / 10 / 10) / 10 / 10) % 100).toInt32), iv 0, iv 0] [])) st36 ?_
  refine own_go (b := T36.setTop (mkF m 86 #[iv (own_ng ((((N / 10 / 10) / 10 / 10) / 10 / 10) / 10 / 10)), iv 9, rv bb, iv (own_ng ((((N / 10 / 10) / 10 / 10) / 10 / 10) / 10 / 10)), iv (((((N / 10 / 10) / 10 / 10) / 10 / 10) % 100).toInt32), iv 0, iv 0] [(.int (own_ng ((((N / 10 / 10) / 10 / 10) / 10 / 10) / 10 / 10)))])) (fun t k => XS.iloadN X36.here hx rfl (hb hby d4_85) rfl  k) ?_
  refine own_go (b := T36.setTop (mkF m 88 #[iv (own_ng ((((N / 10 / 10) / 10 / 10) / 10 / 10) / 10 / 10)), iv 9, rv bb, iv (own_ng ((((N / 10 / 10) / 10 / 10) / 10 / 10) / 10 / 10)), iv (((((N / 10 / 10) / 10 / 10) / 10 / 10) % 100).toInt32), iv 0, iv 0] [(.int (-9)), (.int (own_ng ((((N / 10 / 10) / 10 / 10) / 10 / 10) / 10 / 10)))])) (fun t k => XS.bipush X36.here hx rfl (hb hby d4_86) k) ?_
  refine own_go (b := T36.setTop (mkF m 104 #[iv (own_ng ((((N / 10 / 10) / 10 / 10) / 10 / 10) / 10 / 10)), iv 9, rv bb, iv (own_ng ((((N / 10 / 10) / 10 / 10) / 10 / 10) / 10 / 10)), iv (((((N / 10 / 10) / 10 / 10) / 10 / 10) % 100).toInt32), iv 0, iv 0] [])) (fun t k => XS.icmpYes X36.here hx rfl (pc0 := 88) (pc' := 104) rfl (hb hby d4_88) rfl (flt (own_ng_nlt (m := 9) (by omega) (by decide) (by omega))).2.1 (by decide) (by decide) k) ?_
  refine own_go (b := T36.setTop (mkF m 106 #[iv (own_ng ((((N / 10 / 10) / 10 / 10) / 10 / 10) / 10 / 10)), iv 9, rv bb, iv (own_ng ((((N / 10 / 10) / 10 / 10) / 10 / 10) / 10 / 10)), iv (((((N / 10 / 10) / 10 / 10) / 10 / 10) % 100).toInt32), iv 0, iv 0] [(.int 0)])) (fun t k => XS.iload X36.here hx rfl (hb hby d4_104) rfl  k) ?_
  refine own_go (b := T36.setTop (mkF m 118 #[iv (own_ng ((((N / 10 / 10) / 10 / 10) / 10 / 10) / 10 / 10)), iv 9, rv bb, iv (own_ng ((((N / 10 / 10) / 10 / 10) / 10 / 10) / 10 / 10)), iv (((((N / 10 / 10) / 10 / 10) / 10 / 10) % 100).toInt32), iv 0, iv 0] [])) (fun t k => XS.ifYes X36.here hx rfl (pc0 := 106) (pc' := 118) rfl (hb hby d4_106) rfl ((if0 _ _).trans (teq (rfl : (0 : Int32) = (0 : Int32))).1) (by decide) (by decide) k) ?_
  refine own_go (b := T36.setTop (mkF m 120 #[iv (own_ng ((((N / 10 / 10) / 10 / 10) / 10 / 10) / 10 / 10)), iv 9, rv bb, iv (own_ng ((((N / 10 / 10) / 10 / 10) / 10 / 10) / 10 / 10)), iv (((((N / 10 / 10) / 10 / 10) / 10 / 10) % 100).toInt32), iv 0, iv 0] [(.int 0)])) (fun t k => XS.iload X36.here hx rfl (hb hby d4_118) rfl  k) ?_
  exact own_retI X36 hx hlk hrt (hb hby d4_120) (Nat.le_of_ble_eq_true rfl) (Nat.le_of_ble_eq_true rfl) (⟨rfl, N36, by rw [e36]; exact Kp36, by rw [e36]; have q := V_bb_36; simp only [own_nar] at q; exact q⟩)
theorem ef_4_10 (m : MethodId) (ct : Int32) (sz : Int32) (bb : Addr) : entryFrame m #[(.int ct), (.int sz), (.ref bb)] 7 = mkF m 0 #[iv ct, iv sz, rv bb, .unset, .unset, .unset, .unset] [] := by first | (simp [entryFrame, mkF, argsToLocals, Value.category]; done) | rfl
def Q4_10 (Z : State) (ct : Int32) (sz : Int32) (bb : Addr) (N : Nat) (kb : ClassId) (dO : Addr) (dT : Addr) (cO : Cell) (cT : Cell) (h0 : Heap) (n0 : Nat) (v : Option Value) (h : Heap) (L : List Loc) : Prop := v = some (.int 0) ∧ Fr n0 L ∧ Keep h0 h [bb] ∧ Arv Z h bb kb .byte (Int32.ofNat 10) ((own_digs N 10).map Value.int) (.int (0 : Int32))
set_option maxRecDepth 65536 in
set_option maxHeartbeats 40000000 in
theorem rm4_10 (l : Launch) (Z : State) (a0 : Array Value) (hw : ∀ d ∈ tables_1, d.before a0 Z = true) (ws : List Jvm.Cond) (ct : Int32) (sz : Int32) (bb : Addr) (N : Nat) (kb : ClassId) (dO : Addr) (dT : Addr) (cO : Cell) (cT : Cell) (h0 : Heap) (n0 : Nat) (Z0 : n0 ≤ h0.size) (hct : ct = N.toInt32) (hct1 : sz = (10 : Int32)) (hN : N < 2147483648) (hlo : 1000000000 ≤ N) (hhi : N < 10000000000) (SO : Sta Z Z.heap "java/lang/Integer" "DigitOnes" "[B" (.ref dO)) (ST : Sta Z Z.heap "java/lang/Integer" "DigitTens" "[B" (.ref dT)) (AO : Arr Z Z.heap dO cO .byte) (AT : Arr Z Z.heap dT cT .byte) (hO : ∀ r : Nat, r < 100 → ¬ (r.toInt32 < 0 ∨ cO.slots.size ≤ r.toInt32.toNatClampNeg) ∧ cO.slots[r.toInt32.toNatClampNeg]? = some (.int (own_d r))) (hT : ∀ r : Nat, r < 100 → ¬ (r.toInt32 < 0 ∨ cT.slots.size ≤ r.toInt32.toNatClampNeg) ∧ cT.slots[r.toInt32.toNatClampNeg]? = some (.int (own_d (r / 10)))) (Vb : Arv Z h0 bb kb .byte (10 : Int32) [.int (0 : Int32), .int (0 : Int32), .int (0 : Int32), .int (0 : Int32), .int (0 : Int32), .int (0 : Int32), .int (0 : Int32), .int (0 : Int32), .int (0 : Int32), .int (0 : Int32)] (.int (0 : Int32))) (gb : n0 ≤ bb) (Od : Old Z n0 h0) :
    MetFree l (⟨"java/lang/Integer", "getChars", "(II[B)I"⟩ : MethodName) (head1 (Jvm.Cond.code (⟨"java/lang/Integer", "getChars", "(II[B)I"⟩ : MethodName) jdk_33_method_12_code 7 (some .int) :: ws) ({ frames := 0, cells := 0, slots := 0, locals := 0 } : Room)) (fun a U => a = #[(.int ct), (.int sz), (.ref bb)] ∧ Z.Warmed39 U.vm ∧ U.heap = h0) (fun _ _ _ _ _ => True) (fun _ U o U' => ∃ v L, o = .returned v ∧ Q4_10 Z ct sz bb N kb dO dT cO cT h0 n0 v U'.heap L ∧ FrameEnd U o U' L ({ frames := 0, cells := 0, slots := 0, locals := 0 } : Room).cells ({ frames := 0, cells := 0, slots := 0, locals := 0 } : Room).slots) := by
  refine MetFree.of_bodySF (plainFor_of_name pn_0) hisR ?_
  intro p e s m args below meth c s₁ Bd hml0 hP hK
  obtain ⟨rfl, hZ, hh⟩ := hP
  have hx := Bd.exec
  have hby := Bd.bytes
  have hml : c.maxLocals = 7 := hml0
  have hown : s.vm.findClass "java/lang/Integer" = some m.cls := findClass_of_methodNamed Bd.named
  have hnm := (name_of_methodNamed Bd.named Bd.method).1
  have hlk : meth.locks = false := Bd.notSynchronized
  have hrt := Bd.returns
  have X0 : Stand p l e ({ frames := 0, cells := 0, slots := 0, locals := 0 } : Room) s m #[(.int ct), (.int sz), (.ref bb)] below meth c s₁ [] 0 0 := Stand.of_body Bd
  have e0 : s₁.heap = h0 := by rw [← hh, Bd.state]; rfl
  have N0 := Fr.nil n0
  show own_Endz p.tables e below (own_EndQ s ({ frames := 0, cells := 0, slots := 0, locals := 0 } : Room).cells ({ frames := 0, cells := 0, slots := 0, locals := 0 } : Room).slots (Q4_10 Z ct sz bb N kb dO dT cO cT h0 n0)) (s₁.setTop (entryFrame m #[(.int ct), (.int sz), (.ref bb)] 7))
  refine own_cast (ef_4_10 m ct sz bb) ?_
  subst hct
  subst hct1
  refine own_go (b := s₁.setTop (mkF m 1 #[iv (N.toInt32), iv 10, rv bb, .unset, .unset, .unset, .unset] [(.int 10)])) (fun t k => XS.iloadN X0.here hx rfl (hb hby d4_0) rfl  k) ?_
  refine own_go (b := s₁.setTop (mkF m 3 #[iv (N.toInt32), iv 10, rv bb, .unset, .unset, iv 10, .unset] [])) (fun t k => XS.istore X0.here hx rfl (hb hby d4_1) rfl (l' := #[iv (N.toInt32), iv 10, rv bb, .unset, .unset, iv 10, .unset]) rfl k) ?_
  refine own_go (b := s₁.setTop (mkF m 4 #[iv (N.toInt32), iv 10, rv bb, .unset, .unset, iv 10, .unset] [(.int (N.toInt32))])) (fun t k => XS.iloadN X0.here hx rfl (hb hby d4_3) rfl  k) ?_
  refine own_go (b := s₁.setTop (mkF m 11 #[iv (N.toInt32), iv 10, rv bb, .unset, .unset, iv 10, .unset] [])) (fun t k => XS.ifYes X0.here hx rfl (pc0 := 4) (pc' := 11) rfl (hb hby d4_4) rfl ((if0 _ _).trans (flt (own_nn hN)).2.1) (by decide) (by decide) k) ?_
  refine own_go (b := s₁.setTop (mkF m 12 #[iv (N.toInt32), iv 10, rv bb, .unset, .unset, iv 10, .unset] [(.int 0)])) (fun t k => XS.iconst X0.here hx rfl (hb hby d4_11) k) ?_
  refine own_go (b := s₁.setTop (mkF m 14 #[iv (N.toInt32), iv 10, rv bb, .unset, .unset, iv 10, iv 0] [])) (fun t k => XS.istore X0.here hx rfl (hb hby d4_12) rfl (l' := #[iv (N.toInt32), iv 10, rv bb, .unset, .unset, iv 10, iv 0]) rfl k) ?_
  refine own_go (b := s₁.setTop (mkF m 16 #[iv (N.toInt32), iv 10, rv bb, .unset, .unset, iv 10, iv 0] [(.int 0)])) (fun t k => XS.iload X0.here hx rfl (hb hby d4_14) rfl  k) ?_
  refine own_go (b := s₁.setTop (mkF m 19 #[iv (N.toInt32), iv 10, rv bb, .unset, .unset, iv 10, iv 0] [])) (fun t k => XS.ifNo X0.here hx rfl (hb hby d4_16) rfl ((if0 _ _).trans (teq (rfl : (0 : Int32) = (0 : Int32))).2) k) ?_
  refine own_go (b := s₁.setTop (mkF m 20 #[iv (N.toInt32), iv 10, rv bb, .unset, .unset, iv 10, iv 0] [(.int (N.toInt32))])) (fun t k => XS.iloadN X0.here hx rfl (hb hby d4_19) rfl  k) ?_
  refine own_go (b := s₁.setTop (mkF m 21 #[iv (N.toInt32), iv 10, rv bb, .unset, .unset, iv 10, iv 0] [(.int (-(N.toInt32)))])) (fun t k => XS.ineg X0.here hx rfl (hb hby d4_20) rfl k) ?_
  refine own_go (b := s₁.setTop (mkF m 22 #[iv (-(N.toInt32)), iv 10, rv bb, .unset, .unset, iv 10, iv 0] [])) (fun t k => XS.istoreN X0.here hx rfl (hb hby d4_21) rfl (l' := #[iv (-(N.toInt32)), iv 10, rv bb, .unset, .unset, iv 10, iv 0]) rfl k) ?_
  show own_Endz p.tables e below (own_EndQ s ({ frames := 0, cells := 0, slots := 0, locals := 0 } : Room).cells ({ frames := 0, cells := 0, slots := 0, locals := 0 } : Room).slots (Q4_10 Z ((N.toInt32)) ((10 : Int32)) bb N kb dO dT cO cT h0 n0)) (s₁.setTop (mkF m 22 #[iv (own_ng N), iv 10, rv bb, .unset, .unset, iv 10, iv 0] []))
  refine own_go (b := s₁.setTop (mkF m 23 #[iv (own_ng N), iv 10, rv bb, .unset, .unset, iv 10, iv 0] [(.int (own_ng N))])) (fun t k => XS.iloadN X0.here hx rfl (hb hby d4_22) rfl  k) ?_
  refine own_go (b := s₁.setTop (mkF m 25 #[iv (own_ng N), iv 10, rv bb, .unset, .unset, iv 10, iv 0] [(.int (-100)), (.int (own_ng N))])) (fun t k => XS.bipush X0.here hx rfl (hb hby d4_23) k) ?_
  refine own_go (b := s₁.setTop (mkF m 28 #[iv (own_ng N), iv 10, rv bb, .unset, .unset, iv 10, iv 0] [])) (fun t k => XS.icmpNo X0.here hx rfl (hb hby d4_25) rfl (flt (own_ng_ngt (m := 100) (by omega) (by decide) (by omega))).2.2.1 k) ?_
  refine own_go (b := s₁.setTop (mkF m 29 #[iv (own_ng N), iv 10, rv bb, .unset, .unset, iv 10, iv 0] [(.int (own_ng N))])) (fun t k => XS.iloadN X0.here hx rfl (hb hby d4_28) rfl  k) ?_
  refine own_go (b := s₁.setTop (mkF m 31 #[iv (own_ng N), iv 10, rv bb, .unset, .unset, iv 10, iv 0] [(.int 100), (.int (own_ng N))])) (fun t k => XS.bipush X0.here hx rfl (hb hby d4_29) k) ?_
  refine own_go (b := s₁.setTop (mkF m 32 #[iv (own_ng N), iv 10, rv bb, .unset, .unset, iv 10, iv 0] [(.int ((own_ng N) / (100 : Int32)))])) (fun t k => XS.idiv X0.here hx rfl (hb hby d4_31) rfl (by decide) k) ?_
  refine own_go (b := s₁.setTop (mkF m 33 #[iv (own_ng N), iv 10, rv bb, iv ((own_ng N) / (100 : Int32)), .unset, iv 10, iv 0] [])) (fun t k => XS.istoreN X0.here hx rfl (hb hby d4_32) rfl (l' := #[iv (own_ng N), iv 10, rv bb, iv ((own_ng N) / (100 : Int32)), .unset, iv 10, iv 0]) rfl k) ?_
  rw [own_ng_div (a := N) (by omega)]
  refine own_go (b := s₁.setTop (mkF m 34 #[iv (own_ng N), iv 10, rv bb, iv (own_ng (N / 10 / 10)), .unset, iv 10, iv 0] [(.int (own_ng (N / 10 / 10)))])) (fun t k => XS.iloadN X0.here hx rfl (hb hby d4_33) rfl  k) ?_
  refine own_go (b := s₁.setTop (mkF m 36 #[iv (own_ng N), iv 10, rv bb, iv (own_ng (N / 10 / 10)), .unset, iv 10, iv 0] [(.int 100), (.int (own_ng (N / 10 / 10)))])) (fun t k => XS.bipush X0.here hx rfl (hb hby d4_34) k) ?_
  refine own_go (b := s₁.setTop (mkF m 37 #[iv (own_ng N), iv 10, rv bb, iv (own_ng (N / 10 / 10)), .unset, iv 10, iv 0] [(.int ((own_ng (N / 10 / 10)) * (100 : Int32)))])) (fun t k => XS.imul X0.here hx rfl (hb hby d4_36) rfl k) ?_
  refine own_go (b := s₁.setTop (mkF m 38 #[iv (own_ng N), iv 10, rv bb, iv (own_ng (N / 10 / 10)), .unset, iv 10, iv 0] [(.int (own_ng N)), (.int ((own_ng (N / 10 / 10)) * (100 : Int32)))])) (fun t k => XS.iloadN X0.here hx rfl (hb hby d4_37) rfl  k) ?_
  refine own_go (b := s₁.setTop (mkF m 39 #[iv (own_ng N), iv 10, rv bb, iv (own_ng (N / 10 / 10)), .unset, iv 10, iv 0] [(.int (((own_ng (N / 10 / 10)) * (100 : Int32)) - (own_ng N)))])) (fun t k => XS.isub X0.here hx rfl (hb hby d4_38) rfl k) ?_
  refine own_go (b := s₁.setTop (mkF m 41 #[iv (own_ng N), iv 10, rv bb, iv (own_ng (N / 10 / 10)), iv (((own_ng (N / 10 / 10)) * (100 : Int32)) - (own_ng N)), iv 10, iv 0] [])) (fun t k => XS.istore X0.here hx rfl (hb hby d4_39) rfl (l' := #[iv (own_ng N), iv 10, rv bb, iv (own_ng (N / 10 / 10)), iv (((own_ng (N / 10 / 10)) * (100 : Int32)) - (own_ng N)), iv 10, iv 0]) rfl k) ?_
  rw [own_ng_rem (a := N) (by omega)]
  refine own_go (b := s₁.setTop (mkF m 42 #[iv (own_ng N), iv 10, rv bb, iv (own_ng (N / 10 / 10)), iv ((N % 100).toInt32), iv 10, iv 0] [(.int (own_ng (N / 10 / 10)))])) (fun t k => XS.iloadN X0.here hx rfl (hb hby d4_41) rfl  k) ?_
  refine own_go (b := s₁.setTop (mkF m 43 #[iv (own_ng (N / 10 / 10)), iv 10, rv bb, iv (own_ng (N / 10 / 10)), iv ((N % 100).toInt32), iv 10, iv 0] [])) (fun t k => XS.istoreN X0.here hx rfl (hb hby d4_42) rfl (l' := #[iv (own_ng (N / 10 / 10)), iv 10, rv bb, iv (own_ng (N / 10 / 10)), iv ((N % 100).toInt32), iv 10, iv 0]) rfl k) ?_
  refine own_go (b := s₁.setTop (mkF m 44 #[iv (own_ng (N / 10 / 10)), iv 10, rv bb, iv (own_ng (N / 10 / 10)), iv ((N % 100).toInt32), iv 10, iv 0] [(.ref bb)])) (fun t k => XS.aloadN X0.here hx rfl (hb hby d4_43) rfl rfl k) ?_
  refine own_go (b := s₁.setTop (mkF m 47 #[iv (own_ng (N / 10 / 10)), iv 10, rv bb, iv (own_ng (N / 10 / 10)), iv ((N % 100).toInt32), iv 9, iv 0] [(.ref bb)])) (fun t k => XS.iinc X0.here hx rfl (hb hby d4_44) rfl (l' := #[iv (own_ng (N / 10 / 10)), iv 10, rv bb, iv (own_ng (N / 10 / 10)), iv ((N % 100).toInt32), iv 9, iv 0]) rfl k) ?_
  refine own_go (b := s₁.setTop (mkF m 49 #[iv (own_ng (N / 10 / 10)), iv 10, rv bb, iv (own_ng (N / 10 / 10)), iv ((N % 100).toInt32), iv 9, iv 0] [(.int 9), (.ref bb)])) (fun t k => XS.iload X0.here hx rfl (hb hby d4_47) rfl  k) ?_
  obtain ⟨T1, X1, e1, st1⟩ := getS2 X0 hx hZ hown (host := "") (Or.inl (hw _ (List.mem_of_getElem? (i := 20) rfl))) Via.refl e0 (SO.ext Od.2) (g := (mkF m 49 #[iv (own_ng (N / 10 / 10)), iv 10, rv bb, iv (own_ng (N / 10 / 10)), iv ((N % 100).toInt32), iv 9, iv 0] [(.int 9), (.ref bb)])) rfl (hb hby d4_49)
  refine own_go (b := T1.setTop (mkF m 52 #[iv (own_ng (N / 10 / 10)), iv 10, rv bb, iv (own_ng (N / 10 / 10)), iv ((N % 100).toInt32), iv 9, iv 0] [(.ref dO), (.int 9), (.ref bb)])) st1 ?_
  refine own_go (b := T1.setTop (mkF m 54 #[iv (own_ng (N / 10 / 10)), iv 10, rv bb, iv (own_ng (N / 10 / 10)), iv ((N % 100).toInt32), iv 9, iv 0] [(.int ((N % 100).toInt32)), (.ref dO), (.int 9), (.ref bb)])) (fun t k => XS.iload X1.here hx rfl (hb hby d4_52) rfl  k) ?_
  have hq2 := hO (N % 100) (by omega)
  rw [own_d_ones] at hq2
  have ar2 := AO.ext Od.2
  refine own_go (b := T1.setTop (mkF m 55 #[iv (own_ng (N / 10 / 10)), iv 10, rv bb, iv (own_ng (N / 10 / 10)), iv ((N % 100).toInt32), iv 9, iv 0] [(.int (own_d N)), (.int 9), (.ref bb)])) (fun t k => X1.baloadBytes hx (j := ((N % 100).toInt32)) (v := (.int (own_d N))) (by rw [e1]; exact ar2.1) (State.isArrayOf_alike hZ.alike ar2.2.1) ar2.2.2 hq2.1 hq2.2 (g := (mkF m 54 #[iv (own_ng (N / 10 / 10)), iv 10, rv bb, iv (own_ng (N / 10 / 10)), iv ((N % 100).toInt32), iv 9, iv 0] [(.int ((N % 100).toInt32)), (.ref dO), (.int 9), (.ref bb)])) rfl rfl (hb hby d4_54) t k) ?_
  obtain ⟨cl3, Ar3, qc3, Sz3, Ng3, Hs3, Ft3⟩ := id Vb
  have hin3 : ¬ ((9 : Int32) < 0 ∨ cl3.slots.size ≤ ((9 : Int32)).toNatClampNeg) := inb_of Sz3 ⟨by decide, by decide⟩
  obtain ⟨T4, h4, X4, e4, W4, st4⟩ := stB X1 hx hZ e1 Ar3 (j := (9 : Int32)) hin3 (g := (mkF m 55 #[iv (own_ng (N / 10 / 10)), iv 10, rv bb, iv (own_ng (N / 10 / 10)), iv ((N % 100).toInt32), iv 9, iv 0] [(.int (own_d N)), (.int 9), (.ref bb)])) rfl rfl (hb hby d4_55)
  have V_bb_4 : Arv Z h4 bb kb .byte (10 : Int32) [(.int 0), (.int 0), (.int 0), (.int 0), (.int 0), (.int 0), (.int 0), (.int 0), (.int 0), (.int (nar .byte (own_d N)))] (.int (0 : Int32)) := Arv.set Ar3 qc3 Sz3 Ng3 Hs3 Ft3 (fits_nar_byte _) W4 9 rfl (Nat.le_of_ble_eq_true rfl)
  have Zs4 : n0 ≤ h4.size := Nat.le_trans Z0 (Keep.of_wr W4).1
  have N4 := Fr.snoc X4 N0 gb
  have Kp4 : Keep h0 h4 [bb] := (Keep.refl h0 [bb]).wr W4 (Or.inl (List.mem_of_getElem? (i := 0) rfl))
  have Ol4 := Od.wr W4 gb
  refine own_go (b := T4.setTop (mkF m 56 #[iv (own_ng (N / 10 / 10)), iv 10, rv bb, iv (own_ng (N / 10 / 10)), iv ((N % 100).toInt32), iv 9, iv 0] [])) st4 ?_
  refine own_go (b := T4.setTop (mkF m 57 #[iv (own_ng (N / 10 / 10)), iv 10, rv bb, iv (own_ng (N / 10 / 10)), iv ((N % 100).toInt32), iv 9, iv 0] [(.ref bb)])) (fun t k => XS.aloadN X4.here hx rfl (hb hby d4_56) rfl rfl k) ?_
  refine own_go (b := T4.setTop (mkF m 60 #[iv (own_ng (N / 10 / 10)), iv 10, rv bb, iv (own_ng (N / 10 / 10)), iv ((N % 100).toInt32), iv 8, iv 0] [(.ref bb)])) (fun t k => XS.iinc X4.here hx rfl (hb hby d4_57) rfl (l' := #[iv (own_ng (N / 10 / 10)), iv 10, rv bb, iv (own_ng (N / 10 / 10)), iv ((N % 100).toInt32), iv 8, iv 0]) rfl k) ?_
  refine own_go (b := T4.setTop (mkF m 62 #[iv (own_ng (N / 10 / 10)), iv 10, rv bb, iv (own_ng (N / 10 / 10)), iv ((N % 100).toInt32), iv 8, iv 0] [(.int 8), (.ref bb)])) (fun t k => XS.iload X4.here hx rfl (hb hby d4_60) rfl  k) ?_
  obtain ⟨T5, X5, e5, st5⟩ := getS2 X4 hx hZ hown (host := "") (Or.inl (hw _ (List.mem_of_getElem? (i := 126) rfl))) Via.refl e4 (ST.ext Ol4.2) (g := (mkF m 62 #[iv (own_ng (N / 10 / 10)), iv 10, rv bb, iv (own_ng (N / 10 / 10)), iv ((N % 100).toInt32), iv 8, iv 0] [(.int 8), (.ref bb)])) rfl (hb hby d4_62)
  refine own_go (b := T5.setTop (mkF m 65 #[iv (own_ng (N / 10 / 10)), iv 10, rv bb, iv (own_ng (N / 10 / 10)), iv ((N % 100).toInt32), iv 8, iv 0] [(.ref dT), (.int 8), (.ref bb)])) st5 ?_
  refine own_go (b := T5.setTop (mkF m 67 #[iv (own_ng (N / 10 / 10)), iv 10, rv bb, iv (own_ng (N / 10 / 10)), iv ((N % 100).toInt32), iv 8, iv 0] [(.int ((N % 100).toInt32)), (.ref dT), (.int 8), (.ref bb)])) (fun t k => XS.iload X5.here hx rfl (hb hby d4_65) rfl  k) ?_
  have hq6 := hT (N % 100) (by omega)
  rw [own_d_tens] at hq6
  have ar6 := AT.ext Ol4.2
  refine own_go (b := T5.setTop (mkF m 68 #[iv (own_ng (N / 10 / 10)), iv 10, rv bb, iv (own_ng (N / 10 / 10)), iv ((N % 100).toInt32), iv 8, iv 0] [(.int (own_d (N / 10))), (.int 8), (.ref bb)])) (fun t k => X5.baloadBytes hx (j := ((N % 100).toInt32)) (v := (.int (own_d (N / 10)))) (by rw [e5]; exact ar6.1) (State.isArrayOf_alike hZ.alike ar6.2.1) ar6.2.2 hq6.1 hq6.2 (g := (mkF m 67 #[iv (own_ng (N / 10 / 10)), iv 10, rv bb, iv (own_ng (N / 10 / 10)), iv ((N % 100).toInt32), iv 8, iv 0] [(.int ((N % 100).toInt32)), (.ref dT), (.int 8), (.ref bb)])) rfl rfl (hb hby d4_67) t k) ?_
  obtain ⟨cl7, Ar7, qc7, Sz7, Ng7, Hs7, Ft7⟩ := id V_bb_4
  have hin7 : ¬ ((8 : Int32) < 0 ∨ cl7.slots.size ≤ ((8 : Int32)).toNatClampNeg) := inb_of Sz7 ⟨by decide, by decide⟩
  obtain ⟨T8, h8, X8, e8, W8, st8⟩ := stB X5 hx hZ e5 Ar7 (j := (8 : Int32)) hin7 (g := (mkF m 68 #[iv (own_ng (N / 10 / 10)), iv 10, rv bb, iv (own_ng (N / 10 / 10)), iv ((N % 100).toInt32), iv 8, iv 0] [(.int (own_d (N / 10))), (.int 8), (.ref bb)])) rfl rfl (hb hby d4_68)
  have V_bb_8 : Arv Z h8 bb kb .byte (10 : Int32) [(.int 0), (.int 0), (.int 0), (.int 0), (.int 0), (.int 0), (.int 0), (.int 0), (.int (nar .byte (own_d (N / 10)))), (.int (nar .byte (own_d N)))] (.int (0 : Int32)) := Arv.set Ar7 qc7 Sz7 Ng7 Hs7 Ft7 (fits_nar_byte _) W8 8 rfl (Nat.le_of_ble_eq_true rfl)
  have Zs8 : n0 ≤ h8.size := Nat.le_trans Zs4 (Keep.of_wr W8).1
  have N8 := Fr.snoc X8 N4 gb
  have Kp8 : Keep h0 h8 [bb] := Kp4.wr W8 (Or.inl (List.mem_of_getElem? (i := 0) rfl))
  have Ol8 := Ol4.wr W8 gb
  refine own_go (b := T8.setTop (mkF m 69 #[iv (own_ng (N / 10 / 10)), iv 10, rv bb, iv (own_ng (N / 10 / 10)), iv ((N % 100).toInt32), iv 8, iv 0] [])) st8 ?_
  refine own_go (b := T8.setTop (mkF m 22 #[iv (own_ng (N / 10 / 10)), iv 10, rv bb, iv (own_ng (N / 10 / 10)), iv ((N % 100).toInt32), iv 8, iv 0] [])) (fun t k => XS.goto X8.here hx rfl (pc0 := 69) (pc' := 22) rfl (hb hby d4_69) (by decide) (by decide) k) ?_
  refine own_go (b := T8.setTop (mkF m 23 #[iv (own_ng (N / 10 / 10)), iv 10, rv bb, iv (own_ng (N / 10 / 10)), iv ((N % 100).toInt32), iv 8, iv 0] [(.int (own_ng (N / 10 / 10)))])) (fun t k => XS.iloadN X8.here hx rfl (hb hby d4_22) rfl  k) ?_
  refine own_go (b := T8.setTop (mkF m 25 #[iv (own_ng (N / 10 / 10)), iv 10, rv bb, iv (own_ng (N / 10 / 10)), iv ((N % 100).toInt32), iv 8, iv 0] [(.int (-100)), (.int (own_ng (N / 10 / 10)))])) (fun t k => XS.bipush X8.here hx rfl (hb hby d4_23) k) ?_
  refine own_go (b := T8.setTop (mkF m 28 #[iv (own_ng (N / 10 / 10)), iv 10, rv bb, iv (own_ng (N / 10 / 10)), iv ((N % 100).toInt32), iv 8, iv 0] [])) (fun t k => XS.icmpNo X8.here hx rfl (hb hby d4_25) rfl (flt (own_ng_ngt (m := 100) (by omega) (by decide) (by omega))).2.2.1 k) ?_
  refine own_go (b := T8.setTop (mkF m 29 #[iv (own_ng (N / 10 / 10)), iv 10, rv bb, iv (own_ng (N / 10 / 10)), iv ((N % 100).toInt32), iv 8, iv 0] [(.int (own_ng (N / 10 / 10)))])) (fun t k => XS.iloadN X8.here hx rfl (hb hby d4_28) rfl  k) ?_
  refine own_go (b := T8.setTop (mkF m 31 #[iv (own_ng (N / 10 / 10)), iv 10, rv bb, iv (own_ng (N / 10 / 10)), iv ((N % 100).toInt32), iv 8, iv 0] [(.int 100), (.int (own_ng (N / 10 / 10)))])) (fun t k => XS.bipush X8.here hx rfl (hb hby d4_29) k) ?_
  refine own_go (b := T8.setTop (mkF m 32 #[iv (own_ng (N / 10 / 10)), iv 10, rv bb, iv (own_ng (N / 10 / 10)), iv ((N % 100).toInt32), iv 8, iv 0] [(.int ((own_ng (N / 10 / 10)) / (100 : Int32)))])) (fun t k => XS.idiv X8.here hx rfl (hb hby d4_31) rfl (by decide) k) ?_
  refine own_go (b := T8.setTop (mkF m 33 #[iv (own_ng (N / 10 / 10)), iv 10, rv bb, iv ((own_ng (N / 10 / 10)) / (100 : Int32)), iv ((N % 100).toInt32), iv 8, iv 0] [])) (fun t k => XS.istoreN X8.here hx rfl (hb hby d4_32) rfl (l' := #[iv (own_ng (N / 10 / 10)), iv 10, rv bb, iv ((own_ng (N / 10 / 10)) / (100 : Int32)), iv ((N % 100).toInt32), iv 8, iv 0]) rfl k) ?_
  rw [own_ng_div (a := (N / 10 / 10)) (by omega)]
  refine own_go (b := T8.setTop (mkF m 34 #[iv (own_ng (N / 10 / 10)), iv 10, rv bb, iv (own_ng ((N / 10 / 10) / 10 / 10)), iv ((N % 100).toInt32), iv 8, iv 0] [(.int (own_ng ((N / 10 / 10) / 10 / 10)))])) (fun t k => XS.iloadN X8.here hx rfl (hb hby d4_33) rfl  k) ?_
  refine own_go (b := T8.setTop (mkF m 36 #[iv (own_ng (N / 10 / 10)), iv 10, rv bb, iv (own_ng ((N / 10 / 10) / 10 / 10)), iv ((N % 100).toInt32), iv 8, iv 0] [(.int 100), (.int (own_ng ((N / 10 / 10) / 10 / 10)))])) (fun t k => XS.bipush X8.here hx rfl (hb hby d4_34) k) ?_
  refine own_go (b := T8.setTop (mkF m 37 #[iv (own_ng (N / 10 / 10)), iv 10, rv bb, iv (own_ng ((N / 10 / 10) / 10 / 10)), iv ((N % 100).toInt32), iv 8, iv 0] [(.int ((own_ng ((N / 10 / 10) / 10 / 10)) * (100 : Int32)))])) (fun t k => XS.imul X8.here hx rfl (hb hby d4_36) rfl k) ?_
  refine own_go (b := T8.setTop (mkF m 38 #[iv (own_ng (N / 10 / 10)), iv 10, rv bb, iv (own_ng ((N / 10 / 10) / 10 / 10)), iv ((N % 100).toInt32), iv 8, iv 0] [(.int (own_ng (N / 10 / 10))), (.int ((own_ng ((N / 10 / 10) / 10 / 10)) * (100 : Int32)))])) (fun t k => XS.iloadN X8.here hx rfl (hb hby d4_37) rfl  k) ?_
  refine own_go (b := T8.setTop (mkF m 39 #[iv (own_ng (N / 10 / 10)), iv 10, rv bb, iv (own_ng ((N / 10 / 10) / 10 / 10)), iv ((N % 100).toInt32), iv 8, iv 0] [(.int (((own_ng ((N / 10 / 10) / 10 / 10)) * (100 : Int32)) - (own_ng (N / 10 / 10))))])) (fun t k => XS.isub X8.here hx rfl (hb hby d4_38) rfl k) ?_
  refine own_go (b := T8.setTop (mkF m 41 #[iv (own_ng (N / 10 / 10)), iv 10, rv bb, iv (own_ng ((N / 10 / 10) / 10 / 10)), iv (((own_ng ((N / 10 / 10) / 10 / 10)) * (100 : Int32)) - (own_ng (N / 10 / 10))), iv 8, iv 0] [])) (fun t k => XS.istore X8.here hx rfl (hb hby d4_39) rfl (l' := #[iv (own_ng (N / 10 / 10)), iv 10, rv bb, iv (own_ng ((N / 10 / 10) / 10 / 10)), iv (((own_ng ((N / 10 / 10) / 10 / 10)) * (100 : Int32)) - (own_ng (N / 10 / 10))), iv 8, iv 0]) rfl k) ?_
  rw [own_ng_rem (a := (N / 10 / 10)) (by omega)]
  refine own_go (b := T8.setTop (mkF m 42 #[iv (own_ng (N / 10 / 10)), iv 10, rv bb, iv (own_ng ((N / 10 / 10) / 10 / 10)), iv (((N / 10 / 10) % 100).toInt32), iv 8, iv 0] [(.int (own_ng ((N / 10 / 10) / 10 / 10)))])) (fun t k => XS.iloadN X8.here hx rfl (hb hby d4_41) rfl  k) ?_
  refine own_go (b := T8.setTop (mkF m 43 #[iv (own_ng ((N / 10 / 10) / 10 / 10)), iv 10, rv bb, iv (own_ng ((N / 10 / 10) / 10 / 10)), iv (((N / 10 / 10) % 100).toInt32), iv 8, iv 0] [])) (fun t k => XS.istoreN X8.here hx rfl (hb hby d4_42) rfl (l' := #[iv (own_ng ((N / 10 / 10) / 10 / 10)), iv 10, rv bb, iv (own_ng ((N / 10 / 10) / 10 / 10)), iv (((N / 10 / 10) % 100).toInt32), iv 8, iv 0]) rfl k) ?_
  refine own_go (b := T8.setTop (mkF m 44 #[iv (own_ng ((N / 10 / 10) / 10 / 10)), iv 10, rv bb, iv (own_ng ((N / 10 / 10) / 10 / 10)), iv (((N / 10 / 10) % 100).toInt32), iv 8, iv 0] [(.ref bb)])) (fun t k => XS.aloadN X8.here hx rfl (hb hby d4_43) rfl rfl k) ?_
  refine own_go (b := T8.setTop (mkF m 47 #[iv (own_ng ((N / 10 / 10) / 10 / 10)), iv 10, rv bb, iv (own_ng ((N / 10 / 10) / 10 / 10)), iv (((N / 10 / 10) % 100).toInt32), iv 7, iv 0] [(.ref bb)])) (fun t k => XS.iinc X8.here hx rfl (hb hby d4_44) rfl (l' := #[iv (own_ng ((N / 10 / 10) / 10 / 10)), iv 10, rv bb, iv (own_ng ((N / 10 / 10) / 10 / 10)), iv (((N / 10 / 10) % 100).toInt32), iv 7, iv 0]) rfl k) ?_
  refine own_go (b := T8.setTop (mkF m 49 #[iv (own_ng ((N / 10 / 10) / 10 / 10)), iv 10, rv bb, iv (own_ng ((N / 10 / 10) / 10 / 10)), iv (((N / 10 / 10) % 100).toInt32), iv 7, iv 0] [(.int 7), (.ref bb)])) (fun t k => XS.iload X8.here hx rfl (hb hby d4_47) rfl  k) ?_
  obtain ⟨T9, X9, e9, st9⟩ := getS2 X8 hx hZ hown (host := "") (Or.inl (hw _ (List.mem_of_getElem? (i := 20) rfl))) Via.refl e8 (SO.ext Ol8.2) (g := (mkF m 49 #[iv (own_ng ((N / 10 / 10) / 10 / 10)), iv 10, rv bb, iv (own_ng ((N / 10 / 10) / 10 / 10)), iv (((N / 10 / 10) % 100).toInt32), iv 7, iv 0] [(.int 7), (.ref bb)])) rfl (hb hby d4_49)
  refine own_go (b := T9.setTop (mkF m 52 #[iv (own_ng ((N / 10 / 10) / 10 / 10)), iv 10, rv bb, iv (own_ng ((N / 10 / 10) / 10 / 10)), iv (((N / 10 / 10) % 100).toInt32), iv 7, iv 0] [(.ref dO), (.int 7), (.ref bb)])) st9 ?_
  refine own_go (b := T9.setTop (mkF m 54 #[iv (own_ng ((N / 10 / 10) / 10 / 10)), iv 10, rv bb, iv (own_ng ((N / 10 / 10) / 10 / 10)), iv (((N / 10 / 10) % 100).toInt32), iv 7, iv 0] [(.int (((N / 10 / 10) % 100).toInt32)), (.ref dO), (.int 7), (.ref bb)])) (fun t k => XS.iload X9.here hx rfl (hb hby d4_52) rfl  k) ?_
  have hq10 := hO ((N / 10 / 10) % 100) (by omega)
  rw [own_d_ones] at hq10
  have ar10 := AO.ext Ol8.2
  refine own_go (b := T9.setTop (mkF m 55 #[iv (own_ng ((N / 10 / 10) / 10 / 10)), iv 10, rv bb, iv (own_ng ((N / 10 / 10) / 10 / 10)), iv (((N / 10 / 10) % 100).toInt32), iv 7, iv 0] [(.int (own_d (N / 10 / 10))), (.int 7), (.ref bb)])) (fun t k => X9.baloadBytes hx (j := (((N / 10 / 10) % 100).toInt32)) (v := (.int (own_d (N / 10 / 10)))) (by rw [e9]; exact ar10.1) (State.isArrayOf_alike hZ.alike ar10.2.1) ar10.2.2 hq10.1 hq10.2 (g := (mkF m 54 #[iv (own_ng ((N / 10 / 10) / 10 / 10)), iv 10, rv bb, iv (own_ng ((N / 10 / 10) / 10 / 10)), iv (((N / 10 / 10) % 100).toInt32), iv 7, iv 0] [(.int (((N / 10 / 10) % 100).toInt32)), (.ref dO), (.int 7), (.ref bb)])) rfl rfl (hb hby d4_54) t k) ?_
  obtain ⟨cl11, Ar11, qc11, Sz11, Ng11, Hs11, Ft11⟩ := id V_bb_8
  have hin11 : ¬ ((7 : Int32) < 0 ∨ cl11.slots.size ≤ ((7 : Int32)).toNatClampNeg) := inb_of Sz11 ⟨by decide, by decide⟩
  obtain ⟨T12, h12, X12, e12, W12, st12⟩ := stB X9 hx hZ e9 Ar11 (j := (7 : Int32)) hin11 (g := (mkF m 55 #[iv (own_ng ((N / 10 / 10) / 10 / 10)), iv 10, rv bb, iv (own_ng ((N / 10 / 10) / 10 / 10)), iv (((N / 10 / 10) % 100).toInt32), iv 7, iv 0] [(.int (own_d (N / 10 / 10))), (.int 7), (.ref bb)])) rfl rfl (hb hby d4_55)
  have V_bb_12 : Arv Z h12 bb kb .byte (10 : Int32) [(.int 0), (.int 0), (.int 0), (.int 0), (.int 0), (.int 0), (.int 0), (.int (nar .byte (own_d (N / 10 / 10)))), (.int (nar .byte (own_d (N / 10)))), (.int (nar .byte (own_d N)))] (.int (0 : Int32)) := Arv.set Ar11 qc11 Sz11 Ng11 Hs11 Ft11 (fits_nar_byte _) W12 7 rfl (Nat.le_of_ble_eq_true rfl)
  have Zs12 : n0 ≤ h12.size := Nat.le_trans Zs8 (Keep.of_wr W12).1
  have N12 := Fr.snoc X12 N8 gb
  have Kp12 : Keep h0 h12 [bb] := Kp8.wr W12 (Or.inl (List.mem_of_getElem? (i := 0) rfl))
  have Ol12 := Ol8.wr W12 gb
  refine own_go (b := T12.setTop (mkF m 56 #[iv (own_ng ((N / 10 / 10) / 10 / 10)), iv 10, rv bb, iv (own_ng ((N / 10 / 10) / 10 / 10)), iv (((N / 10 / 10) % 100).toInt32), iv 7, iv 0] [])) st12 ?_
  refine own_go (b := T12.setTop (mkF m 57 #[iv (own_ng ((N / 10 / 10) / 10 / 10)), iv 10, rv bb, iv (own_ng ((N / 10 / 10) / 10 / 10)), iv (((N / 10 / 10) % 100).toInt32), iv 7, iv 0] [(.ref bb)])) (fun t k => XS.aloadN X12.here hx rfl (hb hby d4_56) rfl rfl k) ?_
  refine own_go (b := T12.setTop (mkF m 60 #[iv (own_ng ((N / 10 / 10) / 10 / 10)), iv 10, rv bb, iv (own_ng ((N / 10 / 10) / 10 / 10)), iv (((N / 10 / 10) % 100).toInt32), iv 6, iv 0] [(.ref bb)])) (fun t k => XS.iinc X12.here hx rfl (hb hby d4_57) rfl (l' := #[iv (own_ng ((N / 10 / 10) / 10 / 10)), iv 10, rv bb, iv (own_ng ((N / 10 / 10) / 10 / 10)), iv (((N / 10 / 10) % 100).toInt32), iv 6, iv 0]) rfl k) ?_
  refine own_go (b := T12.setTop (mkF m 62 #[iv (own_ng ((N / 10 / 10) / 10 / 10)), iv 10, rv bb, iv (own_ng ((N / 10 / 10) / 10 / 10)), iv (((N / 10 / 10) % 100).toInt32), iv 6, iv 0] [(.int 6), (.ref bb)])) (fun t k => XS.iload X12.here hx rfl (hb hby d4_60) rfl  k) ?_
  obtain ⟨T13, X13, e13, st13⟩ := getS2 X12 hx hZ hown (host := "") (Or.inl (hw _ (List.mem_of_getElem? (i := 126) rfl))) Via.refl e12 (ST.ext Ol12.2) (g := (mkF m 62 #[iv (own_ng ((N / 10 / 10) / 10 / 10)), iv 10, rv bb, iv (own_ng ((N / 10 / 10) / 10 / 10)), iv (((N / 10 / 10) % 100).toInt32), iv 6, iv 0] [(.int 6), (.ref bb)])) rfl (hb hby d4_62)
  refine own_go (b := T13.setTop (mkF m 65 #[iv (own_ng ((N / 10 / 10) / 10 / 10)), iv 10, rv bb, iv (own_ng ((N / 10 / 10) / 10 / 10)), iv (((N / 10 / 10) % 100).toInt32), iv 6, iv 0] [(.ref dT), (.int 6), (.ref bb)])) st13 ?_
  refine own_go (b := T13.setTop (mkF m 67 #[iv (own_ng ((N / 10 / 10) / 10 / 10)), iv 10, rv bb, iv (own_ng ((N / 10 / 10) / 10 / 10)), iv (((N / 10 / 10) % 100).toInt32), iv 6, iv 0] [(.int (((N / 10 / 10) % 100).toInt32)), (.ref dT), (.int 6), (.ref bb)])) (fun t k => XS.iload X13.here hx rfl (hb hby d4_65) rfl  k) ?_
  have hq14 := hT ((N / 10 / 10) % 100) (by omega)
  rw [own_d_tens] at hq14
  have ar14 := AT.ext Ol12.2
  refine own_go (b := T13.setTop (mkF m 68 #[iv (own_ng ((N / 10 / 10) / 10 / 10)), iv 10, rv bb, iv (own_ng ((N / 10 / 10) / 10 / 10)), iv (((N / 10 / 10) % 100).toInt32), iv 6, iv 0] [(.int (own_d ((N / 10 / 10) / 10))), (.int 6), (.ref bb)])) (fun t k => X13.baloadBytes hx (j := (((N / 10 / 10) % 100).toInt32)) (v := (.int (own_d ((N / 10 / 10) / 10)))) (by rw [e13]; exact ar14.1) (State.isArrayOf_alike hZ.alike ar14.2.1) ar14.2.2 hq14.1 hq14.2 (g := (mkF m 67 #[iv (own_ng ((N / 10 / 10) / 10 / 10)), iv 10, rv bb, iv (own_ng ((N / 10 / 10) / 10 / 10)), iv (((N / 10 / 10) % 100).toInt32), iv 6, iv 0] [(.int (((N / 10 / 10) % 100).toInt32)), (.ref dT), (.int 6), (.ref bb)])) rfl rfl (hb hby d4_67) t k) ?_
  obtain ⟨cl15, Ar15, qc15, Sz15, Ng15, Hs15, Ft15⟩ := id V_bb_12
  have hin15 : ¬ ((6 : Int32) < 0 ∨ cl15.slots.size ≤ ((6 : Int32)).toNatClampNeg) := inb_of Sz15 ⟨by decide, by decide⟩
  obtain ⟨T16, h16, X16, e16, W16, st16⟩ := stB X13 hx hZ e13 Ar15 (j := (6 : Int32)) hin15 (g := (mkF m 68 #[iv (own_ng ((N / 10 / 10) / 10 / 10)), iv 10, rv bb, iv (own_ng ((N / 10 / 10) / 10 / 10)), iv (((N / 10 / 10) % 100).toInt32), iv 6, iv 0] [(.int (own_d ((N / 10 / 10) / 10))), (.int 6), (.ref bb)])) rfl rfl (hb hby d4_68)
  have V_bb_16 : Arv Z h16 bb kb .byte (10 : Int32) [(.int 0), (.int 0), (.int 0), (.int 0), (.int 0), (.int 0), (.int (nar .byte (own_d ((N / 10 / 10) / 10)))), (.int (nar .byte (own_d (N / 10 / 10)))), (.int (nar .byte (own_d (N / 10)))), (.int (nar .byte (own_d N)))] (.int (0 : Int32)) := Arv.set Ar15 qc15 Sz15 Ng15 Hs15 Ft15 (fits_nar_byte _) W16 6 rfl (Nat.le_of_ble_eq_true rfl)
  have Zs16 : n0 ≤ h16.size := Nat.le_trans Zs12 (Keep.of_wr W16).1
  have N16 := Fr.snoc X16 N12 gb
  have Kp16 : Keep h0 h16 [bb] := Kp12.wr W16 (Or.inl (List.mem_of_getElem? (i := 0) rfl))
  have Ol16 := Ol12.wr W16 gb
  refine own_go (b := T16.setTop (mkF m 69 #[iv (own_ng ((N / 10 / 10) / 10 / 10)), iv 10, rv bb, iv (own_ng ((N / 10 / 10) / 10 / 10)), iv (((N / 10 / 10) % 100).toInt32), iv 6, iv 0] [])) st16 ?_
  refine own_go (b := T16.setTop (mkF m 22 #[iv (own_ng ((N / 10 / 10) / 10 / 10)), iv 10, rv bb, iv (own_ng ((N / 10 / 10) / 10 / 10)), iv (((N / 10 / 10) % 100).toInt32), iv 6, iv 0] [])) (fun t k => XS.goto X16.here hx rfl (pc0 := 69) (pc' := 22) rfl (hb hby d4_69) (by decide) (by decide) k) ?_
  refine own_go (b := T16.setTop (mkF m 23 #[iv (own_ng ((N / 10 / 10) / 10 / 10)), iv 10, rv bb, iv (own_ng ((N / 10 / 10) / 10 / 10)), iv (((N / 10 / 10) % 100).toInt32), iv 6, iv 0] [(.int (own_ng ((N / 10 / 10) / 10 / 10)))])) (fun t k => XS.iloadN X16.here hx rfl (hb hby d4_22) rfl  k) ?_
  refine own_go (b := T16.setTop (mkF m 25 #[iv (own_ng ((N / 10 / 10) / 10 / 10)), iv 10, rv bb, iv (own_ng ((N / 10 / 10) / 10 / 10)), iv (((N / 10 / 10) % 100).toInt32), iv 6, iv 0] [(.int (-100)), (.int (own_ng ((N / 10 / 10) / 10 / 10)))])) (fun t k => XS.bipush X16.here hx rfl (hb hby d4_23) k) ?_
  refine own_go (b := T16.setTop (mkF m 28 #[iv (own_ng ((N / 10 / 10) / 10 / 10)), iv 10, rv bb, iv (own_ng ((N / 10 / 10) / 10 / 10)), iv (((N / 10 / 10) % 100).toInt32), iv 6, iv 0] [])) (fun t k => XS.icmpNo X16.here hx rfl (hb hby d4_25) rfl (flt (own_ng_ngt (m := 100) (by omega) (by decide) (by omega))).2.2.1 k) ?_
  refine own_go (b := T16.setTop (mkF m 29 #[iv (own_ng ((N / 10 / 10) / 10 / 10)), iv 10, rv bb, iv (own_ng ((N / 10 / 10) / 10 / 10)), iv (((N / 10 / 10) % 100).toInt32), iv 6, iv 0] [(.int (own_ng ((N / 10 / 10) / 10 / 10)))])) (fun t k => XS.iloadN X16.here hx rfl (hb hby d4_28) rfl  k) ?_
  refine own_go (b := T16.setTop (mkF m 31 #[iv (own_ng ((N / 10 / 10) / 10 / 10)), iv 10, rv bb, iv (own_ng ((N / 10 / 10) / 10 / 10)), iv (((N / 10 / 10) % 100).toInt32), iv 6, iv 0] [(.int 100), (.int (own_ng ((N / 10 / 10) / 10 / 10)))])) (fun t k => XS.bipush X16.here hx rfl (hb hby d4_29) k) ?_
  refine own_go (b := T16.setTop (mkF m 32 #[iv (own_ng ((N / 10 / 10) / 10 / 10)), iv 10, rv bb, iv (own_ng ((N / 10 / 10) / 10 / 10)), iv (((N / 10 / 10) % 100).toInt32), iv 6, iv 0] [(.int ((own_ng ((N / 10 / 10) / 10 / 10)) / (100 : Int32)))])) (fun t k => XS.idiv X16.here hx rfl (hb hby d4_31) rfl (by decide) k) ?_
  refine own_go (b := T16.setTop (mkF m 33 #[iv (own_ng ((N / 10 / 10) / 10 / 10)), iv 10, rv bb, iv ((own_ng ((N / 10 / 10) / 10 / 10)) / (100 : Int32)), iv (((N / 10 / 10) % 100).toInt32), iv 6, iv 0] [])) (fun t k => XS.istoreN X16.here hx rfl (hb hby d4_32) rfl (l' := #[iv (own_ng ((N / 10 / 10) / 10 / 10)), iv 10, rv bb, iv ((own_ng ((N / 10 / 10) / 10 / 10)) / (100 : Int32)), iv (((N / 10 / 10) % 100).toInt32), iv 6, iv 0]) rfl k) ?_
  rw [own_ng_div (a := ((N / 10 / 10) / 10 / 10)) (by omega)]
  refine own_go (b := T16.setTop (mkF m 34 #[iv (own_ng ((N / 10 / 10) / 10 / 10)), iv 10, rv bb, iv (own_ng (((N / 10 / 10) / 10 / 10) / 10 / 10)), iv (((N / 10 / 10) % 100).toInt32), iv 6, iv 0] [(.int (own_ng (((N / 10 / 10) / 10 / 10) / 10 / 10)))])) (fun t k => XS.iloadN X16.here hx rfl (hb hby d4_33) rfl  k) ?_
  refine own_go (b := T16.setTop (mkF m 36 #[iv (own_ng ((N / 10 / 10) / 10 / 10)), iv 10, rv bb, iv (own_ng (((N / 10 / 10) / 10 / 10) / 10 / 10)), iv (((N / 10 / 10) % 100).toInt32), iv 6, iv 0] [(.int 100), (.int (own_ng (((N / 10 / 10) / 10 / 10) / 10 / 10)))])) (fun t k => XS.bipush X16.here hx rfl (hb hby d4_34) k) ?_
  refine own_go (b := T16.setTop (mkF m 37 #[iv (own_ng ((N / 10 / 10) / 10 / 10)), iv 10, rv bb, iv (own_ng (((N / 10 / 10) / 10 / 10) / 10 / 10)), iv (((N / 10 / 10) % 100).toInt32), iv 6, iv 0] [(.int ((own_ng (((N / 10 / 10) / 10 / 10) / 10 / 10)) * (100 : Int32)))])) (fun t k => XS.imul X16.here hx rfl (hb hby d4_36) rfl k) ?_
  refine own_go (b := T16.setTop (mkF m 38 #[iv (own_ng ((N / 10 / 10) / 10 / 10)), iv 10, rv bb, iv (own_ng (((N / 10 / 10) / 10 / 10) / 10 / 10)), iv (((N / 10 / 10) % 100).toInt32), iv 6, iv 0] [(.int (own_ng ((N / 10 / 10) / 10 / 10))), (.int ((own_ng (((N / 10 / 10) / 10 / 10) / 10 / 10)) * (100 : Int32)))])) (fun t k => XS.iloadN X16.here hx rfl (hb hby d4_37) rfl  k) ?_
  refine own_go (b := T16.setTop (mkF m 39 #[iv (own_ng ((N / 10 / 10) / 10 / 10)), iv 10, rv bb, iv (own_ng (((N / 10 / 10) / 10 / 10) / 10 / 10)), iv (((N / 10 / 10) % 100).toInt32), iv 6, iv 0] [(.int (((own_ng (((N / 10 / 10) / 10 / 10) / 10 / 10)) * (100 : Int32)) - (own_ng ((N / 10 / 10) / 10 / 10))))])) (fun t k => XS.isub X16.here hx rfl (hb hby d4_38) rfl k) ?_
  refine own_go (b := T16.setTop (mkF m 41 #[iv (own_ng ((N / 10 / 10) / 10 / 10)), iv 10, rv bb, iv (own_ng (((N / 10 / 10) / 10 / 10) / 10 / 10)), iv (((own_ng (((N / 10 / 10) / 10 / 10) / 10 / 10)) * (100 : Int32)) - (own_ng ((N / 10 / 10) / 10 / 10))), iv 6, iv 0] [])) (fun t k => XS.istore X16.here hx rfl (hb hby d4_39) rfl (l' := #[iv (own_ng ((N / 10 / 10) / 10 / 10)), iv 10, rv bb, iv (own_ng (((N / 10 / 10) / 10 / 10) / 10 / 10)), iv (((own_ng (((N / 10 / 10) / 10 / 10) / 10 / 10)) * (100 : Int32)) - (own_ng ((N / 10 / 10) / 10 / 10))), iv 6, iv 0]) rfl k) ?_
  rw [own_ng_rem (a := ((N / 10 / 10) / 10 / 10)) (by omega)]
  refine own_go (b := T16.setTop (mkF m 42 #[iv (own_ng ((N / 10 / 10) / 10 / 10)), iv 10, rv bb, iv (own_ng (((N / 10 / 10) / 10 / 10) / 10 / 10)), iv ((((N / 10 / 10) / 10 / 10) % 100).toInt32), iv 6, iv 0] [(.int (own_ng (((N / 10 / 10) / 10 / 10) / 10 / 10)))])) (fun t k => XS.iloadN X16.here hx rfl (hb hby d4_41) rfl  k) ?_
  refine own_go (b := T16.setTop (mkF m 43 #[iv (own_ng (((N / 10 / 10) / 10 / 10) / 10 / 10)), iv 10, rv bb, iv (own_ng (((N / 10 / 10) / 10 / 10) / 10 / 10)), iv ((((N / 10 / 10) / 10 / 10) % 100).toInt32), iv 6, iv 0] [])) (fun t k => XS.istoreN X16.here hx rfl (hb hby d4_42) rfl (l' := #[iv (own_ng (((N / 10 / 10) / 10 / 10) / 10 / 10)), iv 10, rv bb, iv (own_ng (((N / 10 / 10) / 10 / 10) / 10 / 10)), iv ((((N / 10 / 10) / 10 / 10) % 100).toInt32), iv 6, iv 0]) rfl k) ?_
  refine own_go (b := T16.setTop (mkF m 44 #[iv (own_ng (((N / 10 / 10) / 10 / 10) / 10 / 10)), iv 10, rv bb, iv (own_ng (((N / 10 / 10) / 10 / 10) / 10 / 10)), iv ((((N / 10 / 10) / 10 / 10) % 100).toInt32), iv 6, iv 0] [(.ref bb)])) (fun t k => XS.aloadN X16.here hx rfl (hb hby d4_43) rfl rfl k) ?_
  refine own_go (b := T16.setTop (mkF m 47 #[iv (own_ng (((N / 10 / 10) / 10 / 10) / 10 / 10)), iv 10, rv bb, iv (own_ng (((N / 10 / 10) / 10 / 10) / 10 / 10)), iv ((((N / 10 / 10) / 10 / 10) % 100).toInt32), iv 5, iv 0] [(.ref bb)])) (fun t k => XS.iinc X16.here hx rfl (hb hby d4_44) rfl (l' := #[iv (own_ng (((N / 10 / 10) / 10 / 10) / 10 / 10)), iv 10, rv bb, iv (own_ng (((N / 10 / 10) / 10 / 10) / 10 / 10)), iv ((((N / 10 / 10) / 10 / 10) % 100).toInt32), iv 5, iv 0]) rfl k) ?_
  refine own_go (b := T16.setTop (mkF m 49 #[iv (own_ng (((N / 10 / 10) / 10 / 10) / 10 / 10)), iv 10, rv bb, iv (own_ng (((N / 10 / 10) / 10 / 10) / 10 / 10)), iv ((((N / 10 / 10) / 10 / 10) % 100).toInt32), iv 5, iv 0] [(.int 5), (.ref bb)])) (fun t k => XS.iload X16.here hx rfl (hb hby d4_47) rfl  k) ?_
  obtain ⟨T17, X17, e17, st17⟩ := getS2 X16 hx hZ hown (host := "") (Or.inl (hw _ (List.mem_of_getElem? (i := 20) rfl))) Via.refl e16 (SO.ext Ol16.2) (g := (mkF m 49 #[iv (own_ng (((N / 10 / 10) / 10 / 10) / 10 / 10)), iv 10, rv bb, iv (own_ng (((N / 10 / 10) / 10 / 10) / 10 / 10)), iv ((((N / 10 / 10) / 10 / 10) % 100).toInt32), iv 5, iv 0] [(.int 5), (.ref bb)])) rfl (hb hby d4_49)
  refine own_go (b := T17.setTop (mkF m 52 #[iv (own_ng (((N / 10 / 10) / 10 / 10) / 10 / 10)), iv 10, rv bb, iv (own_ng (((N / 10 / 10) / 10 / 10) / 10 / 10)), iv ((((N / 10 / 10) / 10 / 10) % 100).toInt32), iv 5, iv 0] [(.ref dO), (.int 5), (.ref bb)])) st17 ?_
  refine own_go (b := T17.setTop (mkF m 54 #[iv (own_ng (((N / 10 / 10) / 10 / 10) / 10 / 10)), iv 10, rv bb, iv (own_ng (((N / 10 / 10) / 10 / 10) / 10 / 10)), iv ((((N / 10 / 10) / 10 / 10) % 100).toInt32), iv 5, iv 0] [(.int ((((N / 10 / 10) / 10 / 10) % 100).toInt32)), (.ref dO), (.int 5), (.ref bb)])) (fun t k => XS.iload X17.here hx rfl (hb hby d4_52) rfl  k) ?_
  have hq18 := hO (((N / 10 / 10) / 10 / 10) % 100) (by omega)
  rw [own_d_ones] at hq18
  have ar18 := AO.ext Ol16.2
  refine own_go (b := T17.setTop (mkF m 55 #[iv (own_ng (((N / 10 / 10) / 10 / 10) / 10 / 10)), iv 10, rv bb, iv (own_ng (((N / 10 / 10) / 10 / 10) / 10 / 10)), iv ((((N / 10 / 10) / 10 / 10) % 100).toInt32), iv 5, iv 0] [(.int (own_d ((N / 10 / 10) / 10 / 10))), (.int 5), (.ref bb)])) (fun t k => X17.baloadBytes hx (j := ((((N / 10 / 10) / 10 / 10) % 100).toInt32)) (v := (.int (own_d ((N / 10 / 10) / 10 / 10)))) (by rw [e17]; exact ar18.1) (State.isArrayOf_alike hZ.alike ar18.2.1) ar18.2.2 hq18.1 hq18.2 (g := (mkF m 54 #[iv (own_ng (((N / 10 / 10) / 10 / 10) / 10 / 10)), iv 10, rv bb, iv (own_ng (((N / 10 / 10) / 10 / 10) / 10 / 10)), iv ((((N / 10 / 10) / 10 / 10) % 100).toInt32), iv 5, iv 0] [(.int ((((N / 10 / 10) / 10 / 10) % 100).toInt32)), (.ref dO), (.int 5), (.ref bb)])) rfl rfl (hb hby d4_54) t k) ?_
  obtain ⟨cl19, Ar19, qc19, Sz19, Ng19, Hs19, Ft19⟩ := id V_bb_16
  have hin19 : ¬ ((5 : Int32) < 0 ∨ cl19.slots.size ≤ ((5 : Int32)).toNatClampNeg) := inb_of Sz19 ⟨by decide, by decide⟩
  obtain ⟨T20, h20, X20, e20, W20, st20⟩ := stB X17 hx hZ e17 Ar19 (j := (5 : Int32)) hin19 (g := (mkF m 55 #[iv (own_ng (((N / 10 / 10) / 10 / 10) / 10 / 10)), iv 10, rv bb, iv (own_ng (((N / 10 / 10) / 10 / 10) / 10 / 10)), iv ((((N / 10 / 10) / 10 / 10) % 100).toInt32), iv 5, iv 0] [(.int (own_d ((N / 10 / 10) / 10 / 10))), (.int 5), (.ref bb)])) rfl rfl (hb hby d4_55)
  have V_bb_20 : Arv Z h20 bb kb .byte (10 : Int32) [(.int 0), (.int 0), (.int 0), (.int 0), (.int 0), (.int (nar .byte (own_d ((N / 10 / 10) / 10 / 10)))), (.int (nar .byte (own_d ((N / 10 / 10) / 10)))), (.int (nar .byte (own_d (N / 10 / 10)))), (.int (nar .byte (own_d (N / 10)))), (.int (nar .byte (own_d N)))] (.int (0 : Int32)) := Arv.set Ar19 qc19 Sz19 Ng19 Hs19 Ft19 (fits_nar_byte _) W20 5 rfl (Nat.le_of_ble_eq_true rfl)
  have Zs20 : n0 ≤ h20.size := Nat.le_trans Zs16 (Keep.of_wr W20).1
  have N20 := Fr.snoc X20 N16 gb
  have Kp20 : Keep h0 h20 [bb] := Kp16.wr W20 (Or.inl (List.mem_of_getElem? (i := 0) rfl))
  have Ol20 := Ol16.wr W20 gb
  refine own_go (b := T20.setTop (mkF m 56 #[iv (own_ng (((N / 10 / 10) / 10 / 10) / 10 / 10)), iv 10, rv bb, iv (own_ng (((N / 10 / 10) / 10 / 10) / 10 / 10)), iv ((((N / 10 / 10) / 10 / 10) % 100).toInt32), iv 5, iv 0] [])) st20 ?_
  refine own_go (b := T20.setTop (mkF m 57 #[iv (own_ng (((N / 10 / 10) / 10 / 10) / 10 / 10)), iv 10, rv bb, iv (own_ng (((N / 10 / 10) / 10 / 10) / 10 / 10)), iv ((((N / 10 / 10) / 10 / 10) % 100).toInt32), iv 5, iv 0] [(.ref bb)])) (fun t k => XS.aloadN X20.here hx rfl (hb hby d4_56) rfl rfl k) ?_
  refine own_go (b := T20.setTop (mkF m 60 #[iv (own_ng (((N / 10 / 10) / 10 / 10) / 10 / 10)), iv 10, rv bb, iv (own_ng (((N / 10 / 10) / 10 / 10) / 10 / 10)), iv ((((N / 10 / 10) / 10 / 10) % 100).toInt32), iv 4, iv 0] [(.ref bb)])) (fun t k => XS.iinc X20.here hx rfl (hb hby d4_57) rfl (l' := #[iv (own_ng (((N / 10 / 10) / 10 / 10) / 10 / 10)), iv 10, rv bb, iv (own_ng (((N / 10 / 10) / 10 / 10) / 10 / 10)), iv ((((N / 10 / 10) / 10 / 10) % 100).toInt32), iv 4, iv 0]) rfl k) ?_
  refine own_go (b := T20.setTop (mkF m 62 #[iv (own_ng (((N / 10 / 10) / 10 / 10) / 10 / 10)), iv 10, rv bb, iv (own_ng (((N / 10 / 10) / 10 / 10) / 10 / 10)), iv ((((N / 10 / 10) / 10 / 10) % 100).toInt32), iv 4, iv 0] [(.int 4), (.ref bb)])) (fun t k => XS.iload X20.here hx rfl (hb hby d4_60) rfl  k) ?_
  obtain ⟨T21, X21, e21, st21⟩ := getS2 X20 hx hZ hown (host := "") (Or.inl (hw _ (List.mem_of_getElem? (i := 126) rfl))) Via.refl e20 (ST.ext Ol20.2) (g := (mkF m 62 #[iv (own_ng (((N / 10 / 10) / 10 / 10) / 10 / 10)), iv 10, rv bb, iv (own_ng (((N / 10 / 10) / 10 / 10) / 10 / 10)), iv ((((N / 10 / 10) / 10 / 10) % 100).toInt32), iv 4, iv 0] [(.int 4), (.ref bb)])) rfl (hb hby d4_62)
  refine own_go (b := T21.setTop (mkF m 65 #[iv (own_ng (((N / 10 / 10) / 10 / 10) / 10 / 10)), iv 10, rv bb, iv (own_ng (((N / 10 / 10) / 10 / 10) / 10 / 10)), iv ((((N / 10 / 10) / 10 / 10) % 100).toInt32), iv 4, iv 0] [(.ref dT), (.int 4), (.ref bb)])) st21 ?_
  refine own_go (b := T21.setTop (mkF m 67 #[iv (own_ng (((N / 10 / 10) / 10 / 10) / 10 / 10)), iv 10, rv bb, iv (own_ng (((N / 10 / 10) / 10 / 10) / 10 / 10)), iv ((((N / 10 / 10) / 10 / 10) % 100).toInt32), iv 4, iv 0] [(.int ((((N / 10 / 10) / 10 / 10) % 100).toInt32)), (.ref dT), (.int 4), (.ref bb)])) (fun t k => XS.iload X21.here hx rfl (hb hby d4_65) rfl  k) ?_
  have hq22 := hT (((N / 10 / 10) / 10 / 10) % 100) (by omega)
  rw [own_d_tens] at hq22
  have ar22 := AT.ext Ol20.2
  refine own_go (b := T21.setTop (mkF m 68 #[iv (own_ng (((N / 10 / 10) / 10 / 10) / 10 / 10)), iv 10, rv bb, iv (own_ng (((N / 10 / 10) / 10 / 10) / 10 / 10)), iv ((((N / 10 / 10) / 10 / 10) % 100).toInt32), iv 4, iv 0] [(.int (own_d (((N / 10 / 10) / 10 / 10) / 10))), (.int 4), (.ref bb)])) (fun t k => X21.baloadBytes hx (j := ((((N / 10 / 10) / 10 / 10) % 100).toInt32)) (v := (.int (own_d (((N / 10 / 10) / 10 / 10) / 10)))) (by rw [e21]; exact ar22.1) (State.isArrayOf_alike hZ.alike ar22.2.1) ar22.2.2 hq22.1 hq22.2 (g := (mkF m 67 #[iv (own_ng (((N / 10 / 10) / 10 / 10) / 10 / 10)), iv 10, rv bb, iv (own_ng (((N / 10 / 10) / 10 / 10) / 10 / 10)), iv ((((N / 10 / 10) / 10 / 10) % 100).toInt32), iv 4, iv 0] [(.int ((((N / 10 / 10) / 10 / 10) % 100).toInt32)), (.ref dT), (.int 4), (.ref bb)])) rfl rfl (hb hby d4_67) t k) ?_
  obtain ⟨cl23, Ar23, qc23, Sz23, Ng23, Hs23, Ft23⟩ := id V_bb_20
  have hin23 : ¬ ((4 : Int32) < 0 ∨ cl23.slots.size ≤ ((4 : Int32)).toNatClampNeg) := inb_of Sz23 ⟨by decide, by decide⟩
  obtain ⟨T24, h24, X24, e24, W24, st24⟩ := stB X21 hx hZ e21 Ar23 (j := (4 : Int32)) hin23 (g := (mkF m 68 #[iv (own_ng (((N / 10 / 10) / 10 / 10) / 10 / 10)), iv 10, rv bb, iv (own_ng (((N / 10 / 10) / 10 / 10) / 10 / 10)), iv ((((N / 10 / 10) / 10 / 10) % 100).toInt32), iv 4, iv 0] [(.int (own_d (((N / 10 / 10) / 10 / 10) / 10))), (.int 4), (.ref bb)])) rfl rfl (hb hby d4_68)
  have V_bb_24 : Arv Z h24 bb kb .byte (10 : Int32) [(.int 0), (.int 0), (.int 0), (.int 0), (.int (nar .byte (own_d (((N / 10 / 10) / 10 / 10) / 10)))), (.int (nar .byte (own_d ((N / 10 / 10) / 10 / 10)))), (.int (nar .byte (own_d ((N / 10 / 10) / 10)))), (.int (nar .byte (own_d (N / 10 / 10)))), (.int (nar .byte (own_d (N / 10)))), (.int (nar .byte (own_d N)))] (.int (0 : Int32)) := Arv.set Ar23 qc23 Sz23 Ng23 Hs23 Ft23 (fits_nar_byte _) W24 4 rfl (Nat.le_of_ble_eq_true rfl)
  have Zs24 : n0 ≤ h24.size := Nat.le_trans Zs20 (Keep.of_wr W24).1
  have N24 := Fr.snoc X24 N20 gb
  have Kp24 : Keep h0 h24 [bb] := Kp20.wr W24 (Or.inl (List.mem_of_getElem? (i := 0) rfl))
  have Ol24 := Ol20.wr W24 gb
  refine own_go (b := T24.setTop (mkF m 69 #[iv (own_ng (((N / 10 / 10) / 10 / 10) / 10 / 10)), iv 10, rv bb, iv (own_ng (((N / 10 / 10) / 10 / 10) / 10 / 10)), iv ((((N / 10 / 10) / 10 / 10) % 100).toInt32), iv 4, iv 0] [])) st24 ?_
  refine own_go (b := T24.setTop (mkF m 22 #[iv (own_ng (((N / 10 / 10) / 10 / 10) / 10 / 10)), iv 10, rv bb, iv (own_ng (((N / 10 / 10) / 10 / 10) / 10 / 10)), iv ((((N / 10 / 10) / 10 / 10) % 100).toInt32), iv 4, iv 0] [])) (fun t k => XS.goto X24.here hx rfl (pc0 := 69) (pc' := 22) rfl (hb hby d4_69) (by decide) (by decide) k) ?_
  refine own_go (b := T24.setTop (mkF m 23 #[iv (own_ng (((N / 10 / 10) / 10 / 10) / 10 / 10)), iv 10, rv bb, iv (own_ng (((N / 10 / 10) / 10 / 10) / 10 / 10)), iv ((((N / 10 / 10) / 10 / 10) % 100).toInt32), iv 4, iv 0] [(.int (own_ng (((N / 10 / 10) / 10 / 10) / 10 / 10)))])) (fun t k => XS.iloadN X24.here hx rfl (hb hby d4_22) rfl  k) ?_
  refine own_go (b := T24.setTop (mkF m 25 #[iv (own_ng (((N / 10 / 10) / 10 / 10) / 10 / 10)), iv 10, rv bb, iv (own_ng (((N / 10 / 10) / 10 / 10) / 10 / 10)), iv ((((N / 10 / 10) / 10 / 10) % 100).toInt32), iv 4, iv 0] [(.int (-100)), (.int (own_ng (((N / 10 / 10) / 10 / 10) / 10 / 10)))])) (fun t k => XS.bipush X24.here hx rfl (hb hby d4_23) k) ?_
  refine own_go (b := T24.setTop (mkF m 28 #[iv (own_ng (((N / 10 / 10) / 10 / 10) / 10 / 10)), iv 10, rv bb, iv (own_ng (((N / 10 / 10) / 10 / 10) / 10 / 10)), iv ((((N / 10 / 10) / 10 / 10) % 100).toInt32), iv 4, iv 0] [])) (fun t k => XS.icmpNo X24.here hx rfl (hb hby d4_25) rfl (flt (own_ng_ngt (m := 100) (by omega) (by decide) (by omega))).2.2.1 k) ?_
  refine own_go (b := T24.setTop (mkF m 29 #[iv (own_ng (((N / 10 / 10) / 10 / 10) / 10 / 10)), iv 10, rv bb, iv (own_ng (((N / 10 / 10) / 10 / 10) / 10 / 10)), iv ((((N / 10 / 10) / 10 / 10) % 100).toInt32), iv 4, iv 0] [(.int (own_ng (((N / 10 / 10) / 10 / 10) / 10 / 10)))])) (fun t k => XS.iloadN X24.here hx rfl (hb hby d4_28) rfl  k) ?_
  refine own_go (b := T24.setTop (mkF m 31 #[iv (own_ng (((N / 10 / 10) / 10 / 10) / 10 / 10)), iv 10, rv bb, iv (own_ng (((N / 10 / 10) / 10 / 10) / 10 / 10)), iv ((((N / 10 / 10) / 10 / 10) % 100).toInt32), iv 4, iv 0] [(.int 100), (.int (own_ng (((N / 10 / 10) / 10 / 10) / 10 / 10)))])) (fun t k => XS.bipush X24.here hx rfl (hb hby d4_29) k) ?_
  refine own_go (b := T24.setTop (mkF m 32 #[iv (own_ng (((N / 10 / 10) / 10 / 10) / 10 / 10)), iv 10, rv bb, iv (own_ng (((N / 10 / 10) / 10 / 10) / 10 / 10)), iv ((((N / 10 / 10) / 10 / 10) % 100).toInt32), iv 4, iv 0] [(.int ((own_ng (((N / 10 / 10) / 10 / 10) / 10 / 10)) / (100 : Int32)))])) (fun t k => XS.idiv X24.here hx rfl (hb hby d4_31) rfl (by decide) k) ?_
  refine own_go (b := T24.setTop (mkF m 33 #[iv (own_ng (((N / 10 / 10) / 10 / 10) / 10 / 10)), iv 10, rv bb, iv ((own_ng (((N / 10 / 10) / 10 / 10) / 10 / 10)) / (100 : Int32)), iv ((((N / 10 / 10) / 10 / 10) % 100).toInt32), iv 4, iv 0] [])) (fun t k => XS.istoreN X24.here hx rfl (hb hby d4_32) rfl (l' := #[iv (own_ng (((N / 10 / 10) / 10 / 10) / 10 / 10)), iv 10, rv bb, iv ((own_ng (((N / 10 / 10) / 10 / 10) / 10 / 10)) / (100 : Int32)), iv ((((N / 10 / 10) / 10 / 10) % 100).toInt32), iv 4, iv 0]) rfl k) ?_
  rw [own_ng_div (a := (((N / 10 / 10) / 10 / 10) / 10 / 10)) (by omega)]
  refine own_go (b := T24.setTop (mkF m 34 #[iv (own_ng (((N / 10 / 10) / 10 / 10) / 10 / 10)), iv 10, rv bb, iv (own_ng ((((N / 10 / 10) / 10 / 10) / 10 / 10) / 10 / 10)), iv ((((N / 10 / 10) / 10 / 10) % 100).toInt32), iv 4, iv 0] [(.int (own_ng ((((N / 10 / 10) / 10 / 10) / 10 / 10) / 10 / 10)))])) (fun t k => XS.iloadN X24.here hx rfl (hb hby d4_33) rfl  k) ?_
  refine own_go (b := T24.setTop (mkF m 36 #[iv (own_ng (((N / 10 / 10) / 10 / 10) / 10 / 10)), iv 10, rv bb, iv (own_ng ((((N / 10 / 10) / 10 / 10) / 10 / 10) / 10 / 10)), iv ((((N / 10 / 10) / 10 / 10) % 100).toInt32), iv 4, iv 0] [(.int 100), (.int (own_ng ((((N / 10 / 10) / 10 / 10) / 10 / 10) / 10 / 10)))])) (fun t k => XS.bipush X24.here hx rfl (hb hby d4_34) k) ?_
  refine own_go (b := T24.setTop (mkF m 37 #[iv (own_ng (((N / 10 / 10) / 10 / 10) / 10 / 10)), iv 10, rv bb, iv (own_ng ((((N / 10 / 10) / 10 / 10) / 10 / 10) / 10 / 10)), iv ((((N / 10 / 10) / 10 / 10) % 100).toInt32), iv 4, iv 0] [(.int ((own_ng ((((N / 10 / 10) / 10 / 10) / 10 / 10) / 10 / 10)) * (100 : Int32)))])) (fun t k => XS.imul X24.here hx rfl (hb hby d4_36) rfl k) ?_
  refine own_go (b := T24.setTop (mkF m 38 #[iv (own_ng (((N / 10 / 10) / 10 / 10) / 10 / 10)), iv 10, rv bb, iv (own_ng ((((N / 10 / 10) / 10 / 10) / 10 / 10) / 10 / 10)), iv ((((N / 10 / 10) / 10 / 10) % 100).toInt32), iv 4, iv 0] [(.int (own_ng (((N / 10 / 10) / 10 / 10) / 10 / 10))), (.int ((own_ng ((((N / 10 / 10) / 10 / 10) / 10 / 10) / 10 / 10)) * (100 : Int32)))])) (fun t k => XS.iloadN X24.here hx rfl (hb hby d4_37) rfl  k) ?_
  refine own_go (b := T24.setTop (mkF m 39 #[iv (own_ng (((N / 10 / 10) / 10 / 10) / 10 / 10)), iv 10, rv bb, iv (own_ng ((((N / 10 / 10) / 10 / 10) / 10 / 10) / 10 / 10)), iv ((((N / 10 / 10) / 10 / 10) % 100).toInt32), iv 4, iv 0] [(.int (((own_ng ((((N / 10 / 10) / 10 / 10) / 10 / 10) / 10 / 10)) * (100 : Int32)) - (own_ng (((N / 10 / 10) / 10 / 10) / 10 / 10))))])) (fun t k => XS.isub X24.here hx rfl (hb hby d4_38) rfl k) ?_
  refine own_go (b := T24.setTop (mkF m 41 #[iv (own_ng (((N / 10 / 10) / 10 / 10) / 10 / 10)), iv 10, rv bb, iv (own_ng ((((N / 10 / 10) / 10 / 10) / 10 / 10) / 10 / 10)), iv (((own_ng ((((N / 10 / 10) / 10 / 10) / 10 / 10) / 10 / 10)) * (100 : Int32)) - (own_ng (((N / 10 / 10) / 10 / 10) / 10 / 10))), iv 4, iv 0] [])) (fun t k => XS.istore X24.here hx rfl (hb hby d4_39) rfl (l' := #[iv (own_ng (((N / 10 / 10) / 10 / 10) / 10 / 10)), iv 10, rv bb, iv (own_ng ((((N / 10 / 10) / 10 / 10) / 10 / 10) / 10 / 10)), iv (((own_ng ((((N / 10 / 10) / 10 / 10) / 10 / 10) / 10 / 10)) * (100 : Int32)) - (own_ng (((N / 10 / 10) / 10 / 10) / 10 / 10))), iv 4, iv 0]) rfl k) ?_
  rw [own_ng_rem (a := (((N / 10 / 10) / 10 / 10) / 10 / 10)) (by omega)]
  refine own_go (b := T24.setTop (mkF m 42 #[iv (own_ng (((N / 10 / 10) / 10 / 10) / 10 / 10)), iv 10, rv bb, iv (own_ng ((((N / 10 / 10) / 10 / 10) / 10 / 10) / 10 / 10)), iv (((((N / 10 / 10) / 10 / 10) / 10 / 10) % 100).toInt32), iv 4, iv 0] [(.int (own_ng ((((N / 10 / 10) / 10 / 10) / 10 / 10) / 10 / 10)))])) (fun t k => XS.iloadN X24.here hx rfl (hb hby d4_41) rfl  k) ?_
  refine own_go (b := T24.setTop (mkF m 43 #[iv (own_ng ((((N / 10 / 10) / 10 / 10) / 10 / 10) / 10 / 10)), iv 10, rv bb, iv (own_ng ((((N / 10 / 10) / 10 / 10) / 10 / 10) / 10 / 10)), iv (((((N / 10 / 10) / 10 / 10) / 10 / 10) % 100).toInt32), iv 4, iv 0] [])) (fun t k => XS.istoreN X24.here hx rfl (hb hby d4_42) rfl (l' := #[iv (own_ng ((((N / 10 / 10) / 10 / 10) / 10 / 10) / 10 / 10)), iv 10, rv bb, iv (own_ng ((((N / 10 / 10) / 10 / 10) / 10 / 10) / 10 / 10)), iv (((((N / 10 / 10) / 10 / 10) / 10 / 10) % 100).toInt32), iv 4, iv 0]) rfl k) ?_
  refine own_go (b := T24.setTop (mkF m 44 #[iv (own_ng ((((N / 10 / 10) / 10 / 10) / 10 / 10) / 10 / 10)), iv 10, rv bb, iv (own_ng ((((N / 10 / 10) / 10 / 10) / 10 / 10) / 10 / 10)), iv (((((N / 10 / 10) / 10 / 10) / 10 / 10) % 100).toInt32), iv 4, iv 0] [(.ref bb)])) (fun t k => XS.aloadN X24.here hx rfl (hb hby d4_43) rfl rfl k) ?_
  refine own_go (b := T24.setTop (mkF m 47 #[iv (own_ng ((((N / 10 / 10) / 10 / 10) / 10 / 10) / 10 / 10)), iv 10, rv bb, iv (own_ng ((((N / 10 / 10) / 10 / 10) / 10 / 10) / 10 / 10)), iv (((((N / 10 / 10) / 10 / 10) / 10 / 10) % 100).toInt32), iv 3, iv 0] [(.ref bb)])) (fun t k => XS.iinc X24.here hx rfl (hb hby d4_44) rfl (l' := #[iv (own_ng ((((N / 10 / 10) / 10 / 10) / 10 / 10) / 10 / 10)), iv 10, rv bb, iv (own_ng ((((N / 10 / 10) / 10 / 10) / 10 / 10) / 10 / 10)), iv (((((N / 10 / 10) / 10 / 10) / 10 / 10) % 100).toInt32), iv 3, iv 0]) rfl k) ?_
  refine own_go (b := T24.setTop (mkF m 49 #[iv (own_ng ((((N / 10 / 10) / 10 / 10) / 10 / 10) / 10 / 10)), iv 10, rv bb, iv (own_ng ((((N / 10 / 10) / 10 / 10) / 10 / 10) / 10 / 10)), iv (((((N / 10 / 10) / 10 / 10) / 10 / 10) % 100).toInt32), iv 3, iv 0] [(.int 3), (.ref bb)])) (fun t k => XS.iload X24.here hx rfl (hb hby d4_47) rfl  k) ?_
  obtain ⟨T25, X25, e25, st25⟩ := getS2 X24 hx hZ hown (host := "") (Or.inl (hw _ (List.mem_of_getElem? (i := 20) rfl))) Via.refl e24 (SO.ext Ol24.2) (g := (mkF m 49 #[iv (own_ng ((((N / 10 / 10) / 10 / 10) / 10 / 10) / 10 / 10)), iv 10, rv bb, iv (own_ng ((((N / 10 / 10) / 10 / 10) / 10 / 10) / 10 / 10)), iv (((((N / 10 / 10) / 10 / 10) / 10 / 10) % 100).toInt32), iv 3, iv 0] [(.int 3), (.ref bb)])) rfl (hb hby d4_49)
  refine own_go (b := T25.setTop (mkF m 52 #[iv (own_ng ((((N / 10 / 10) / 10 / 10) / 10 / 10) / 10 / 10)), iv 10, rv bb, iv (own_ng ((((N / 10 / 10) / 10 / 10) / 10 / 10) / 10 / 10)), iv (((((N / 10 / 10) / 10 / 10) / 10 / 10) % 100).toInt32), iv 3, iv 0] [(.ref dO), (.int 3), (.ref bb)])) st25 ?_
  refine own_go (b := T25.setTop (mkF m 54 #[iv (own_ng ((((N / 10 / 10) / 10 / 10) / 10 / 10) / 10 / 10)), iv 10, rv bb, iv (own_ng ((((N / 10 / 10) / 10 / 10) / 10 / 10) / 10 / 10)), iv (((((N / 10 / 10) / 10 / 10) / 10 / 10) % 100).toInt32), iv 3, iv 0] [(.int (((((N / 10 / 10) / 10 / 10) / 10 / 10) % 100).toInt32)), (.ref dO), (.int 3), (.ref bb)])) (fun t k => XS.iload X25.here hx rfl (hb hby d4_52) rfl  k) ?_
  have hq26 := hO ((((N / 10 / 10) / 10 / 10) / 10 / 10) % 100) (by omega)
  rw [own_d_ones] at hq26
  have ar26 := AO.ext Ol24.2
  refine own_go (b := T25.setTop (mkF m 55 #[iv (own_ng ((((N / 10 / 10) / 10 / 10) / 10 / 10) / 10 / 10)), iv 10, rv bb, iv (own_ng ((((N / 10 / 10) / 10 / 10) / 10 / 10) / 10 / 10)), iv (((((N / 10 / 10) / 10 / 10) / 10 / 10) % 100).toInt32), iv 3, iv 0] [(.int (own_d (((N / 10 / 10) / 10 / 10) / 10 / 10))), (.int 3), (.ref bb)])) (fun t k => X25.baloadBytes hx (j := (((((N / 10 / 10) / 10 / 10) / 10 / 10) % 100).toInt32)) (v := (.int (own_d (((N / 10 / 10) / 10 / 10) / 10 / 10)))) (by rw [e25]; exact ar26.1) (State.isArrayOf_alike hZ.alike ar26.2.1) ar26.2.2 hq26.1 hq26.2 (g := (mkF m 54 #[iv (own_ng ((((N / 10 / 10) / 10 / 10) / 10 / 10) / 10 / 10)), iv 10, rv bb, iv (own_ng ((((N / 10 / 10) / 10 / 10) / 10 / 10) / 10 / 10)), iv (((((N / 10 / 10) / 10 / 10) / 10 / 10) % 100).toInt32), iv 3, iv 0] [(.int (((((N / 10 / 10) / 10 / 10) / 10 / 10) % 100).toInt32)), (.ref dO), (.int 3), (.ref bb)])) rfl rfl (hb hby d4_54) t k) ?_
  obtain ⟨cl27, Ar27, qc27, Sz27, Ng27, Hs27, Ft27⟩ := id V_bb_24
  have hin27 : ¬ ((3 : Int32) < 0 ∨ cl27.slots.size ≤ ((3 : Int32)).toNatClampNeg) := inb_of Sz27 ⟨by decide, by decide⟩
  obtain ⟨T28, h28, X28, e28, W28, st28⟩ := stB X25 hx hZ e25 Ar27 (j := (3 : Int32)) hin27 (g := (mkF m 55 #[iv (own_ng ((((N / 10 / 10) / 10 / 10) / 10 / 10) / 10 / 10)), iv 10, rv bb, iv (own_ng ((((N / 10 / 10) / 10 / 10) / 10 / 10) / 10 / 10)), iv (((((N / 10 / 10) / 10 / 10) / 10 / 10) % 100).toInt32), iv 3, iv 0] [(.int (own_d (((N / 10 / 10) / 10 / 10) / 10 / 10))), (.int 3), (.ref bb)])) rfl rfl (hb hby d4_55)
  have V_bb_28 : Arv Z h28 bb kb .byte (10 : Int32) [(.int 0), (.int 0), (.int 0), (.int (nar .byte (own_d (((N / 10 / 10) / 10 / 10) / 10 / 10)))), (.int (nar .byte (own_d (((N / 10 / 10) / 10 / 10) / 10)))), (.int (nar .byte (own_d ((N / 10 / 10) / 10 / 10)))), (.int (nar .byte (own_d ((N / 10 / 10) / 10)))), (.int (nar .byte (own_d (N / 10 / 10)))), (.int (nar .byte (own_d (N / 10)))), (.int (nar .byte (own_d N)))] (.int (0 : Int32)) := Arv.set Ar27 qc27 Sz27 Ng27 Hs27 Ft27 (fits_nar_byte _) W28 3 rfl (Nat.le_of_ble_eq_true rfl)
  have Zs28 : n0 ≤ h28.size := Nat.le_trans Zs24 (Keep.of_wr W28).1
  have N28 := Fr.snoc X28 N24 gb
  have Kp28 : Keep h0 h28 [bb] := Kp24.wr W28 (Or.inl (List.mem_of_getElem? (i := 0) rfl))
  have Ol28 := Ol24.wr W28 gb
  refine own_go (b := T28.setTop (mkF m 56 #[iv (own_ng ((((N / 10 / 10) / 10 / 10) / 10 / 10) / 10 / 10)), iv 10, rv bb, iv (own_ng ((((N / 10 / 10) / 10 / 10) / 10 / 10) / 10 / 10)), iv (((((N / 10 / 10) / 10 / 10) / 10 / 10) % 100).toInt32), iv 3, iv 0] [])) st28 ?_
  refine own_go (b := T28.setTop (mkF m 57 #[iv (own_ng ((((N / 10 / 10) / 10 / 10) / 10 / 10) / 10 / 10)), iv 10, rv bb, iv (own_ng ((((N / 10 / 10) / 10 / 10) / 10 / 10) / 10 / 10)), iv (((((N / 10 / 10) / 10 / 10) / 10 / 10) % 100).toInt32), iv 3, iv 0] [(.ref bb)])) (fun t k => XS.aloadN X28.here hx rfl (hb hby d4_56) rfl rfl k) ?_
  refine own_go (b := T28.setTop (mkF m 60 #[iv (own_ng ((((N / 10 / 10) / 10 / 10) / 10 / 10) / 10 / 10)), iv 10, rv bb, iv (own_ng ((((N / 10 / 10) / 10 / 10) / 10 / 10) / 10 / 10)), iv (((((N / 10 / 10) / 10 / 10) / 10 / 10) % 100).toInt32), iv 2, iv 0] [(.ref bb)])) (fun t k => XS.iinc X28.here hx rfl (hb hby d4_57) rfl (l' := #[iv (own_ng ((((N / 10 / 10) / 10 / 10) / 10 / 10) / 10 / 10)), iv 10, rv bb, iv (own_ng ((((N / 10 / 10) / 10 / 10) / 10 / 10) / 10 / 10)), iv (((((N / 10 / 10) / 10 / 10) / 10 / 10) % 100).toInt32), iv 2, iv 0]) rfl k) ?_
  refine own_go (b := T28.setTop (mkF m 62 #[iv (own_ng ((((N / 10 / 10) / 10 / 10) / 10 / 10) / 10 / 10)), iv 10, rv bb, iv (own_ng ((((N / 10 / 10) / 10 / 10) / 10 / 10) / 10 / 10)), iv (((((N / 10 / 10) / 10 / 10) / 10 / 10) % 100).toInt32), iv 2, iv 0] [(.int 2), (.ref bb)])) (fun t k => XS.iload X28.here hx rfl (hb hby d4_60) rfl  k) ?_
  obtain ⟨T29, X29, e29, st29⟩ := getS2 X28 hx hZ hown (host := "") (Or.inl (hw _ (List.mem_of_getElem? (i := 126) rfl))) Via.refl e28 (ST.ext Ol28.2) (g := (mkF m 62 #[iv (own_ng ((((N / 10 / 10) / 10 / 10) / 10 / 10) / 10 / 10)), iv 10, rv bb, iv (own_ng ((((N / 10 / 10) / 10 / 10) / 10 / 10) / 10 / 10)), iv (((((N / 10 / 10) / 10 / 10) / 10 / 10) % 100).toInt32), iv 2, iv 0] [(.int 2), (.ref bb)])) rfl (hb hby d4_62)
  refine own_go (b := T29.setTop (mkF m 65 #[iv (own_ng ((((N / 10 / 10) / 10 / 10) / 10 / 10) / 10 / 10)), iv 10, rv bb, iv (own_ng ((((N / 10 / 10) / 10 / 10) / 10 / 10) / 10 / 10)), iv (((((N / 10 / 10) / 10 / 10) / 10 / 10) % 100).toInt32), iv 2, iv 0] [(.ref dT), (.int 2), (.ref bb)])) st29 ?_
  refine own_go (b := T29.setTop (mkF m 67 #[iv (own_ng ((((N / 10 / 10) / 10 / 10) / 10 / 10) / 10 / 10)), iv 10, rv bb, iv (own_ng ((((N / 10 / 10) / 10 / 10) / 10 / 10) / 10 / 10)), iv (((((N / 10 / 10) / 10 / 10) / 10 / 10) % 100).toInt32), iv 2, iv 0] [(.int (((((N / 10 / 10) / 10 / 10) / 10 / 10) % 100).toInt32)), (.ref dT), (.int 2), (.ref bb)])) (fun t k => XS.iload X29.here hx rfl (hb hby d4_65) rfl  k) ?_
  have hq30 := hT ((((N / 10 / 10) / 10 / 10) / 10 / 10) % 100) (by omega)
  rw [own_d_tens] at hq30
  have ar30 := AT.ext Ol28.2
  refine own_go (b := T29.setTop (mkF m 68 #[iv (own_ng ((((N / 10 / 10) / 10 / 10) / 10 / 10) / 10 / 10)), iv 10, rv bb, iv (own_ng ((((N / 10 / 10) / 10 / 10) / 10 / 10) / 10 / 10)), iv (((((N / 10 / 10) / 10 / 10) / 10 / 10) % 100).toInt32), iv 2, iv 0] [(.int (own_d ((((N / 10 / 10) / 10 / 10) / 10 / 10) / 10))), (.int 2), (.ref bb)])) (fun t k => X29.baloadBytes hx (j := (((((N / 10 / 10) / 10 / 10) / 10 / 10) % 100).toInt32)) (v := (.int (own_d ((((N / 10 / 10) / 10 / 10) / 10 / 10) / 10)))) (by rw [e29]; exact ar30.1) (State.isArrayOf_alike hZ.alike ar30.2.1) ar30.2.2 hq30.1 hq30.2 (g := (mkF m 67 #[iv (own_ng ((((N / 10 / 10) / 10 / 10) / 10 / 10) / 10 / 10)), iv 10, rv bb, iv (own_ng ((((N / 10 / 10) / 10 / 10) / 10 / 10) / 10 / 10)), iv (((((N / 10 / 10) / 10 / 10) / 10 / 10) % 100).toInt32), iv 2, iv 0] [(.int (((((N / 10 / 10) / 10 / 10) / 10 / 10) % 100).toInt32)), (.ref dT), (.int 2), (.ref bb)])) rfl rfl (hb hby d4_67) t k) ?_
  obtain ⟨cl31, Ar31, qc31, Sz31, Ng31, Hs31, Ft31⟩ := id V_bb_28
  have hin31 : ¬ ((2 : Int32) < 0 ∨ cl31.slots.size ≤ ((2 : Int32)).toNatClampNeg) := inb_of Sz31 ⟨by decide, by decide⟩
  obtain ⟨T32, h32, X32, e32, W32, st32⟩ := stB X29 hx hZ e29 Ar31 (j := (2 : Int32)) hin31 (g := (mkF m 68 #[iv (own_ng ((((N / 10 / 10) / 10 / 10) / 10 / 10) / 10 / 10)), iv 10, rv bb, iv (own_ng ((((N / 10 / 10) / 10 / 10) / 10 / 10) / 10 / 10)), iv (((((N / 10 / 10) / 10 / 10) / 10 / 10) % 100).toInt32), iv 2, iv 0] [(.int (own_d ((((N / 10 / 10) / 10 / 10) / 10 / 10) / 10))), (.int 2), (.ref bb)])) rfl rfl (hb hby d4_68)
  have V_bb_32 : Arv Z h32 bb kb .byte (10 : Int32) [(.int 0), (.int 0), (.int (nar .byte (own_d ((((N / 10 / 10) / 10 / 10) / 10 / 10) / 10)))), (.int (nar .byte (own_d (((N / 10 / 10) / 10 / 10) / 10 / 10)))), (.int (nar .byte (own_d (((N / 10 / 10) / 10 / 10) / 10)))), (.int (nar .byte (own_d ((N / 10 / 10) / 10 / 10)))), (.int (nar .byte (own_d ((N / 10 / 10) / 10)))), (.int (nar .byte (own_d (N / 10 / 10)))), (.int (nar .byte (own_d (N / 10)))), (.int (nar .byte (own_d N)))] (.int (0 : Int32)) := Arv.set Ar31 qc31 Sz31 Ng31 Hs31 Ft31 (fits_nar_byte _) W32 2 rfl (Nat.le_of_ble_eq_true rfl)
  have Zs32 : n0 ≤ h32.size := Nat.le_trans Zs28 (Keep.of_wr W32).1
  have N32 := Fr.snoc X32 N28 gb
  have Kp32 : Keep h0 h32 [bb] := Kp28.wr W32 (Or.inl (List.mem_of_getElem? (i := 0) rfl))
  have Ol32 := Ol28.wr W32 gb
  refine own_go (b := T32.setTop (mkF m 69 #[iv (own_ng ((((N / 10 / 10) / 10 / 10) / 10 / 10) / 10 / 10)), iv 10, rv bb, iv (own_ng ((((N / 10 / 10) / 10 / 10) / 10 / 10) / 10 / 10)), iv (((((N / 10 / 10) / 10 / 10) / 10 / 10) % 100).toInt32), iv 2, iv 0] [])) st32 ?_
  refine own_go (b := T32.setTop (mkF m 22 #[iv (own_ng ((((N / 10 / 10) / 10 / 10) / 10 / 10) / 10 / 10)), iv 10, rv bb, iv (own_ng ((((N / 10 / 10) / 10 / 10) / 10 / 10) / 10 / 10)), iv (((((N / 10 / 10) / 10 / 10) / 10 / 10) % 100).toInt32), iv 2, iv 0] [])) (fun t k => XS.goto X32.here hx rfl (pc0 := 69) (pc' := 22) rfl (hb hby d4_69) (by decide) (by decide) k) ?_
  refine own_go (b := T32.setTop (mkF m 23 #[iv (own_ng ((((N / 10 / 10) / 10 / 10) / 10 / 10) / 10 / 10)), iv 10, rv bb, iv (own_ng ((((N / 10 / 10) / 10 / 10) / 10 / 10) / 10 / 10)), iv (((((N / 10 / 10) / 10 / 10) / 10 / 10) % 100).toInt32), iv 2, iv 0] [(.int (own_ng ((((N / 10 / 10) / 10 / 10) / 10 / 10) / 10 / 10)))])) (fun t k => XS.iloadN X32.here hx rfl (hb hby d4_22) rfl  k) ?_
  refine own_go (b := T32.setTop (mkF m 25 #[iv (own_ng ((((N / 10 / 10) / 10 / 10) / 10 / 10) / 10 / 10)), iv 10, rv bb, iv (own_ng ((((N / 10 / 10) / 10 / 10) / 10 / 10) / 10 / 10)), iv (((((N / 10 / 10) / 10 / 10) / 10 / 10) % 100).toInt32), iv 2, iv 0] [(.int (-100)), (.int (own_ng ((((N / 10 / 10) / 10 / 10) / 10 / 10) / 10 / 10)))])) (fun t k => XS.bipush X32.here hx rfl (hb hby d4_23) k) ?_
  refine own_go (b := T32.setTop (mkF m 72 #[iv (own_ng ((((N / 10 / 10) / 10 / 10) / 10 / 10) / 10 / 10)), iv 10, rv bb, iv (own_ng ((((N / 10 / 10) / 10 / 10) / 10 / 10) / 10 / 10)), iv (((((N / 10 / 10) / 10 / 10) / 10 / 10) % 100).toInt32), iv 2, iv 0] [])) (fun t k => XS.icmpYes X32.here hx rfl (pc0 := 25) (pc' := 72) rfl (hb hby d4_25) rfl (tlt (own_ng_gt (m := 100) (by omega) (by decide) (by omega))).2.2.1 (by decide) (by decide) k) ?_
  refine own_go (b := T32.setTop (mkF m 73 #[iv (own_ng ((((N / 10 / 10) / 10 / 10) / 10 / 10) / 10 / 10)), iv 10, rv bb, iv (own_ng ((((N / 10 / 10) / 10 / 10) / 10 / 10) / 10 / 10)), iv (((((N / 10 / 10) / 10 / 10) / 10 / 10) % 100).toInt32), iv 2, iv 0] [(.ref bb)])) (fun t k => XS.aloadN X32.here hx rfl (hb hby d4_72) rfl rfl k) ?_
  refine own_go (b := T32.setTop (mkF m 76 #[iv (own_ng ((((N / 10 / 10) / 10 / 10) / 10 / 10) / 10 / 10)), iv 10, rv bb, iv (own_ng ((((N / 10 / 10) / 10 / 10) / 10 / 10) / 10 / 10)), iv (((((N / 10 / 10) / 10 / 10) / 10 / 10) % 100).toInt32), iv 1, iv 0] [(.ref bb)])) (fun t k => XS.iinc X32.here hx rfl (hb hby d4_73) rfl (l' := #[iv (own_ng ((((N / 10 / 10) / 10 / 10) / 10 / 10) / 10 / 10)), iv 10, rv bb, iv (own_ng ((((N / 10 / 10) / 10 / 10) / 10 / 10) / 10 / 10)), iv (((((N / 10 / 10) / 10 / 10) / 10 / 10) % 100).toInt32), iv 1, iv 0]) rfl k) ?_
  refine own_go (b := T32.setTop (mkF m 78 #[iv (own_ng ((((N / 10 / 10) / 10 / 10) / 10 / 10) / 10 / 10)), iv 10, rv bb, iv (own_ng ((((N / 10 / 10) / 10 / 10) / 10 / 10) / 10 / 10)), iv (((((N / 10 / 10) / 10 / 10) / 10 / 10) % 100).toInt32), iv 1, iv 0] [(.int 1), (.ref bb)])) (fun t k => XS.iload X32.here hx rfl (hb hby d4_76) rfl  k) ?_
  obtain ⟨T33, X33, e33, st33⟩ := getS2 X32 hx hZ hown (host := "") (Or.inl (hw _ (List.mem_of_getElem? (i := 20) rfl))) Via.refl e32 (SO.ext Ol32.2) (g := (mkF m 78 #[iv (own_ng ((((N / 10 / 10) / 10 / 10) / 10 / 10) / 10 / 10)), iv 10, rv bb, iv (own_ng ((((N / 10 / 10) / 10 / 10) / 10 / 10) / 10 / 10)), iv (((((N / 10 / 10) / 10 / 10) / 10 / 10) % 100).toInt32), iv 1, iv 0] [(.int 1), (.ref bb)])) rfl (hb hby d4_78)
  refine own_go (b := T33.setTop (mkF m 81 #[iv (own_ng ((((N / 10 / 10) / 10 / 10) / 10 / 10) / 10 / 10)), iv 10, rv bb, iv (own_ng ((((N / 10 / 10) / 10 / 10) / 10 / 10) / 10 / 10)), iv (((((N / 10 / 10) / 10 / 10) / 10 / 10) % 100).toInt32), iv 1, iv 0] [(.ref dO), (.int 1), (.ref bb)])) st33 ?_
  refine own_go (b := T33.setTop (mkF m 82 #[iv (own_ng ((((N / 10 / 10) / 10 / 10) / 10 / 10) / 10 / 10)), iv 10, rv bb, iv (own_ng ((((N / 10 / 10) / 10 / 10) / 10 / 10) / 10 / 10)), iv (((((N / 10 / 10) / 10 / 10) / 10 / 10) % 100).toInt32), iv 1, iv 0] [(.int (own_ng ((((N / 10 / 10) / 10 / 10) / 10 / 10) / 10 / 10))), (.ref dO), (.int 1), (.ref bb)])) (fun t k => XS.iloadN X33.here hx rfl (hb hby d4_81) rfl  k) ?_
  refine own_go (b := T33.setTop (mkF m 83 #[iv (own_ng ((((N / 10 / 10) / 10 / 10) / 10 / 10) / 10 / 10)), iv 10, rv bb, iv (own_ng ((((N / 10 / 10) / 10 / 10) / 10 / 10) / 10 / 10)), iv (((((N / 10 / 10) / 10 / 10) / 10 / 10) % 100).toInt32), iv 1, iv 0] [(.int (-(own_ng ((((N / 10 / 10) / 10 / 10) / 10 / 10) / 10 / 10)))), (.ref dO), (.int 1), (.ref bb)])) (fun t k => XS.ineg X33.here hx rfl (hb hby d4_82) rfl k) ?_
  rw [own_ng_neg]
  have hq34 := hO ((((N / 10 / 10) / 10 / 10) / 10 / 10) / 10 / 10) (by omega)
  have ar34 := AO.ext Ol32.2
  refine own_go (b := T33.setTop (mkF m 84 #[iv (own_ng ((((N / 10 / 10) / 10 / 10) / 10 / 10) / 10 / 10)), iv 10, rv bb, iv (own_ng ((((N / 10 / 10) / 10 / 10) / 10 / 10) / 10 / 10)), iv (((((N / 10 / 10) / 10 / 10) / 10 / 10) % 100).toInt32), iv 1, iv 0] [(.int (own_d ((((N / 10 / 10) / 10 / 10) / 10 / 10) / 10 / 10))), (.int 1), (.ref bb)])) (fun t k => X33.baloadBytes hx (j := (((((N / 10 / 10) / 10 / 10) / 10 / 10) / 10 / 10).toInt32)) (v := (.int (own_d ((((N / 10 / 10) / 10 / 10) / 10 / 10) / 10 / 10)))) (by rw [e33]; exact ar34.1) (State.isArrayOf_alike hZ.alike ar34.2.1) ar34.2.2 hq34.1 hq34.2 (g := (mkF m 83 #[iv (own_ng ((((N / 10 / 10) / 10 / 10) / 10 / 10) / 10 / 10)), iv 10, rv bb, iv (own_ng ((((N / 10 / 10) / 10 / 10) / 10 / 10) / 10 / 10)), iv (((((N / 10 / 10) / 10 / 10) / 10 / 10) % 100).toInt32), iv 1, iv 0] [(.int (((((N / 10 / 10) / 10 / 10) / 10 / 10) / 10 / 10).toInt32)), (.ref dO), (.int 1), (.ref bb)])) rfl rfl (hb hby d4_83) t k) ?_
  obtain ⟨cl35, Ar35, qc35, Sz35, Ng35, Hs35, Ft35⟩ := id V_bb_32
  have hin35 : ¬ ((1 : Int32) < 0 ∨ cl35.slots.size ≤ ((1 : Int32)).toNatClampNeg) := inb_of Sz35 ⟨by decide, by decide⟩
  obtain ⟨T36, h36, X36, e36, W36, st36⟩ := stB X33 hx hZ e33 Ar35 (j := (1 : Int32)) hin35 (g := (mkF m 84 #[iv (own_ng ((((N / 10 / 10) / 10 / 10) / 10 / 10) / 10 / 10)), iv 10, rv bb, iv (own_ng ((((N / 10 / 10) / 10 / 10) / 10 / 10) / 10 / 10)), iv (((((N / 10 / 10) / 10 / 10) / 10 / 10) % 100).toInt32), iv 1, iv 0] [(.int (own_d ((((N / 10 / 10) / 10 / 10) / 10 / 10) / 10 / 10))), (.int 1), (.ref bb)])) rfl rfl (hb hby d4_84)
  have V_bb_36 : Arv Z h36 bb kb .byte (10 : Int32) [(.int 0), (.int (nar .byte (own_d ((((N / 10 / 10) / 10 / 10) / 10 / 10) / 10 / 10)))), (.int (nar .byte (own_d ((((N / 10 / 10) / 10 / 10) / 10 / 10) / 10)))), (.int (nar .byte (own_d (((N / 10 / 10) / 10 / 10) / 10 / 10)))), (.int (nar .byte (own_d (((N / 10 / 10) / 10 / 10) / 10)))), (.int (nar .byte (own_d ((N / 10 / 10) / 10 / 10)))), (.int (nar .byte (own_d ((N / 10 / 10) / 10)))), (.int (nar .byte (own_d (N / 10 / 10)))), (.int (nar .byte (own_d (N / 10)))), (.int (nar .byte (own_d N)))] (.int (0 : Int32)) := Arv.set Ar35 qc35 Sz35 Ng35 Hs35 Ft35 (fits_nar_byte _) W36 1 rfl (Nat.le_of_ble_eq_true rfl)
  have Zs36 : n0 ≤ h36.size := Nat.le_trans Zs32 (Keep.of_wr W36).1
  have N36 := Fr.snoc X36 N32 gb
  have Kp36 : Keep h0 h36 [bb] := Kp32.wr W36 (Or.inl (List.mem_of_getElem? (i := 0) rfl))
  have Ol36 := Ol32.wr W36 gb
  refine own_go (b := T36.setTop (mkF m 85 #[iv (own_ng ((((N / 10 / 10) / 10 / 10) / 10 / 10) / 10 / 10)), iv 10, rv bb, iv (own_ng ((((N / 10 / 10) / 10 / 10) / 10 / 10) / 10 / 10)), iv (((((N / 10 / 10) / 10 / 10) / 10 / 10) % 100).toInt32), iv 1, iv 0] [])) st36 ?_
  refine own_go (b := T36.setTop (mkF m 86 #[iv (own_ng ((((N / 10 / 10) / 10 / 10) / 10 / 10) / 10 / 10)), iv 10, rv bb, iv (own_ng ((((N / 10 / 10) / 10 / 10) / 10 / 10) / 10 / 10)), iv (((((N / 10 / 10) / 10 / 10) / 10 / 10) % 100).toInt32), iv 1, iv 0] [(.int (own_ng ((((N / 10 / 10) / 10 / 10) / 10 / 10) / 10 / 10)))])) (fun t k => XS.iloadN X36.here hx rfl (hb hby d4_85) rfl  k) ?_
  refine own_go (b := T36.setTop (mkF m 88 #[iv (own_ng ((((N / 10 / 10) / 10 / 10) / 10 / 10) / 10 / 10)), iv 10, rv bb, iv (own_ng ((((N / 10 / 10) / 10 / 10) / 10 / 10) / 10 / 10)), iv (((((N / 10 / 10) / 10 / 10) / 10 / 10) % 100).toInt32), iv 1, iv 0] [(.int (-9)), (.int (own_ng ((((N / 10 / 10) / 10 / 10) / 10 / 10) / 10 / 10)))])) (fun t k => XS.bipush X36.here hx rfl (hb hby d4_86) k) ?_
  refine own_go (b := T36.setTop (mkF m 91 #[iv (own_ng ((((N / 10 / 10) / 10 / 10) / 10 / 10) / 10 / 10)), iv 10, rv bb, iv (own_ng ((((N / 10 / 10) / 10 / 10) / 10 / 10) / 10 / 10)), iv (((((N / 10 / 10) / 10 / 10) / 10 / 10) % 100).toInt32), iv 1, iv 0] [])) (fun t k => XS.icmpNo X36.here hx rfl (hb hby d4_88) rfl (tlt (own_ng_lt (m := 9) (by omega) (by decide) (by omega))).2.1 k) ?_
  refine own_go (b := T36.setTop (mkF m 92 #[iv (own_ng ((((N / 10 / 10) / 10 / 10) / 10 / 10) / 10 / 10)), iv 10, rv bb, iv (own_ng ((((N / 10 / 10) / 10 / 10) / 10 / 10) / 10 / 10)), iv (((((N / 10 / 10) / 10 / 10) / 10 / 10) % 100).toInt32), iv 1, iv 0] [(.ref bb)])) (fun t k => XS.aloadN X36.here hx rfl (hb hby d4_91) rfl rfl k) ?_
  refine own_go (b := T36.setTop (mkF m 95 #[iv (own_ng ((((N / 10 / 10) / 10 / 10) / 10 / 10) / 10 / 10)), iv 10, rv bb, iv (own_ng ((((N / 10 / 10) / 10 / 10) / 10 / 10) / 10 / 10)), iv (((((N / 10 / 10) / 10 / 10) / 10 / 10) % 100).toInt32), iv 0, iv 0] [(.ref bb)])) (fun t k => XS.iinc X36.here hx rfl (hb hby d4_92) rfl (l' := #[iv (own_ng ((((N / 10 / 10) / 10 / 10) / 10 / 10) / 10 / 10)), iv 10, rv bb, iv (own_ng ((((N / 10 / 10) / 10 / 10) / 10 / 10) / 10 / 10)), iv (((((N / 10 / 10) / 10 / 10) / 10 / 10) % 100).toInt32), iv 0, iv 0]) rfl k) ?_
  refine own_go (b := T36.setTop (mkF m 97 #[iv (own_ng ((((N / 10 / 10) / 10 / 10) / 10 / 10) / 10 / 10)), iv 10, rv bb, iv (own_ng ((((N / 10 / 10) / 10 / 10) / 10 / 10) / 10 / 10)), iv (((((N / 10 / 10) / 10 / 10) / 10 / 10) % 100).toInt32), iv 0, iv 0] [(.int 0), (.ref bb)])) (fun t k => XS.iload X36.here hx rfl (hb hby d4_95) rfl  k) ?_
  obtain ⟨T37, X37, e37, st37⟩ := getS2 X36 hx hZ hown (host := "") (Or.inl (hw _ (List.mem_of_getElem? (i := 126) rfl))) Via.refl e36 (ST.ext Ol36.2) (g := (mkF m 97 #[iv (own_ng ((((N / 10 / 10) / 10 / 10) / 10 / 10) / 10 / 10)), iv 10, rv bb, iv (own_ng ((((N / 10 / 10) / 10 / 10) / 10 / 10) / 10 / 10)), iv (((((N / 10 / 10) / 10 / 10) / 10 / 10) % 100).toInt32), iv 0, iv 0] [(.int 0), (.ref bb)])) rfl (hb hby d4_97)
  refine own_go (b := T37.setTop (mkF m 100 #[iv (own_ng ((((N / 10 / 10) / 10 / 10) / 10 / 10) / 10 / 10)), iv 10, rv bb, iv (own_ng ((((N / 10 / 10) / 10 / 10) / 10 / 10) / 10 / 10)), iv (((((N / 10 / 10) / 10 / 10) / 10 / 10) % 100).toInt32), iv 0, iv 0] [(.ref dT), (.int 0), (.ref bb)])) st37 ?_
  refine own_go (b := T37.setTop (mkF m 101 #[iv (own_ng ((((N / 10 / 10) / 10 / 10) / 10 / 10) / 10 / 10)), iv 10, rv bb, iv (own_ng ((((N / 10 / 10) / 10 / 10) / 10 / 10) / 10 / 10)), iv (((((N / 10 / 10) / 10 / 10) / 10 / 10) % 100).toInt32), iv 0, iv 0] [(.int (own_ng ((((N / 10 / 10) / 10 / 10) / 10 / 10) / 10 / 10))), (.ref dT), (.int 0), (.ref bb)])) (fun t k => XS.iloadN X37.here hx rfl (hb hby d4_100) rfl  k) ?_
  refine own_go (b := T37.setTop (mkF m 102 #[iv (own_ng ((((N / 10 / 10) / 10 / 10) / 10 / 10) / 10 / 10)), iv 10, rv bb, iv (own_ng ((((N / 10 / 10) / 10 / 10) / 10 / 10) / 10 / 10)), iv (((((N / 10 / 10) / 10 / 10) / 10 / 10) % 100).toInt32), iv 0, iv 0] [(.int (-(own_ng ((((N / 10 / 10) / 10 / 10) / 10 / 10) / 10 / 10)))), (.ref dT), (.int 0), (.ref bb)])) (fun t k => XS.ineg X37.here hx rfl (hb hby d4_101) rfl k) ?_
  rw [own_ng_neg]
  have hq38 := hT ((((N / 10 / 10) / 10 / 10) / 10 / 10) / 10 / 10) (by omega)
  have ar38 := AT.ext Ol36.2
  refine own_go (b := T37.setTop (mkF m 103 #[iv (own_ng ((((N / 10 / 10) / 10 / 10) / 10 / 10) / 10 / 10)), iv 10, rv bb, iv (own_ng ((((N / 10 / 10) / 10 / 10) / 10 / 10) / 10 / 10)), iv (((((N / 10 / 10) / 10 / 10) / 10 / 10) % 100).toInt32), iv 0, iv 0] [(.int (own_d (((((N / 10 / 10) / 10 / 10) / 10 / 10) / 10 / 10) / 10))), (.int 0), (.ref bb)])) (fun t k => X37.baloadBytes hx (j := (((((N / 10 / 10) / 10 / 10) / 10 / 10) / 10 / 10).toInt32)) (v := (.int (own_d (((((N / 10 / 10) / 10 / 10) / 10 / 10) / 10 / 10) / 10)))) (by rw [e37]; exact ar38.1) (State.isArrayOf_alike hZ.alike ar38.2.1) ar38.2.2 hq38.1 hq38.2 (g := (mkF m 102 #[iv (own_ng ((((N / 10 / 10) / 10 / 10) / 10 / 10) / 10 / 10)), iv 10, rv bb, iv (own_ng ((((N / 10 / 10) / 10 / 10) / 10 / 10) / 10 / 10)), iv (((((N / 10 / 10) / 10 / 10) / 10 / 10) % 100).toInt32), iv 0, iv 0] [(.int (((((N / 10 / 10) / 10 / 10) / 10 / 10) / 10 / 10).toInt32)), (.ref dT), (.int 0), (.ref bb)])) rfl rfl (hb hby d4_102) t k) ?_
  obtain ⟨cl39, Ar39, qc39, Sz39, Ng39, Hs39, Ft39⟩ := id V_bb_36
  have hin39 : ¬ ((0 : Int32) < 0 ∨ cl39.slots.size ≤ ((0 : Int32)).toNatClampNeg) := inb_of Sz39 ⟨by decide, by decide⟩
  obtain ⟨T40, h40, X40, e40, W40, st40⟩ := stB X37 hx hZ e37 Ar39 (j := (0 : Int32)) hin39 (g := (mkF m 103 #[iv (own_ng ((((N / 10 / 10) / 10 / 10) / 10 / 10) / 10 / 10)), iv 10, rv bb, iv (own_ng ((((N / 10 / 10) / 10 / 10) / 10 / 10) / 10 / 10)), iv (((((N / 10 / 10) / 10 / 10) / 10 / 10) % 100).toInt32), iv 0, iv 0] [(.int (own_d (((((N / 10 / 10) / 10 / 10) / 10 / 10) / 10 / 10) / 10))), (.int 0), (.ref bb)])) rfl rfl (hb hby d4_103)
  have V_bb_40 : Arv Z h40 bb kb .byte (10 : Int32) [(.int (nar .byte (own_d (((((N / 10 / 10) / 10 / 10) / 10 / 10) / 10 / 10) / 10)))), (.int (nar .byte (own_d ((((N / 10 / 10) / 10 / 10) / 10 / 10) / 10 / 10)))), (.int (nar .byte (own_d ((((N / 10 / 10) / 10 / 10) / 10 / 10) / 10)))), (.int (nar .byte (own_d (((N / 10 / 10) / 10 / 10) / 10 / 10)))), (.int (nar .byte (own_d (((N / 10 / 10) / 10 / 10) / 10)))), (.int (nar .byte (own_d ((N / 10 / 10) / 10 / 10)))), (.int (nar .byte (own_d ((N / 10 / 10) / 10)))), (.int (nar .byte (own_d (N / 10 / 10)))), (.int (nar .byte (own_d (N / 10)))), (.int (nar .byte (own_d N)))] (.int (0 : Int32)) := Arv.set Ar39 qc39 Sz39 Ng39 Hs39 Ft39 (fits_nar_byte _) W40 0 rfl (Nat.le_of_ble_eq_true rfl)
  have Zs40 : n0 ≤ h40.size := Nat.le_trans Zs36 (Keep.of_wr W40).1
  have N40 := Fr.snoc X40 N36 gb
  have Kp40 : Keep h0 h40 [bb] := Kp36.wr W40 (Or.inl (List.mem_of_getElem? (i := 0) rfl))
  have Ol40 := Ol36.wr W40 gb
  refine own_go (b := T40.setTop (mkF m 104 #[iv (own_ng ((((N / 10 / 10) / 10 / 10) / 10 / 10) / 10 / 10)), iv 10, rv bb, iv (own_ng ((((N / 10 / 10) / 10 / 10) / 10 / 10) / 10 / 10)), iv (((((N / 10 / 10) / 10 / 10) / 10 / 10) % 100).toInt32), iv 0, iv 0] [])) st40 ?_
  refine own_go (b := T40.setTop (mkF m 106 #[iv (own_ng ((((N / 10 / 10) / 10 / 10) / 10 / 10) / 10 / 10)), iv 10, rv bb, iv (own_ng ((((N / 10 / 10) / 10 / 10) / 10 / 10) / 10 / 10)), iv (((((N / 10 / 10) / 10 / 10) / 10 / 10) % 100).toInt32), iv 0, iv 0] [(.int 0)])) (fun t k => XS.iload X40.here hx rfl (hb hby d4_104) rfl  k) ?_
  refine own_go (b := T40.setTop (mkF m 118 #[iv (own_ng ((((N / 10 / 10) / 10 / 10) / 10 / 10) / 10 / 10)), iv 10, rv bb, iv (own_ng ((((N / 10 / 10) / 10 / 10) / 10 / 10) / 10 / 10)), iv (((((N / 10 / 10) / 10 / 10) / 10 / 10) % 100).toInt32), iv 0, iv 0] [])) (fun t k => XS.ifYes X40.here hx rfl (pc0 := 106) (pc' := 118) rfl (hb hby d4_106) rfl ((if0 _ _).trans (teq (rfl : (0 : Int32) = (0 : Int32))).1) (by decide) (by decide) k) ?_
  refine own_go (b := T40.setTop (mkF m 120 #[iv (own_ng ((((N / 10 / 10) / 10 / 10) / 10 / 10) / 10 / 10)), iv 10, rv bb, iv (own_ng ((((N / 10 / 10) / 10 / 10) / 10 / 10) / 10 / 10)), iv (((((N / 10 / 10) / 10 / 10) / 10 / 10) % 100).toInt32), iv 0, iv 0] [(.int 0)])) (fun t k => XS.iload X40.here hx rfl (hb hby d4_118) rfl  k) ?_
  exact own_retI X40 hx hlk hrt (hb hby d4_120) (Nat.le_of_ble_eq_true rfl) (Nat.le_of_ble_eq_true rfl) (⟨rfl, N40, by rw [e40]; exact Kp40, by rw [e40]; have q := V_bb_40; simp only [own_nar] at q; exact q⟩)
theorem d5_0 : decode jdk_42_method_151_code 0 = .ok (.aload_n 0, 1) := by decide +kernel
theorem d5_1 : decode jdk_42_method_151_code 1 = .ok (.invokespecial 1, 3) := by decide +kernel
theorem d5_4 : decode jdk_42_method_151_code 4 = .ok (.aload_n 0, 1) := by decide +kernel
theorem d5_5 : decode jdk_42_method_151_code 5 = .ok (.aload_n 1, 1) := by decide +kernel
theorem d5_6 : decode jdk_42_method_151_code 6 = .ok (.putfield 9, 3) := by decide +kernel
theorem d5_9 : decode jdk_42_method_151_code 9 = .ok (.aload_n 0, 1) := by decide +kernel
theorem d5_10 : decode jdk_42_method_151_code 10 = .ok (.iload_n 2, 1) := by decide +kernel
theorem d5_11 : decode jdk_42_method_151_code 11 = .ok (.putfield 15, 3) := by decide +kernel
theorem d5_14 : decode jdk_42_method_151_code 14 = .ok (.return_, 1) := by decide +kernel
theorem pn_1 : plainName "java/lang/String" = true := by first | (simp [plainName, overriddenIn]; done) | decide +kernel
theorem pd_0 : parseMethodDescriptor "()V" = some ⟨[], none⟩ := by decide +kernel
theorem ef_5 (m : MethodId) (tt : Addr) (bb : Addr) (cd : Int32) : entryFrame m #[(.ref tt), (.ref bb), (.int cd)] 3 = mkF m 0 #[rv tt, rv bb, iv cd] [] := by first | (simp [entryFrame, mkF, argsToLocals, Value.category]; done) | rfl
def Q5 (Z : State) (tt : Addr) (bb : Addr) (cd : Int32) (h0 : Heap) (n0 : Nat) (v : Option Value) (h : Heap) (L : List Loc) : Prop := v = none ∧ Fr n0 L ∧ Keep h0 h [tt] ∧ Exa Z h tt "java/lang/String" ∧ Fld Z h tt "java/lang/String" "value" "[B" (.ref bb) ∧ Fld Z h tt "java/lang/String" "coder" "B" (.int (nar .byte cd))
set_option maxRecDepth 65536 in
set_option maxHeartbeats 40000000 in
theorem rm5 (l : Launch) (Z : State) (a0 : Array Value) (hw : ∀ d ∈ tables_1, d.before a0 Z = true) (ws : List Jvm.Cond) (tt : Addr) (bb : Addr) (cd : Int32) (h0 : Heap) (n0 : Nat) (Z0 : n0 ≤ h0.size) (Ex : Exa Z h0 tt "java/lang/String") (F0x : Fld Z h0 tt "java/lang/String" "value" "[B" .null) (F1x : Fld Z h0 tt "java/lang/String" "coder" "B" (.int (0 : Int32))) (gt : n0 ≤ tt) :
    MetFree l (⟨"java/lang/String", "<init>", "([BB)V"⟩ : MethodName) (head1 (Jvm.Cond.code (⟨"java/lang/String", "<init>", "([BB)V"⟩ : MethodName) jdk_42_method_151_code 3 none :: ws) ({ frames := 1, cells := 0, slots := 0, locals := 12 } : Room)) (fun a U => a = #[(.ref tt), (.ref bb), (.int cd)] ∧ Z.Warmed39 U.vm ∧ U.heap = h0) (fun _ _ _ _ _ => True) (fun _ U o U' => ∃ v L, o = .returned v ∧ Q5 Z tt bb cd h0 n0 v U'.heap L ∧ FrameEnd U o U' L ({ frames := 1, cells := 0, slots := 0, locals := 12 } : Room).cells ({ frames := 1, cells := 0, slots := 0, locals := 12 } : Room).slots) := by
  refine MetFree.of_bodySF (plainFor_of_name pn_1) hisR ?_
  intro p e s m args below meth c s₁ Bd hml0 hP hK
  obtain ⟨rfl, hZ, hh⟩ := hP
  have hx := Bd.exec
  have hby := Bd.bytes
  have hml : c.maxLocals = 3 := hml0
  have hown : s.vm.findClass "java/lang/String" = some m.cls := findClass_of_methodNamed Bd.named
  have hnm := (name_of_methodNamed Bd.named Bd.method).1
  have hlk : meth.locks = false := Bd.notSynchronized
  have hrt := Bd.returns
  have X0 : Stand p l e ({ frames := 1, cells := 0, slots := 0, locals := 12 } : Room) s m #[(.ref tt), (.ref bb), (.int cd)] below meth c s₁ [] 0 0 := Stand.of_body Bd
  have e0 : s₁.heap = h0 := by rw [← hh, Bd.state]; rfl
  have N0 := Fr.nil n0
  show own_Endz p.tables e below (own_EndQ s ({ frames := 1, cells := 0, slots := 0, locals := 12 } : Room).cells ({ frames := 1, cells := 0, slots := 0, locals := 12 } : Room).slots (Q5 Z tt bb cd h0 n0)) (s₁.setTop (entryFrame m #[(.ref tt), (.ref bb), (.int cd)] 3))
  refine own_cast (ef_5 m tt bb cd) ?_
  refine own_go (b := s₁.setTop (mkF m 1 #[rv tt, rv bb, iv cd] [(.ref tt)])) (fun t k => XS.aloadN X0.here hx rfl (hb hby d5_0) rfl rfl k) ?_
  obtain ⟨T1, X1, e1, st1⟩ := initO X0 hx hZ hown (hw _ (List.mem_of_getElem? (i := 27) rfl)) (hw _ (List.mem_of_getElem? (i := 28) rfl)) (hw _ (List.mem_of_getElem? (i := 29) rfl)) e0 (g := (mkF m 1 #[rv tt, rv bb, iv cd] [(.ref tt)])) rfl (by rw [hml]; rfl) rfl (hb hby d5_1) (by decide) (W := 0) (by show 2 * 0 + _ ≤ _; exact Nat.le_of_eq rfl) (by decide)
  refine own_go (b := T1.setTop (mkF m 4 #[rv tt, rv bb, iv cd] [])) st1 ?_
  refine own_go (b := T1.setTop (mkF m 5 #[rv tt, rv bb, iv cd] [(.ref tt)])) (fun t k => XS.aloadN X1.here hx rfl (hb hby d5_4) rfl rfl k) ?_
  refine own_go (b := T1.setTop (mkF m 6 #[rv tt, rv bb, iv cd] [(.ref bb), (.ref tt)])) (fun t k => XS.aloadN X1.here hx rfl (hb hby d5_5) rfl rfl k) ?_
  obtain ⟨T2, h2, X2, e2, W2, st2⟩ := putF X1 hx hZ hown (host := "") (Or.inl (hw _ (List.mem_of_getElem? (i := 30) rfl))) Via.refl e1 F0x Ex (Or.inr ⟨(hw _ (List.mem_of_getElem? (i := 31) rfl)), rfl, hnm⟩) (hw _ (List.mem_of_getElem? (i := 22) rfl)) (ty := (.array .byte)) (by decide) rfl rfl (g := (mkF m 6 #[rv tt, rv bb, iv cd] [(.ref bb), (.ref tt)])) rfl rfl (hb hby d5_6)
  have Fw2 : Fld Z h2 tt "java/lang/String" "value" "[B" (.ref bb) := Fld.same W2 F0x
  have Zs2 : n0 ≤ h2.size := Nat.le_trans Z0 (Keep.of_wr W2).1
  have N2 := Fr.snoc X2 N0 gt
  have Kp2 : Keep h0 h2 [tt] := (Keep.refl h0 [tt]).wr W2 (Or.inl (List.mem_of_getElem? (i := 0) rfl))
  refine own_go (b := T2.setTop (mkF m 9 #[rv tt, rv bb, iv cd] [])) st2 ?_
  refine own_go (b := T2.setTop (mkF m 10 #[rv tt, rv bb, iv cd] [(.ref tt)])) (fun t k => XS.aloadN X2.here hx rfl (hb hby d5_9) rfl rfl k) ?_
  refine own_go (b := T2.setTop (mkF m 11 #[rv tt, rv bb, iv cd] [(.int cd), (.ref tt)])) (fun t k => XS.iloadN X2.here hx rfl (hb hby d5_10) rfl  k) ?_
  obtain ⟨T3, h3, X3, e3, W3, st3⟩ := putFN X2 hx hZ hown (hw _ (List.mem_of_getElem? (i := 32) rfl)) Via.refl e2 (F1x.other W2 (Or.inr (slot_ne (Or.inr (hw _ (List.mem_of_getElem? (i := 33) rfl))) (Or.inr (hw _ (List.mem_of_getElem? (i := 31) rfl))) (by decide) (t := .byte) (t' := (.array .byte)) (by decide) (by decide)))) (Ex.wr W2) (Or.inr ⟨(hw _ (List.mem_of_getElem? (i := 33) rfl)), rfl, hnm⟩) (hw _ (List.mem_of_getElem? (i := 22) rfl)) (ty := .byte) (v' := (.int (nar .byte cd))) (by decide) rfl (fits_nar_byte _) (g := (mkF m 11 #[rv tt, rv bb, iv cd] [(.int cd), (.ref tt)])) rfl rfl (hb hby d5_11)
  have Fw3 : Fld Z h3 tt "java/lang/String" "coder" "B" (.int (nar .byte cd)) := Fld.same W3 (F1x.other W2 (Or.inr (slot_ne (Or.inr (hw _ (List.mem_of_getElem? (i := 33) rfl))) (Or.inr (hw _ (List.mem_of_getElem? (i := 31) rfl))) (by decide) (t := .byte) (t' := (.array .byte)) (by decide) (by decide))))
  have Zs3 : n0 ≤ h3.size := Nat.le_trans Zs2 (Keep.of_wr W3).1
  have N3 := Fr.snoc X3 N2 gt
  have Kp3 : Keep h0 h3 [tt] := Kp2.wr W3 (Or.inl (List.mem_of_getElem? (i := 0) rfl))
  refine own_go (b := T3.setTop (mkF m 14 #[rv tt, rv bb, iv cd] [])) st3 ?_
  exact own_retV X3 hx hlk hrt (hb hby d5_14) (Nat.le_of_ble_eq_true rfl) (Nat.le_of_ble_eq_true rfl) (⟨rfl, N3, by rw [e3]; exact Kp3, by rw [e3]; exact ((Ex.wr W2).wr W3), by rw [e3]; exact (Fw2.other W3 (Or.inr (slot_ne (Or.inr (hw _ (List.mem_of_getElem? (i := 31) rfl))) (Or.inr (hw _ (List.mem_of_getElem? (i := 33) rfl))) (by decide) (t := (.array .byte)) (t' := .byte) (by decide) (by decide)))), by rw [e3]; exact Fw3⟩)
theorem d2_0 : decode jdk_33_method_10_code 0 = .ok (.iload_n 0, 1) := by decide +kernel
theorem d2_1 : decode jdk_33_method_10_code 1 = .ok (.invokestatic 72, 3) := by decide +kernel
theorem d2_4 : decode jdk_33_method_10_code 4 = .ok (.istore_n 1, 1) := by decide +kernel
theorem d2_5 : decode jdk_33_method_10_code 5 = .ok (.getstatic 13, 3) := by decide +kernel
theorem d2_8 : decode jdk_33_method_10_code 8 = .ok (.ifCond .eq 24, 3) := by decide +kernel
theorem d2_11 : decode jdk_33_method_10_code 11 = .ok (.iload_n 1, 1) := by decide +kernel
theorem d2_12 : decode jdk_33_method_10_code 12 = .ok (.newarray .byte, 2) := by decide +kernel
theorem d2_14 : decode jdk_33_method_10_code 14 = .ok (.astore_n 2, 1) := by decide +kernel
theorem d2_15 : decode jdk_33_method_10_code 15 = .ok (.iload_n 0, 1) := by decide +kernel
theorem d2_16 : decode jdk_33_method_10_code 16 = .ok (.iload_n 1, 1) := by decide +kernel
theorem d2_17 : decode jdk_33_method_10_code 17 = .ok (.aload_n 2, 1) := by decide +kernel
theorem d2_18 : decode jdk_33_method_10_code 18 = .ok (.invokestatic 75, 3) := by decide +kernel
theorem d2_21 : decode jdk_33_method_10_code 21 = .ok (.pop, 1) := by decide +kernel
theorem d2_22 : decode jdk_33_method_10_code 22 = .ok (.new 5, 3) := by decide +kernel
theorem d2_25 : decode jdk_33_method_10_code 25 = .ok (.dup, 1) := by decide +kernel
theorem d2_26 : decode jdk_33_method_10_code 26 = .ok (.aload_n 2, 1) := by decide +kernel
theorem d2_27 : decode jdk_33_method_10_code 27 = .ok (.iconst 0, 1) := by decide +kernel
theorem d2_28 : decode jdk_33_method_10_code 28 = .ok (.invokespecial 65, 3) := by decide +kernel
theorem d2_31 : decode jdk_33_method_10_code 31 = .ok (.areturn, 1) := by decide +kernel
theorem d2_32 : decode jdk_33_method_10_code 32 = .ok (.iload_n 1, 1) := by decide +kernel
theorem d2_33 : decode jdk_33_method_10_code 33 = .ok (.iconst 2, 1) := by decide +kernel
theorem d2_34 : decode jdk_33_method_10_code 34 = .ok (.imul, 1) := by decide +kernel
theorem d2_35 : decode jdk_33_method_10_code 35 = .ok (.newarray .byte, 2) := by decide +kernel
theorem d2_37 : decode jdk_33_method_10_code 37 = .ok (.astore_n 2, 1) := by decide +kernel
theorem d2_38 : decode jdk_33_method_10_code 38 = .ok (.iload_n 0, 1) := by decide +kernel
theorem d2_39 : decode jdk_33_method_10_code 39 = .ok (.iload_n 1, 1) := by decide +kernel
theorem d2_40 : decode jdk_33_method_10_code 40 = .ok (.aload_n 2, 1) := by decide +kernel
theorem d2_41 : decode jdk_33_method_10_code 41 = .ok (.invokestatic 79, 3) := by decide +kernel
theorem d2_44 : decode jdk_33_method_10_code 44 = .ok (.pop, 1) := by decide +kernel
theorem d2_45 : decode jdk_33_method_10_code 45 = .ok (.new 5, 3) := by decide +kernel
theorem d2_48 : decode jdk_33_method_10_code 48 = .ok (.dup, 1) := by decide +kernel
theorem d2_49 : decode jdk_33_method_10_code 49 = .ok (.aload_n 2, 1) := by decide +kernel
theorem d2_50 : decode jdk_33_method_10_code 50 = .ok (.iconst 1, 1) := by decide +kernel
theorem d2_51 : decode jdk_33_method_10_code 51 = .ok (.invokespecial 65, 3) := by decide +kernel
theorem d2_54 : decode jdk_33_method_10_code 54 = .ok (.areturn, 1) := by decide +kernel
theorem pd_1 : parseMethodDescriptor "(I)I" = some ⟨[.int], some .int⟩ := by decide +kernel
theorem pd_2 : parseMethodDescriptor "(II[B)I" = some ⟨[.int, .int, (.array .byte)], some .int⟩ := by decide +kernel
theorem pd_3 : parseMethodDescriptor "([BB)V" = some ⟨[(.array .byte), .byte], none⟩ := by decide +kernel
theorem ef_2 (m : MethodId) (ct : Int32) : entryFrame m #[(.int ct)] 3 = mkF m 0 #[iv ct, .unset, .unset] [] := by first | (simp [entryFrame, mkF, argsToLocals, Value.category]; done) | rfl
def Q2 (Z : State) (ct : Int32) (N : Nat) (G1 : Int32) (dO : Addr) (dT : Addr) (cO : Cell) (cT : Cell) (h0 : Heap) (n0 : Nat) (v : Option Value) (h : Heap) (L : List Loc) : Prop := ∃ a, v = some (.ref a) ∧ Fr n0 L ∧ Keep h0 h [] ∧ own_Str Z h h0.size a (own_digs N (own_ln N))
set_option maxRecDepth 65536 in
set_option maxHeartbeats 40000000 in
theorem rm2 (l : Launch) (Z : State) (a0 : Array Value) (hw : ∀ d ∈ tables_1, d.before a0 Z = true) (ws : List Jvm.Cond) (ct : Int32) (N : Nat) (G1 : Int32) (dO : Addr) (dT : Addr) (cO : Cell) (cT : Cell) (h0 : Heap) (n0 : Nat) (Z0 : n0 ≤ h0.size) (hct : ct = N.toInt32) (hN : N < 2147483648) (O2 : Sta Z Z.heap "java/lang/String" "COMPACT_STRINGS" "Z" (.int G1)) (P5 : ¬ (G1 = (0 : Int32))) (SO : Sta Z Z.heap "java/lang/Integer" "DigitOnes" "[B" (.ref dO)) (ST : Sta Z Z.heap "java/lang/Integer" "DigitTens" "[B" (.ref dT)) (AO : Arr Z Z.heap dO cO .byte) (AT : Arr Z Z.heap dT cT .byte) (hO : ∀ r : Nat, r < 100 → ¬ (r.toInt32 < 0 ∨ cO.slots.size ≤ r.toInt32.toNatClampNeg) ∧ cO.slots[r.toInt32.toNatClampNeg]? = some (.int (own_d r))) (hT : ∀ r : Nat, r < 100 → ¬ (r.toInt32 < 0 ∨ cT.slots.size ≤ r.toInt32.toNatClampNeg) ∧ cT.slots[r.toInt32.toNatClampNeg]? = some (.int (own_d (r / 10)))) (Od : Old Z n0 h0) :
    MetFree l (⟨"java/lang/Integer", "toString", "(I)Ljava/lang/String;"⟩ : MethodName) (head1 (Jvm.Cond.code (⟨"java/lang/Integer", "toString", "(I)Ljava/lang/String;"⟩ : MethodName) jdk_33_method_10_code 3 (some (.object "java/lang/String")) :: ws) ({ frames := 2, cells := 2, slots := 14, locals := 27 } : Room)) (fun a U => a = #[(.int ct)] ∧ Z.Warmed39 U.vm ∧ U.heap = h0) (fun _ _ _ _ _ => True) (fun _ U o U' => ∃ v L, o = .returned v ∧ Q2 Z ct N G1 dO dT cO cT h0 n0 v U'.heap L ∧ FrameEnd U o U' L ({ frames := 2, cells := 2, slots := 14, locals := 27 } : Room).cells ({ frames := 2, cells := 2, slots := 14, locals := 27 } : Room).slots) := by
  refine MetFree.of_bodySF (plainFor_of_name pn_0) hisR ?_
  intro p e s m args below meth c s₁ Bd hml0 hP hK
  obtain ⟨rfl, hZ, hh⟩ := hP
  have hx := Bd.exec
  have hby := Bd.bytes
  have hml : c.maxLocals = 3 := hml0
  have hown : s.vm.findClass "java/lang/Integer" = some m.cls := findClass_of_methodNamed Bd.named
  have hnm := (name_of_methodNamed Bd.named Bd.method).1
  have hlk : meth.locks = false := Bd.notSynchronized
  have hrt := Bd.returns
  have X0 : Stand p l e ({ frames := 2, cells := 2, slots := 14, locals := 27 } : Room) s m #[(.int ct)] below meth c s₁ [] 0 0 := Stand.of_body Bd
  have e0 : s₁.heap = h0 := by rw [← hh, Bd.state]; rfl
  have N0 := Fr.nil n0
  show own_Endz p.tables e below (own_EndQ s ({ frames := 2, cells := 2, slots := 14, locals := 27 } : Room).cells ({ frames := 2, cells := 2, slots := 14, locals := 27 } : Room).slots (Q2 Z ct N G1 dO dT cO cT h0 n0)) (s₁.setTop (entryFrame m #[(.int ct)] 3))
  refine own_cast (ef_2 m ct) ?_
  subst hct
  refine own_go (b := s₁.setTop (mkF m 1 #[iv (N.toInt32), .unset, .unset] [(.int (N.toInt32))])) (fun t k => XS.iloadN X0.here hx rfl (hb hby d2_0) rfl  k) ?_
  obtain ⟨_, _, ⟨T1, L1, k1, n1⟩, -, X1, ⟨Lc1, hQ1, l1, y1, z1⟩, st1⟩ := Jvm.LawKit.callS X0 hx (y := (⟨"java/lang/Integer", "stringSize", "(I)I"⟩ : MethodName)) hown (mvT hZ (hw _ (List.mem_of_getElem? (i := 11) rfl))) (mvT hZ (hw _ (List.mem_of_getElem? (i := 12) rfl))) (mvT hZ (hw _ (List.mem_of_getElem? (i := 9) rfl))) (mvT hZ (hw _ (List.mem_of_getElem? (i := 13) rfl))) (by decide) (backOf (W := 0) (rm3 l Z a0 hw [] (N.toInt32) N h0 n0 Z0 rfl hN) hZ (hw _ (List.mem_of_getElem? (i := 13) rfl)) (hw _ (List.mem_of_getElem? (i := 9) rfl)) (by decide) (by decide)) (g := (mkF m 1 #[iv (N.toInt32), .unset, .unset] [(.int (N.toInt32))])) rfl (by rw [hml]; rfl) (argsL := [(.int (N.toInt32))]) (rest := []) (lenOf pd_1 rfl) rfl (by show 2 * 0 + _ ≤ _; exact Nat.le_of_eq rfl) (hb hby d2_1) (fun _ _ => ⟨rfl, e0, (by decide : 0 + 0 ≤ _), (by decide : 0 + 0 ≤ _)⟩)
  dsimp only [Pt.U, Pt.locs, Pt.cells, Pt.slots] at X1 l1 y1 z1 st1 hQ1
  subst l1 y1 z1
  obtain ⟨rfl, N1q, e1⟩ := hQ1
  have N1 := Fr.app N0 N1q
  refine own_go (b := T1.setTop (mkF m 4 #[iv (N.toInt32), .unset, .unset] [(.int (own_sz (own_ng N)))])) st1 ?_
  rcases own_lens hN with ⟨hz1, hz2, hz3, hz4⟩ | ⟨hz1, hz2, hz3, hz4⟩ | ⟨hz1, hz2, hz3, hz4⟩ | ⟨hz1, hz2, hz3, hz4⟩ | ⟨hz1, hz2, hz3, hz4⟩ | ⟨hz1, hz2, hz3, hz4⟩ | ⟨hz1, hz2, hz3, hz4⟩ | ⟨hz1, hz2, hz3, hz4⟩ | ⟨hz1, hz2, hz3, hz4⟩ | ⟨hz1, hz2, hz3, hz4⟩
  · rw [hz1]
    refine own_go (b := T1.setTop (mkF m 5 #[iv (N.toInt32), iv 1, .unset] [])) (fun t k => XS.istoreN X1.here hx rfl (hb hby d2_4) rfl (l' := #[iv (N.toInt32), iv 1, .unset]) rfl k) ?_
    obtain ⟨T2, X2, e2, st2⟩ := getS2 X1 hx hZ hown (host := "") (Or.inl (hw _ (List.mem_of_getElem? (i := 14) rfl))) Via.refl e1 (O2.ext Od.2) (g := (mkF m 5 #[iv (N.toInt32), iv 1, .unset] [])) rfl (hb hby d2_5)
    refine own_go (b := T2.setTop (mkF m 8 #[iv (N.toInt32), iv 1, .unset] [(.int G1)])) st2 ?_
    refine own_go (b := T2.setTop (mkF m 11 #[iv (N.toInt32), iv 1, .unset] [])) (fun t k => XS.ifNo X2.here hx rfl (hb hby d2_8) rfl ((if0 _ _).trans (feq P5).1) k) ?_
    refine own_go (b := T2.setTop (mkF m 12 #[iv (N.toInt32), iv 1, .unset] [(.int 1)])) (fun t k => XS.iloadN X2.here hx rfl (hb hby d2_11) rfl  k) ?_
    obtain ⟨T3, h3, k3, X3, e3, E3, A3, st3⟩ := newP X2 hx hZ (hw _ (List.mem_of_getElem? (i := 16) rfl)) e2 (g := (mkF m 12 #[iv (N.toInt32), iv 1, .unset] [(.int 1)])) rfl (hb hby d2_12) rfl (by decide) (cap := 1) (by decide) (by decide) (by decide) (by decide)
    obtain ⟨b3, g3⟩ : ∃ z, z = h0.size := ⟨_, rfl⟩
    rw [← g3] at A3 st3
    have g_b3 : n0 ≤ b3 := Nat.le_trans Z0 (Nat.le_of_eq g3.symm)
    have sz_b3 : h0.size ≤ b3 := Nat.le_trans (Keep.refl h0 []).1 (Nat.le_of_eq g3.symm)
    have Zs3 : n0 ≤ h3.size := Nat.le_trans Z0 E3.1
    have Kp3 : Keep h0 h3 [] := (Keep.refl h0 []).ext E3
    have Ol3 := Od.ext E3
    have V_b3 : Arv Z h3 b3 k3 .byte (1 : Int32) [(.int (0 : Int32))] (.int (0 : Int32)) := (Arv.new A3 (by decide)).pad (pad_rep [] (.int (0 : Int32)) 1)
    refine own_go (b := T3.setTop (mkF m 14 #[iv (N.toInt32), iv 1, .unset] [(.ref b3)])) st3 ?_
    refine own_go (b := T3.setTop (mkF m 15 #[iv (N.toInt32), iv 1, rv b3] [])) (fun t k => XS.astoreN X3.here hx rfl (hb hby d2_14) rfl rfl (l' := #[iv (N.toInt32), iv 1, rv b3]) rfl k) ?_
    refine own_go (b := T3.setTop (mkF m 16 #[iv (N.toInt32), iv 1, rv b3] [(.int (N.toInt32))])) (fun t k => XS.iloadN X3.here hx rfl (hb hby d2_15) rfl  k) ?_
    refine own_go (b := T3.setTop (mkF m 17 #[iv (N.toInt32), iv 1, rv b3] [(.int 1), (.int (N.toInt32))])) (fun t k => XS.iloadN X3.here hx rfl (hb hby d2_16) rfl  k) ?_
    refine own_go (b := T3.setTop (mkF m 18 #[iv (N.toInt32), iv 1, rv b3] [(.ref b3), (.int 1), (.int (N.toInt32))])) (fun t k => XS.aloadN X3.here hx rfl (hb hby d2_17) rfl rfl k) ?_
    obtain ⟨_, _, ⟨T4, L4, k4, n4⟩, -, X4, ⟨Lc4, hQ4, l4, y4, z4⟩, st4⟩ := Jvm.LawKit.callS X3 hx (y := (⟨"java/lang/Integer", "getChars", "(II[B)I"⟩ : MethodName)) hown (mvT hZ (hw _ (List.mem_of_getElem? (i := 17) rfl))) (mvT hZ (hw _ (List.mem_of_getElem? (i := 18) rfl))) (mvT hZ (hw _ (List.mem_of_getElem? (i := 9) rfl))) (mvT hZ (hw _ (List.mem_of_getElem? (i := 19) rfl))) (by decide) (backOf (W := 0) (rm4_1 l Z a0 hw [] (N.toInt32) (1 : Int32) b3 N k3 dO dT cO cT h3 n0 Zs3 rfl rfl hN hz3 hz4 SO ST AO AT hO hT V_b3 g_b3 Ol3) hZ (hw _ (List.mem_of_getElem? (i := 19) rfl)) (hw _ (List.mem_of_getElem? (i := 9) rfl)) (by decide) (by decide)) (g := (mkF m 18 #[iv (N.toInt32), iv 1, rv b3] [(.ref b3), (.int 1), (.int (N.toInt32))])) rfl (by rw [hml]; rfl) (argsL := [(.int (N.toInt32)), (.int 1), (.ref b3)]) (rest := []) (lenOf pd_2 rfl) rfl (by show 2 * 0 + _ ≤ _; exact Nat.le_of_eq rfl) (hb hby d2_18) (fun _ _ => ⟨rfl, e3, (by decide : 1 + 0 ≤ _), (by decide : 1 + 0 ≤ _)⟩)
    dsimp only [Pt.U, Pt.locs, Pt.cells, Pt.slots] at X4 l4 y4 z4 st4 hQ4
    subst l4 y4 z4
    obtain ⟨rfl, N4q, K4, Vd4⟩ := hQ4
    have Zs4 : n0 ≤ T4.heap.size := Nat.le_trans Zs3 K4.1
    have N4 := Fr.app N1 N4q
    have Kp4 : Keep h0 T4.heap [] := Kp3.trans K4 (by intro x hx; simp only [List.mem_cons, List.not_mem_nil, or_false] at hx; rcases hx with rfl <;> first | exact Or.inr (by assumption) | exact Or.inl (by simp))
    have Ol4 := Ol3.keep K4 (allS g_b3 all0)
    refine own_go (b := T4.setTop (mkF m 21 #[iv (N.toInt32), iv 1, rv b3] [(.int 0)])) st4 ?_
    refine own_go (b := T4.setTop (mkF m 22 #[iv (N.toInt32), iv 1, rv b3] [])) (fun t k => XS.pop X4.here hx rfl (hb hby d2_21) rfl rfl k) ?_
    obtain ⟨T5, h5, X5, e5, E5, A5, D5, -, st5⟩ := newO X4 hx hZ hown (hw _ (List.mem_of_getElem? (i := 21) rfl)) (hw _ (List.mem_of_getElem? (i := 22) rfl)) (hw _ (List.mem_of_getElem? (i := 15) rfl)) rfl (g := (mkF m 22 #[iv (N.toInt32), iv 1, rv b3] [])) rfl (hb hby d2_22) (by decide) (by decide)
    obtain ⟨b5, g5⟩ : ∃ z, z = T4.heap.size := ⟨_, rfl⟩
    rw [← g5] at A5 D5 st5
    have g_b5 : n0 ≤ b5 := Nat.le_trans Zs4 (Nat.le_of_eq g5.symm)
    have sz_b5 : h0.size ≤ b5 := Nat.le_trans Kp4.1 (Nat.le_of_eq g5.symm)
    have Zs5 : n0 ≤ h5.size := Nat.le_trans Zs4 E5.1
    have Kp5 : Keep h0 h5 [] := Kp4.ext E5
    have Ol5 := Ol4.ext E5
    have F_value_b5 : Fld Z h5 b5 "java/lang/String" "value" "[B" .null := D5 (Or.inr (hw _ (List.mem_of_getElem? (i := 31) rfl))) (ty := (.array .byte)) (by decide)
    have F_coder_b5 : Fld Z h5 b5 "java/lang/String" "coder" "B" (.int 0) := D5 (Or.inr (hw _ (List.mem_of_getElem? (i := 33) rfl))) (ty := .byte) (by decide)
    refine own_go (b := T5.setTop (mkF m 25 #[iv (N.toInt32), iv 1, rv b3] [(.ref b5)])) st5 ?_
    refine own_go (b := T5.setTop (mkF m 26 #[iv (N.toInt32), iv 1, rv b3] [(.ref b5), (.ref b5)])) (fun t k => XS.dup X5.here hx rfl (hb hby d2_25) rfl rfl k) ?_
    refine own_go (b := T5.setTop (mkF m 27 #[iv (N.toInt32), iv 1, rv b3] [(.ref b3), (.ref b5), (.ref b5)])) (fun t k => XS.aloadN X5.here hx rfl (hb hby d2_26) rfl rfl k) ?_
    refine own_go (b := T5.setTop (mkF m 28 #[iv (N.toInt32), iv 1, rv b3] [(.int 0), (.ref b3), (.ref b5), (.ref b5)])) (fun t k => XS.iconst X5.here hx rfl (hb hby d2_27) k) ?_
    obtain ⟨_, _, ⟨T6, L6, k6, n6⟩, -, X6, ⟨Lc6, hQ6, l6, y6, z6⟩, st6⟩ := X5.specialBack hx (y := (⟨"java/lang/String", "<init>", "([BB)V"⟩ : MethodName)) rfl hown (mvT hZ (hw _ (List.mem_of_getElem? (i := 23) rfl))) (mvT hZ (hw _ (List.mem_of_getElem? (i := 24) rfl))) (mvT hZ (hw _ (List.mem_of_getElem? (i := 26) rfl))) (by decide) (backOf (W := 1) (rm5 l Z a0 hw [] b5 b3 (0 : Int32)  h5 n0 Zs5 A5 F_value_b5 F_coder_b5 g_b5) hZ (hw _ (List.mem_of_getElem? (i := 26) rfl)) (hw _ (List.mem_of_getElem? (i := 15) rfl)) (by decide) (by decide)) (g := (mkF m 28 #[iv (N.toInt32), iv 1, rv b3] [(.int 0), (.ref b3), (.ref b5), (.ref b5)])) rfl (by rw [hml]; rfl) (Steps.refl _) (a := b5) (argsL := [(.ref b3), (.int 0)]) (rest := [(.ref b5)]) (lenOf pd_3 rfl) rfl (by show 2 * 0 + _ ≤ _; exact Nat.le_of_eq rfl) (hb hby d2_28) (fun _ _ => ⟨rfl, e5, (by decide : 2 + 0 ≤ _), (by decide : 5 + 0 ≤ _)⟩)
    dsimp only [Pt.U, Pt.locs, Pt.cells, Pt.slots] at X6 l6 y6 z6 st6 hQ6
    subst l6 y6 z6
    obtain ⟨rfl, N6q, K6, Ek6, Fv6, Fc6⟩ := hQ6
    have Zs6 : n0 ≤ T6.heap.size := Nat.le_trans Zs5 K6.1
    have N6 := Fr.app N4 N6q
    have Kp6 : Keep h0 T6.heap [] := Kp5.trans K6 (by intro x hx; simp only [List.mem_cons, List.not_mem_nil, or_false] at hx; rcases hx with rfl <;> first | exact Or.inr (by assumption) | exact Or.inl (by simp))
    have Ol6 := Ol5.keep K6 (allS g_b5 all0)
    refine own_tr (b := T6.setTop (mkF m 31 #[iv (N.toInt32), iv 1, rv b3] [(.ref b5)])) st6 ?_
    exact own_retA X6 hx hlk hrt rfl rfl (hb hby d2_31) (Nat.le_of_ble_eq_true rfl) (Nat.le_of_ble_eq_true rfl) (⟨b5, rfl, N6, Kp6, by rw [hz2]; exact ⟨b3, _, sz_b5, sz_b3, Ek6, Fv6, Fc6, by rw [own_digs_bytes, own_digs_len]; exact ((Vd4.ext E5).keep K6 (ninS (Nat.ne_of_lt (Nat.lt_of_lt_of_le (Vd4).lt (Nat.le_of_eq g5.symm))) nin0)), own_digs_lat N 1, by rw [own_digs_len]; decide⟩⟩)
  · rw [hz1]
    refine own_go (b := T1.setTop (mkF m 5 #[iv (N.toInt32), iv 2, .unset] [])) (fun t k => XS.istoreN X1.here hx rfl (hb hby d2_4) rfl (l' := #[iv (N.toInt32), iv 2, .unset]) rfl k) ?_
    obtain ⟨T7, X7, e7, st7⟩ := getS2 X1 hx hZ hown (host := "") (Or.inl (hw _ (List.mem_of_getElem? (i := 14) rfl))) Via.refl e1 (O2.ext Od.2) (g := (mkF m 5 #[iv (N.toInt32), iv 2, .unset] [])) rfl (hb hby d2_5)
    refine own_go (b := T7.setTop (mkF m 8 #[iv (N.toInt32), iv 2, .unset] [(.int G1)])) st7 ?_
    refine own_go (b := T7.setTop (mkF m 11 #[iv (N.toInt32), iv 2, .unset] [])) (fun t k => XS.ifNo X7.here hx rfl (hb hby d2_8) rfl ((if0 _ _).trans (feq P5).1) k) ?_
    refine own_go (b := T7.setTop (mkF m 12 #[iv (N.toInt32), iv 2, .unset] [(.int 2)])) (fun t k => XS.iloadN X7.here hx rfl (hb hby d2_11) rfl  k) ?_
    obtain ⟨T8, h8, k8, X8, e8, E8, A8, st8⟩ := newP X7 hx hZ (hw _ (List.mem_of_getElem? (i := 16) rfl)) e7 (g := (mkF m 12 #[iv (N.toInt32), iv 2, .unset] [(.int 2)])) rfl (hb hby d2_12) rfl (by decide) (cap := 2) (by decide) (by decide) (by decide) (by decide)
    obtain ⟨b8, g8⟩ : ∃ z, z = h0.size := ⟨_, rfl⟩
    rw [← g8] at A8 st8
    have g_b8 : n0 ≤ b8 := Nat.le_trans Z0 (Nat.le_of_eq g8.symm)
    have sz_b8 : h0.size ≤ b8 := Nat.le_trans (Keep.refl h0 []).1 (Nat.le_of_eq g8.symm)
    have Zs8 : n0 ≤ h8.size := Nat.le_trans Z0 E8.1
    have Kp8 : Keep h0 h8 [] := (Keep.refl h0 []).ext E8
    have Ol8 := Od.ext E8
    have V_b8 : Arv Z h8 b8 k8 .byte (2 : Int32) [(.int (0 : Int32)), (.int (0 : Int32))] (.int (0 : Int32)) := (Arv.new A8 (by decide)).pad (pad_rep [] (.int (0 : Int32)) 2)
    refine own_go (b := T8.setTop (mkF m 14 #[iv (N.toInt32), iv 2, .unset] [(.ref b8)])) st8 ?_
    refine own_go (b := T8.setTop (mkF m 15 #[iv (N.toInt32), iv 2, rv b8] [])) (fun t k => XS.astoreN X8.here hx rfl (hb hby d2_14) rfl rfl (l' := #[iv (N.toInt32), iv 2, rv b8]) rfl k) ?_
    refine own_go (b := T8.setTop (mkF m 16 #[iv (N.toInt32), iv 2, rv b8] [(.int (N.toInt32))])) (fun t k => XS.iloadN X8.here hx rfl (hb hby d2_15) rfl  k) ?_
    refine own_go (b := T8.setTop (mkF m 17 #[iv (N.toInt32), iv 2, rv b8] [(.int 2), (.int (N.toInt32))])) (fun t k => XS.iloadN X8.here hx rfl (hb hby d2_16) rfl  k) ?_
    refine own_go (b := T8.setTop (mkF m 18 #[iv (N.toInt32), iv 2, rv b8] [(.ref b8), (.int 2), (.int (N.toInt32))])) (fun t k => XS.aloadN X8.here hx rfl (hb hby d2_17) rfl rfl k) ?_
    obtain ⟨_, _, ⟨T9, L9, k9, n9⟩, -, X9, ⟨Lc9, hQ9, l9, y9, z9⟩, st9⟩ := Jvm.LawKit.callS X8 hx (y := (⟨"java/lang/Integer", "getChars", "(II[B)I"⟩ : MethodName)) hown (mvT hZ (hw _ (List.mem_of_getElem? (i := 17) rfl))) (mvT hZ (hw _ (List.mem_of_getElem? (i := 18) rfl))) (mvT hZ (hw _ (List.mem_of_getElem? (i := 9) rfl))) (mvT hZ (hw _ (List.mem_of_getElem? (i := 19) rfl))) (by decide) (backOf (W := 0) (rm4_2 l Z a0 hw [] (N.toInt32) (2 : Int32) b8 N k8 dO dT cO cT h8 n0 Zs8 rfl rfl hN hz3 hz4 SO ST AO AT hO hT V_b8 g_b8 Ol8) hZ (hw _ (List.mem_of_getElem? (i := 19) rfl)) (hw _ (List.mem_of_getElem? (i := 9) rfl)) (by decide) (by decide)) (g := (mkF m 18 #[iv (N.toInt32), iv 2, rv b8] [(.ref b8), (.int 2), (.int (N.toInt32))])) rfl (by rw [hml]; rfl) (argsL := [(.int (N.toInt32)), (.int 2), (.ref b8)]) (rest := []) (lenOf pd_2 rfl) rfl (by show 2 * 0 + _ ≤ _; exact Nat.le_of_eq rfl) (hb hby d2_18) (fun _ _ => ⟨rfl, e8, (by decide : 1 + 0 ≤ _), (by decide : 2 + 0 ≤ _)⟩)
    dsimp only [Pt.U, Pt.locs, Pt.cells, Pt.slots] at X9 l9 y9 z9 st9 hQ9
    subst l9 y9 z9
    obtain ⟨rfl, N9q, K9, Vd9⟩ := hQ9
    have Zs9 : n0 ≤ T9.heap.size := Nat.le_trans Zs8 K9.1
    have N9 := Fr.app N1 N9q
    have Kp9 : Keep h0 T9.heap [] := Kp8.trans K9 (by intro x hx; simp only [List.mem_cons, List.not_mem_nil, or_false] at hx; rcases hx with rfl <;> first | exact Or.inr (by assumption) | exact Or.inl (by simp))
    have Ol9 := Ol8.keep K9 (allS g_b8 all0)
    refine own_go (b := T9.setTop (mkF m 21 #[iv (N.toInt32), iv 2, rv b8] [(.int 0)])) st9 ?_
    refine own_go (b := T9.setTop (mkF m 22 #[iv (N.toInt32), iv 2, rv b8] [])) (fun t k => XS.pop X9.here hx rfl (hb hby d2_21) rfl rfl k) ?_
    obtain ⟨T10, h10, X10, e10, E10, A10, D10, -, st10⟩ := newO X9 hx hZ hown (hw _ (List.mem_of_getElem? (i := 21) rfl)) (hw _ (List.mem_of_getElem? (i := 22) rfl)) (hw _ (List.mem_of_getElem? (i := 15) rfl)) rfl (g := (mkF m 22 #[iv (N.toInt32), iv 2, rv b8] [])) rfl (hb hby d2_22) (by decide) (by decide)
    obtain ⟨b10, g10⟩ : ∃ z, z = T9.heap.size := ⟨_, rfl⟩
    rw [← g10] at A10 D10 st10
    have g_b10 : n0 ≤ b10 := Nat.le_trans Zs9 (Nat.le_of_eq g10.symm)
    have sz_b10 : h0.size ≤ b10 := Nat.le_trans Kp9.1 (Nat.le_of_eq g10.symm)
    have Zs10 : n0 ≤ h10.size := Nat.le_trans Zs9 E10.1
    have Kp10 : Keep h0 h10 [] := Kp9.ext E10
    have Ol10 := Ol9.ext E10
    have F_value_b10 : Fld Z h10 b10 "java/lang/String" "value" "[B" .null := D10 (Or.inr (hw _ (List.mem_of_getElem? (i := 31) rfl))) (ty := (.array .byte)) (by decide)
    have F_coder_b10 : Fld Z h10 b10 "java/lang/String" "coder" "B" (.int 0) := D10 (Or.inr (hw _ (List.mem_of_getElem? (i := 33) rfl))) (ty := .byte) (by decide)
    refine own_go (b := T10.setTop (mkF m 25 #[iv (N.toInt32), iv 2, rv b8] [(.ref b10)])) st10 ?_
    refine own_go (b := T10.setTop (mkF m 26 #[iv (N.toInt32), iv 2, rv b8] [(.ref b10), (.ref b10)])) (fun t k => XS.dup X10.here hx rfl (hb hby d2_25) rfl rfl k) ?_
    refine own_go (b := T10.setTop (mkF m 27 #[iv (N.toInt32), iv 2, rv b8] [(.ref b8), (.ref b10), (.ref b10)])) (fun t k => XS.aloadN X10.here hx rfl (hb hby d2_26) rfl rfl k) ?_
    refine own_go (b := T10.setTop (mkF m 28 #[iv (N.toInt32), iv 2, rv b8] [(.int 0), (.ref b8), (.ref b10), (.ref b10)])) (fun t k => XS.iconst X10.here hx rfl (hb hby d2_27) k) ?_
    obtain ⟨_, _, ⟨T11, L11, k11, n11⟩, -, X11, ⟨Lc11, hQ11, l11, y11, z11⟩, st11⟩ := X10.specialBack hx (y := (⟨"java/lang/String", "<init>", "([BB)V"⟩ : MethodName)) rfl hown (mvT hZ (hw _ (List.mem_of_getElem? (i := 23) rfl))) (mvT hZ (hw _ (List.mem_of_getElem? (i := 24) rfl))) (mvT hZ (hw _ (List.mem_of_getElem? (i := 26) rfl))) (by decide) (backOf (W := 1) (rm5 l Z a0 hw [] b10 b8 (0 : Int32)  h10 n0 Zs10 A10 F_value_b10 F_coder_b10 g_b10) hZ (hw _ (List.mem_of_getElem? (i := 26) rfl)) (hw _ (List.mem_of_getElem? (i := 15) rfl)) (by decide) (by decide)) (g := (mkF m 28 #[iv (N.toInt32), iv 2, rv b8] [(.int 0), (.ref b8), (.ref b10), (.ref b10)])) rfl (by rw [hml]; rfl) (Steps.refl _) (a := b10) (argsL := [(.ref b8), (.int 0)]) (rest := [(.ref b10)]) (lenOf pd_3 rfl) rfl (by show 2 * 0 + _ ≤ _; exact Nat.le_of_eq rfl) (hb hby d2_28) (fun _ _ => ⟨rfl, e10, (by decide : 2 + 0 ≤ _), (by decide : 6 + 0 ≤ _)⟩)
    dsimp only [Pt.U, Pt.locs, Pt.cells, Pt.slots] at X11 l11 y11 z11 st11 hQ11
    subst l11 y11 z11
    obtain ⟨rfl, N11q, K11, Ek11, Fv11, Fc11⟩ := hQ11
    have Zs11 : n0 ≤ T11.heap.size := Nat.le_trans Zs10 K11.1
    have N11 := Fr.app N9 N11q
    have Kp11 : Keep h0 T11.heap [] := Kp10.trans K11 (by intro x hx; simp only [List.mem_cons, List.not_mem_nil, or_false] at hx; rcases hx with rfl <;> first | exact Or.inr (by assumption) | exact Or.inl (by simp))
    have Ol11 := Ol10.keep K11 (allS g_b10 all0)
    refine own_tr (b := T11.setTop (mkF m 31 #[iv (N.toInt32), iv 2, rv b8] [(.ref b10)])) st11 ?_
    exact own_retA X11 hx hlk hrt rfl rfl (hb hby d2_31) (Nat.le_of_ble_eq_true rfl) (Nat.le_of_ble_eq_true rfl) (⟨b10, rfl, N11, Kp11, by rw [hz2]; exact ⟨b8, _, sz_b10, sz_b8, Ek11, Fv11, Fc11, by rw [own_digs_bytes, own_digs_len]; exact ((Vd9.ext E10).keep K11 (ninS (Nat.ne_of_lt (Nat.lt_of_lt_of_le (Vd9).lt (Nat.le_of_eq g10.symm))) nin0)), own_digs_lat N 2, by rw [own_digs_len]; decide⟩⟩)
  · rw [hz1]
    refine own_go (b := T1.setTop (mkF m 5 #[iv (N.toInt32), iv 3, .unset] [])) (fun t k => XS.istoreN X1.here hx rfl (hb hby d2_4) rfl (l' := #[iv (N.toInt32), iv 3, .unset]) rfl k) ?_
    obtain ⟨T12, X12, e12, st12⟩ := getS2 X1 hx hZ hown (host := "") (Or.inl (hw _ (List.mem_of_getElem? (i := 14) rfl))) Via.refl e1 (O2.ext Od.2) (g := (mkF m 5 #[iv (N.toInt32), iv 3, .unset] [])) rfl (hb hby d2_5)
    refine own_go (b := T12.setTop (mkF m 8 #[iv (N.toInt32), iv 3, .unset] [(.int G1)])) st12 ?_
    refine own_go (b := T12.setTop (mkF m 11 #[iv (N.toInt32), iv 3, .unset] [])) (fun t k => XS.ifNo X12.here hx rfl (hb hby d2_8) rfl ((if0 _ _).trans (feq P5).1) k) ?_
    refine own_go (b := T12.setTop (mkF m 12 #[iv (N.toInt32), iv 3, .unset] [(.int 3)])) (fun t k => XS.iloadN X12.here hx rfl (hb hby d2_11) rfl  k) ?_
    obtain ⟨T13, h13, k13, X13, e13, E13, A13, st13⟩ := newP X12 hx hZ (hw _ (List.mem_of_getElem? (i := 16) rfl)) e12 (g := (mkF m 12 #[iv (N.toInt32), iv 3, .unset] [(.int 3)])) rfl (hb hby d2_12) rfl (by decide) (cap := 3) (by decide) (by decide) (by decide) (by decide)
    obtain ⟨b13, g13⟩ : ∃ z, z = h0.size := ⟨_, rfl⟩
    rw [← g13] at A13 st13
    have g_b13 : n0 ≤ b13 := Nat.le_trans Z0 (Nat.le_of_eq g13.symm)
    have sz_b13 : h0.size ≤ b13 := Nat.le_trans (Keep.refl h0 []).1 (Nat.le_of_eq g13.symm)
    have Zs13 : n0 ≤ h13.size := Nat.le_trans Z0 E13.1
    have Kp13 : Keep h0 h13 [] := (Keep.refl h0 []).ext E13
    have Ol13 := Od.ext E13
    have V_b13 : Arv Z h13 b13 k13 .byte (3 : Int32) [(.int (0 : Int32)), (.int (0 : Int32)), (.int (0 : Int32))] (.int (0 : Int32)) := (Arv.new A13 (by decide)).pad (pad_rep [] (.int (0 : Int32)) 3)
    refine own_go (b := T13.setTop (mkF m 14 #[iv (N.toInt32), iv 3, .unset] [(.ref b13)])) st13 ?_
    refine own_go (b := T13.setTop (mkF m 15 #[iv (N.toInt32), iv 3, rv b13] [])) (fun t k => XS.astoreN X13.here hx rfl (hb hby d2_14) rfl rfl (l' := #[iv (N.toInt32), iv 3, rv b13]) rfl k) ?_
    refine own_go (b := T13.setTop (mkF m 16 #[iv (N.toInt32), iv 3, rv b13] [(.int (N.toInt32))])) (fun t k => XS.iloadN X13.here hx rfl (hb hby d2_15) rfl  k) ?_
    refine own_go (b := T13.setTop (mkF m 17 #[iv (N.toInt32), iv 3, rv b13] [(.int 3), (.int (N.toInt32))])) (fun t k => XS.iloadN X13.here hx rfl (hb hby d2_16) rfl  k) ?_
    refine own_go (b := T13.setTop (mkF m 18 #[iv (N.toInt32), iv 3, rv b13] [(.ref b13), (.int 3), (.int (N.toInt32))])) (fun t k => XS.aloadN X13.here hx rfl (hb hby d2_17) rfl rfl k) ?_
    obtain ⟨_, _, ⟨T14, L14, k14, n14⟩, -, X14, ⟨Lc14, hQ14, l14, y14, z14⟩, st14⟩ := Jvm.LawKit.callS X13 hx (y := (⟨"java/lang/Integer", "getChars", "(II[B)I"⟩ : MethodName)) hown (mvT hZ (hw _ (List.mem_of_getElem? (i := 17) rfl))) (mvT hZ (hw _ (List.mem_of_getElem? (i := 18) rfl))) (mvT hZ (hw _ (List.mem_of_getElem? (i := 9) rfl))) (mvT hZ (hw _ (List.mem_of_getElem? (i := 19) rfl))) (by decide) (backOf (W := 0) (rm4_3 l Z a0 hw [] (N.toInt32) (3 : Int32) b13 N k13 dO dT cO cT h13 n0 Zs13 rfl rfl hN hz3 hz4 SO ST AO AT hO hT V_b13 g_b13 Ol13) hZ (hw _ (List.mem_of_getElem? (i := 19) rfl)) (hw _ (List.mem_of_getElem? (i := 9) rfl)) (by decide) (by decide)) (g := (mkF m 18 #[iv (N.toInt32), iv 3, rv b13] [(.ref b13), (.int 3), (.int (N.toInt32))])) rfl (by rw [hml]; rfl) (argsL := [(.int (N.toInt32)), (.int 3), (.ref b13)]) (rest := []) (lenOf pd_2 rfl) rfl (by show 2 * 0 + _ ≤ _; exact Nat.le_of_eq rfl) (hb hby d2_18) (fun _ _ => ⟨rfl, e13, (by decide : 1 + 0 ≤ _), (by decide : 3 + 0 ≤ _)⟩)
    dsimp only [Pt.U, Pt.locs, Pt.cells, Pt.slots] at X14 l14 y14 z14 st14 hQ14
    subst l14 y14 z14
    obtain ⟨rfl, N14q, K14, Vd14⟩ := hQ14
    have Zs14 : n0 ≤ T14.heap.size := Nat.le_trans Zs13 K14.1
    have N14 := Fr.app N1 N14q
    have Kp14 : Keep h0 T14.heap [] := Kp13.trans K14 (by intro x hx; simp only [List.mem_cons, List.not_mem_nil, or_false] at hx; rcases hx with rfl <;> first | exact Or.inr (by assumption) | exact Or.inl (by simp))
    have Ol14 := Ol13.keep K14 (allS g_b13 all0)
    refine own_go (b := T14.setTop (mkF m 21 #[iv (N.toInt32), iv 3, rv b13] [(.int 0)])) st14 ?_
    refine own_go (b := T14.setTop (mkF m 22 #[iv (N.toInt32), iv 3, rv b13] [])) (fun t k => XS.pop X14.here hx rfl (hb hby d2_21) rfl rfl k) ?_
    obtain ⟨T15, h15, X15, e15, E15, A15, D15, -, st15⟩ := newO X14 hx hZ hown (hw _ (List.mem_of_getElem? (i := 21) rfl)) (hw _ (List.mem_of_getElem? (i := 22) rfl)) (hw _ (List.mem_of_getElem? (i := 15) rfl)) rfl (g := (mkF m 22 #[iv (N.toInt32), iv 3, rv b13] [])) rfl (hb hby d2_22) (by decide) (by decide)
    obtain ⟨b15, g15⟩ : ∃ z, z = T14.heap.size := ⟨_, rfl⟩
    rw [← g15] at A15 D15 st15
    have g_b15 : n0 ≤ b15 := Nat.le_trans Zs14 (Nat.le_of_eq g15.symm)
    have sz_b15 : h0.size ≤ b15 := Nat.le_trans Kp14.1 (Nat.le_of_eq g15.symm)
    have Zs15 : n0 ≤ h15.size := Nat.le_trans Zs14 E15.1
    have Kp15 : Keep h0 h15 [] := Kp14.ext E15
    have Ol15 := Ol14.ext E15
    have F_value_b15 : Fld Z h15 b15 "java/lang/String" "value" "[B" .null := D15 (Or.inr (hw _ (List.mem_of_getElem? (i := 31) rfl))) (ty := (.array .byte)) (by decide)
    have F_coder_b15 : Fld Z h15 b15 "java/lang/String" "coder" "B" (.int 0) := D15 (Or.inr (hw _ (List.mem_of_getElem? (i := 33) rfl))) (ty := .byte) (by decide)
    refine own_go (b := T15.setTop (mkF m 25 #[iv (N.toInt32), iv 3, rv b13] [(.ref b15)])) st15 ?_
    refine own_go (b := T15.setTop (mkF m 26 #[iv (N.toInt32), iv 3, rv b13] [(.ref b15), (.ref b15)])) (fun t k => XS.dup X15.here hx rfl (hb hby d2_25) rfl rfl k) ?_
    refine own_go (b := T15.setTop (mkF m 27 #[iv (N.toInt32), iv 3, rv b13] [(.ref b13), (.ref b15), (.ref b15)])) (fun t k => XS.aloadN X15.here hx rfl (hb hby d2_26) rfl rfl k) ?_
    refine own_go (b := T15.setTop (mkF m 28 #[iv (N.toInt32), iv 3, rv b13] [(.int 0), (.ref b13), (.ref b15), (.ref b15)])) (fun t k => XS.iconst X15.here hx rfl (hb hby d2_27) k) ?_
    obtain ⟨_, _, ⟨T16, L16, k16, n16⟩, -, X16, ⟨Lc16, hQ16, l16, y16, z16⟩, st16⟩ := X15.specialBack hx (y := (⟨"java/lang/String", "<init>", "([BB)V"⟩ : MethodName)) rfl hown (mvT hZ (hw _ (List.mem_of_getElem? (i := 23) rfl))) (mvT hZ (hw _ (List.mem_of_getElem? (i := 24) rfl))) (mvT hZ (hw _ (List.mem_of_getElem? (i := 26) rfl))) (by decide) (backOf (W := 1) (rm5 l Z a0 hw [] b15 b13 (0 : Int32)  h15 n0 Zs15 A15 F_value_b15 F_coder_b15 g_b15) hZ (hw _ (List.mem_of_getElem? (i := 26) rfl)) (hw _ (List.mem_of_getElem? (i := 15) rfl)) (by decide) (by decide)) (g := (mkF m 28 #[iv (N.toInt32), iv 3, rv b13] [(.int 0), (.ref b13), (.ref b15), (.ref b15)])) rfl (by rw [hml]; rfl) (Steps.refl _) (a := b15) (argsL := [(.ref b13), (.int 0)]) (rest := [(.ref b15)]) (lenOf pd_3 rfl) rfl (by show 2 * 0 + _ ≤ _; exact Nat.le_of_eq rfl) (hb hby d2_28) (fun _ _ => ⟨rfl, e15, (by decide : 2 + 0 ≤ _), (by decide : 7 + 0 ≤ _)⟩)
    dsimp only [Pt.U, Pt.locs, Pt.cells, Pt.slots] at X16 l16 y16 z16 st16 hQ16
    subst l16 y16 z16
    obtain ⟨rfl, N16q, K16, Ek16, Fv16, Fc16⟩ := hQ16
    have Zs16 : n0 ≤ T16.heap.size := Nat.le_trans Zs15 K16.1
    have N16 := Fr.app N14 N16q
    have Kp16 : Keep h0 T16.heap [] := Kp15.trans K16 (by intro x hx; simp only [List.mem_cons, List.not_mem_nil, or_false] at hx; rcases hx with rfl <;> first | exact Or.inr (by assumption) | exact Or.inl (by simp))
    have Ol16 := Ol15.keep K16 (allS g_b15 all0)
    refine own_tr (b := T16.setTop (mkF m 31 #[iv (N.toInt32), iv 3, rv b13] [(.ref b15)])) st16 ?_
    exact own_retA X16 hx hlk hrt rfl rfl (hb hby d2_31) (Nat.le_of_ble_eq_true rfl) (Nat.le_of_ble_eq_true rfl) (⟨b15, rfl, N16, Kp16, by rw [hz2]; exact ⟨b13, _, sz_b15, sz_b13, Ek16, Fv16, Fc16, by rw [own_digs_bytes, own_digs_len]; exact ((Vd14.ext E15).keep K16 (ninS (Nat.ne_of_lt (Nat.lt_of_lt_of_le (Vd14).lt (Nat.le_of_eq g15.symm))) nin0)), own_digs_lat N 3, by rw [own_digs_len]; decide⟩⟩)
  · rw [hz1]
    refine own_go (b := T1.setTop (mkF m 5 #[iv (N.toInt32), iv 4, .unset] [])) (fun t k => XS.istoreN X1.here hx rfl (hb hby d2_4) rfl (l' := #[iv (N.toInt32), iv 4, .unset]) rfl k) ?_
    obtain ⟨T17, X17, e17, st17⟩ := getS2 X1 hx hZ hown (host := "") (Or.inl (hw _ (List.mem_of_getElem? (i := 14) rfl))) Via.refl e1 (O2.ext Od.2) (g := (mkF m 5 #[iv (N.toInt32), iv 4, .unset] [])) rfl (hb hby d2_5)
    refine own_go (b := T17.setTop (mkF m 8 #[iv (N.toInt32), iv 4, .unset] [(.int G1)])) st17 ?_
    refine own_go (b := T17.setTop (mkF m 11 #[iv (N.toInt32), iv 4, .unset] [])) (fun t k => XS.ifNo X17.here hx rfl (hb hby d2_8) rfl ((if0 _ _).trans (feq P5).1) k) ?_
    refine own_go (b := T17.setTop (mkF m 12 #[iv (N.toInt32), iv 4, .unset] [(.int 4)])) (fun t k => XS.iloadN X17.here hx rfl (hb hby d2_11) rfl  k) ?_
    obtain ⟨T18, h18, k18, X18, e18, E18, A18, st18⟩ := newP X17 hx hZ (hw _ (List.mem_of_getElem? (i := 16) rfl)) e17 (g := (mkF m 12 #[iv (N.toInt32), iv 4, .unset] [(.int 4)])) rfl (hb hby d2_12) rfl (by decide) (cap := 4) (by decide) (by decide) (by decide) (by decide)
    obtain ⟨b18, g18⟩ : ∃ z, z = h0.size := ⟨_, rfl⟩
    rw [← g18] at A18 st18
    have g_b18 : n0 ≤ b18 := Nat.le_trans Z0 (Nat.le_of_eq g18.symm)
    have sz_b18 : h0.size ≤ b18 := Nat.le_trans (Keep.refl h0 []).1 (Nat.le_of_eq g18.symm)
    have Zs18 : n0 ≤ h18.size := Nat.le_trans Z0 E18.1
    have Kp18 : Keep h0 h18 [] := (Keep.refl h0 []).ext E18
    have Ol18 := Od.ext E18
    have V_b18 : Arv Z h18 b18 k18 .byte (4 : Int32) [(.int (0 : Int32)), (.int (0 : Int32)), (.int (0 : Int32)), (.int (0 : Int32))] (.int (0 : Int32)) := (Arv.new A18 (by decide)).pad (pad_rep [] (.int (0 : Int32)) 4)
    refine own_go (b := T18.setTop (mkF m 14 #[iv (N.toInt32), iv 4, .unset] [(.ref b18)])) st18 ?_
    refine own_go (b := T18.setTop (mkF m 15 #[iv (N.toInt32), iv 4, rv b18] [])) (fun t k => XS.astoreN X18.here hx rfl (hb hby d2_14) rfl rfl (l' := #[iv (N.toInt32), iv 4, rv b18]) rfl k) ?_
    refine own_go (b := T18.setTop (mkF m 16 #[iv (N.toInt32), iv 4, rv b18] [(.int (N.toInt32))])) (fun t k => XS.iloadN X18.here hx rfl (hb hby d2_15) rfl  k) ?_
    refine own_go (b := T18.setTop (mkF m 17 #[iv (N.toInt32), iv 4, rv b18] [(.int 4), (.int (N.toInt32))])) (fun t k => XS.iloadN X18.here hx rfl (hb hby d2_16) rfl  k) ?_
    refine own_go (b := T18.setTop (mkF m 18 #[iv (N.toInt32), iv 4, rv b18] [(.ref b18), (.int 4), (.int (N.toInt32))])) (fun t k => XS.aloadN X18.here hx rfl (hb hby d2_17) rfl rfl k) ?_
    obtain ⟨_, _, ⟨T19, L19, k19, n19⟩, -, X19, ⟨Lc19, hQ19, l19, y19, z19⟩, st19⟩ := Jvm.LawKit.callS X18 hx (y := (⟨"java/lang/Integer", "getChars", "(II[B)I"⟩ : MethodName)) hown (mvT hZ (hw _ (List.mem_of_getElem? (i := 17) rfl))) (mvT hZ (hw _ (List.mem_of_getElem? (i := 18) rfl))) (mvT hZ (hw _ (List.mem_of_getElem? (i := 9) rfl))) (mvT hZ (hw _ (List.mem_of_getElem? (i := 19) rfl))) (by decide) (backOf (W := 0) (rm4_4 l Z a0 hw [] (N.toInt32) (4 : Int32) b18 N k18 dO dT cO cT h18 n0 Zs18 rfl rfl hN hz3 hz4 SO ST AO AT hO hT V_b18 g_b18 Ol18) hZ (hw _ (List.mem_of_getElem? (i := 19) rfl)) (hw _ (List.mem_of_getElem? (i := 9) rfl)) (by decide) (by decide)) (g := (mkF m 18 #[iv (N.toInt32), iv 4, rv b18] [(.ref b18), (.int 4), (.int (N.toInt32))])) rfl (by rw [hml]; rfl) (argsL := [(.int (N.toInt32)), (.int 4), (.ref b18)]) (rest := []) (lenOf pd_2 rfl) rfl (by show 2 * 0 + _ ≤ _; exact Nat.le_of_eq rfl) (hb hby d2_18) (fun _ _ => ⟨rfl, e18, (by decide : 1 + 0 ≤ _), (by decide : 4 + 0 ≤ _)⟩)
    dsimp only [Pt.U, Pt.locs, Pt.cells, Pt.slots] at X19 l19 y19 z19 st19 hQ19
    subst l19 y19 z19
    obtain ⟨rfl, N19q, K19, Vd19⟩ := hQ19
    have Zs19 : n0 ≤ T19.heap.size := Nat.le_trans Zs18 K19.1
    have N19 := Fr.app N1 N19q
    have Kp19 : Keep h0 T19.heap [] := Kp18.trans K19 (by intro x hx; simp only [List.mem_cons, List.not_mem_nil, or_false] at hx; rcases hx with rfl <;> first | exact Or.inr (by assumption) | exact Or.inl (by simp))
    have Ol19 := Ol18.keep K19 (allS g_b18 all0)
    refine own_go (b := T19.setTop (mkF m 21 #[iv (N.toInt32), iv 4, rv b18] [(.int 0)])) st19 ?_
    refine own_go (b := T19.setTop (mkF m 22 #[iv (N.toInt32), iv 4, rv b18] [])) (fun t k => XS.pop X19.here hx rfl (hb hby d2_21) rfl rfl k) ?_
    obtain ⟨T20, h20, X20, e20, E20, A20, D20, -, st20⟩ := newO X19 hx hZ hown (hw _ (List.mem_of_getElem? (i := 21) rfl)) (hw _ (List.mem_of_getElem? (i := 22) rfl)) (hw _ (List.mem_of_getElem? (i := 15) rfl)) rfl (g := (mkF m 22 #[iv (N.toInt32), iv 4, rv b18] [])) rfl (hb hby d2_22) (by decide) (by decide)
    obtain ⟨b20, g20⟩ : ∃ z, z = T19.heap.size := ⟨_, rfl⟩
    rw [← g20] at A20 D20 st20
    have g_b20 : n0 ≤ b20 := Nat.le_trans Zs19 (Nat.le_of_eq g20.symm)
    have sz_b20 : h0.size ≤ b20 := Nat.le_trans Kp19.1 (Nat.le_of_eq g20.symm)
    have Zs20 : n0 ≤ h20.size := Nat.le_trans Zs19 E20.1
    have Kp20 : Keep h0 h20 [] := Kp19.ext E20
    have Ol20 := Ol19.ext E20
    have F_value_b20 : Fld Z h20 b20 "java/lang/String" "value" "[B" .null := D20 (Or.inr (hw _ (List.mem_of_getElem? (i := 31) rfl))) (ty := (.array .byte)) (by decide)
    have F_coder_b20 : Fld Z h20 b20 "java/lang/String" "coder" "B" (.int 0) := D20 (Or.inr (hw _ (List.mem_of_getElem? (i := 33) rfl))) (ty := .byte) (by decide)
    refine own_go (b := T20.setTop (mkF m 25 #[iv (N.toInt32), iv 4, rv b18] [(.ref b20)])) st20 ?_
    refine own_go (b := T20.setTop (mkF m 26 #[iv (N.toInt32), iv 4, rv b18] [(.ref b20), (.ref b20)])) (fun t k => XS.dup X20.here hx rfl (hb hby d2_25) rfl rfl k) ?_
    refine own_go (b := T20.setTop (mkF m 27 #[iv (N.toInt32), iv 4, rv b18] [(.ref b18), (.ref b20), (.ref b20)])) (fun t k => XS.aloadN X20.here hx rfl (hb hby d2_26) rfl rfl k) ?_
    refine own_go (b := T20.setTop (mkF m 28 #[iv (N.toInt32), iv 4, rv b18] [(.int 0), (.ref b18), (.ref b20), (.ref b20)])) (fun t k => XS.iconst X20.here hx rfl (hb hby d2_27) k) ?_
    obtain ⟨_, _, ⟨T21, L21, k21, n21⟩, -, X21, ⟨Lc21, hQ21, l21, y21, z21⟩, st21⟩ := X20.specialBack hx (y := (⟨"java/lang/String", "<init>", "([BB)V"⟩ : MethodName)) rfl hown (mvT hZ (hw _ (List.mem_of_getElem? (i := 23) rfl))) (mvT hZ (hw _ (List.mem_of_getElem? (i := 24) rfl))) (mvT hZ (hw _ (List.mem_of_getElem? (i := 26) rfl))) (by decide) (backOf (W := 1) (rm5 l Z a0 hw [] b20 b18 (0 : Int32)  h20 n0 Zs20 A20 F_value_b20 F_coder_b20 g_b20) hZ (hw _ (List.mem_of_getElem? (i := 26) rfl)) (hw _ (List.mem_of_getElem? (i := 15) rfl)) (by decide) (by decide)) (g := (mkF m 28 #[iv (N.toInt32), iv 4, rv b18] [(.int 0), (.ref b18), (.ref b20), (.ref b20)])) rfl (by rw [hml]; rfl) (Steps.refl _) (a := b20) (argsL := [(.ref b18), (.int 0)]) (rest := [(.ref b20)]) (lenOf pd_3 rfl) rfl (by show 2 * 0 + _ ≤ _; exact Nat.le_of_eq rfl) (hb hby d2_28) (fun _ _ => ⟨rfl, e20, (by decide : 2 + 0 ≤ _), (by decide : 8 + 0 ≤ _)⟩)
    dsimp only [Pt.U, Pt.locs, Pt.cells, Pt.slots] at X21 l21 y21 z21 st21 hQ21
    subst l21 y21 z21
    obtain ⟨rfl, N21q, K21, Ek21, Fv21, Fc21⟩ := hQ21
    have Zs21 : n0 ≤ T21.heap.size := Nat.le_trans Zs20 K21.1
    have N21 := Fr.app N19 N21q
    have Kp21 : Keep h0 T21.heap [] := Kp20.trans K21 (by intro x hx; simp only [List.mem_cons, List.not_mem_nil, or_false] at hx; rcases hx with rfl <;> first | exact Or.inr (by assumption) | exact Or.inl (by simp))
    have Ol21 := Ol20.keep K21 (allS g_b20 all0)
    refine own_tr (b := T21.setTop (mkF m 31 #[iv (N.toInt32), iv 4, rv b18] [(.ref b20)])) st21 ?_
    exact own_retA X21 hx hlk hrt rfl rfl (hb hby d2_31) (Nat.le_of_ble_eq_true rfl) (Nat.le_of_ble_eq_true rfl) (⟨b20, rfl, N21, Kp21, by rw [hz2]; exact ⟨b18, _, sz_b20, sz_b18, Ek21, Fv21, Fc21, by rw [own_digs_bytes, own_digs_len]; exact ((Vd19.ext E20).keep K21 (ninS (Nat.ne_of_lt (Nat.lt_of_lt_of_le (Vd19).lt (Nat.le_of_eq g20.symm))) nin0)), own_digs_lat N 4, by rw [own_digs_len]; decide⟩⟩)
  · rw [hz1]
    refine own_go (b := T1.setTop (mkF m 5 #[iv (N.toInt32), iv 5, .unset] [])) (fun t k => XS.istoreN X1.here hx rfl (hb hby d2_4) rfl (l' := #[iv (N.toInt32), iv 5, .unset]) rfl k) ?_
    obtain ⟨T22, X22, e22, st22⟩ := getS2 X1 hx hZ hown (host := "") (Or.inl (hw _ (List.mem_of_getElem? (i := 14) rfl))) Via.refl e1 (O2.ext Od.2) (g := (mkF m 5 #[iv (N.toInt32), iv 5, .unset] [])) rfl (hb hby d2_5)
    refine own_go (b := T22.setTop (mkF m 8 #[iv (N.toInt32), iv 5, .unset] [(.int G1)])) st22 ?_
    refine own_go (b := T22.setTop (mkF m 11 #[iv (N.toInt32), iv 5, .unset] [])) (fun t k => XS.ifNo X22.here hx rfl (hb hby d2_8) rfl ((if0 _ _).trans (feq P5).1) k) ?_
    refine own_go (b := T22.setTop (mkF m 12 #[iv (N.toInt32), iv 5, .unset] [(.int 5)])) (fun t k => XS.iloadN X22.here hx rfl (hb hby d2_11) rfl  k) ?_
    obtain ⟨T23, h23, k23, X23, e23, E23, A23, st23⟩ := newP X22 hx hZ (hw _ (List.mem_of_getElem? (i := 16) rfl)) e22 (g := (mkF m 12 #[iv (N.toInt32), iv 5, .unset] [(.int 5)])) rfl (hb hby d2_12) rfl (by decide) (cap := 5) (by decide) (by decide) (by decide) (by decide)
    obtain ⟨b23, g23⟩ : ∃ z, z = h0.size := ⟨_, rfl⟩
    rw [← g23] at A23 st23
    have g_b23 : n0 ≤ b23 := Nat.le_trans Z0 (Nat.le_of_eq g23.symm)
    have sz_b23 : h0.size ≤ b23 := Nat.le_trans (Keep.refl h0 []).1 (Nat.le_of_eq g23.symm)
    have Zs23 : n0 ≤ h23.size := Nat.le_trans Z0 E23.1
    have Kp23 : Keep h0 h23 [] := (Keep.refl h0 []).ext E23
    have Ol23 := Od.ext E23
    have V_b23 : Arv Z h23 b23 k23 .byte (5 : Int32) [(.int (0 : Int32)), (.int (0 : Int32)), (.int (0 : Int32)), (.int (0 : Int32)), (.int (0 : Int32))] (.int (0 : Int32)) := (Arv.new A23 (by decide)).pad (pad_rep [] (.int (0 : Int32)) 5)
    refine own_go (b := T23.setTop (mkF m 14 #[iv (N.toInt32), iv 5, .unset] [(.ref b23)])) st23 ?_
    refine own_go (b := T23.setTop (mkF m 15 #[iv (N.toInt32), iv 5, rv b23] [])) (fun t k => XS.astoreN X23.here hx rfl (hb hby d2_14) rfl rfl (l' := #[iv (N.toInt32), iv 5, rv b23]) rfl k) ?_
    refine own_go (b := T23.setTop (mkF m 16 #[iv (N.toInt32), iv 5, rv b23] [(.int (N.toInt32))])) (fun t k => XS.iloadN X23.here hx rfl (hb hby d2_15) rfl  k) ?_
    refine own_go (b := T23.setTop (mkF m 17 #[iv (N.toInt32), iv 5, rv b23] [(.int 5), (.int (N.toInt32))])) (fun t k => XS.iloadN X23.here hx rfl (hb hby d2_16) rfl  k) ?_
    refine own_go (b := T23.setTop (mkF m 18 #[iv (N.toInt32), iv 5, rv b23] [(.ref b23), (.int 5), (.int (N.toInt32))])) (fun t k => XS.aloadN X23.here hx rfl (hb hby d2_17) rfl rfl k) ?_
    obtain ⟨_, _, ⟨T24, L24, k24, n24⟩, -, X24, ⟨Lc24, hQ24, l24, y24, z24⟩, st24⟩ := Jvm.LawKit.callS X23 hx (y := (⟨"java/lang/Integer", "getChars", "(II[B)I"⟩ : MethodName)) hown (mvT hZ (hw _ (List.mem_of_getElem? (i := 17) rfl))) (mvT hZ (hw _ (List.mem_of_getElem? (i := 18) rfl))) (mvT hZ (hw _ (List.mem_of_getElem? (i := 9) rfl))) (mvT hZ (hw _ (List.mem_of_getElem? (i := 19) rfl))) (by decide) (backOf (W := 0) (rm4_5 l Z a0 hw [] (N.toInt32) (5 : Int32) b23 N k23 dO dT cO cT h23 n0 Zs23 rfl rfl hN hz3 hz4 SO ST AO AT hO hT V_b23 g_b23 Ol23) hZ (hw _ (List.mem_of_getElem? (i := 19) rfl)) (hw _ (List.mem_of_getElem? (i := 9) rfl)) (by decide) (by decide)) (g := (mkF m 18 #[iv (N.toInt32), iv 5, rv b23] [(.ref b23), (.int 5), (.int (N.toInt32))])) rfl (by rw [hml]; rfl) (argsL := [(.int (N.toInt32)), (.int 5), (.ref b23)]) (rest := []) (lenOf pd_2 rfl) rfl (by show 2 * 0 + _ ≤ _; exact Nat.le_of_eq rfl) (hb hby d2_18) (fun _ _ => ⟨rfl, e23, (by decide : 1 + 0 ≤ _), (by decide : 5 + 0 ≤ _)⟩)
    dsimp only [Pt.U, Pt.locs, Pt.cells, Pt.slots] at X24 l24 y24 z24 st24 hQ24
    subst l24 y24 z24
    obtain ⟨rfl, N24q, K24, Vd24⟩ := hQ24
    have Zs24 : n0 ≤ T24.heap.size := Nat.le_trans Zs23 K24.1
    have N24 := Fr.app N1 N24q
    have Kp24 : Keep h0 T24.heap [] := Kp23.trans K24 (by intro x hx; simp only [List.mem_cons, List.not_mem_nil, or_false] at hx; rcases hx with rfl <;> first | exact Or.inr (by assumption) | exact Or.inl (by simp))
    have Ol24 := Ol23.keep K24 (allS g_b23 all0)
    refine own_go (b := T24.setTop (mkF m 21 #[iv (N.toInt32), iv 5, rv b23] [(.int 0)])) st24 ?_
    refine own_go (b := T24.setTop (mkF m 22 #[iv (N.toInt32), iv 5, rv b23] [])) (fun t k => XS.pop X24.here hx rfl (hb hby d2_21) rfl rfl k) ?_
    obtain ⟨T25, h25, X25, e25, E25, A25, D25, -, st25⟩ := newO X24 hx hZ hown (hw _ (List.mem_of_getElem? (i := 21) rfl)) (hw _ (List.mem_of_getElem? (i := 22) rfl)) (hw _ (List.mem_of_getElem? (i := 15) rfl)) rfl (g := (mkF m 22 #[iv (N.toInt32), iv 5, rv b23] [])) rfl (hb hby d2_22) (by decide) (by decide)
    obtain ⟨b25, g25⟩ : ∃ z, z = T24.heap.size := ⟨_, rfl⟩
    rw [← g25] at A25 D25 st25
    have g_b25 : n0 ≤ b25 := Nat.le_trans Zs24 (Nat.le_of_eq g25.symm)
    have sz_b25 : h0.size ≤ b25 := Nat.le_trans Kp24.1 (Nat.le_of_eq g25.symm)
    have Zs25 : n0 ≤ h25.size := Nat.le_trans Zs24 E25.1
    have Kp25 : Keep h0 h25 [] := Kp24.ext E25
    have Ol25 := Ol24.ext E25
    have F_value_b25 : Fld Z h25 b25 "java/lang/String" "value" "[B" .null := D25 (Or.inr (hw _ (List.mem_of_getElem? (i := 31) rfl))) (ty := (.array .byte)) (by decide)
    have F_coder_b25 : Fld Z h25 b25 "java/lang/String" "coder" "B" (.int 0) := D25 (Or.inr (hw _ (List.mem_of_getElem? (i := 33) rfl))) (ty := .byte) (by decide)
    refine own_go (b := T25.setTop (mkF m 25 #[iv (N.toInt32), iv 5, rv b23] [(.ref b25)])) st25 ?_
    refine own_go (b := T25.setTop (mkF m 26 #[iv (N.toInt32), iv 5, rv b23] [(.ref b25), (.ref b25)])) (fun t k => XS.dup X25.here hx rfl (hb hby d2_25) rfl rfl k) ?_
    refine own_go (b := T25.setTop (mkF m 27 #[iv (N.toInt32), iv 5, rv b23] [(.ref b23), (.ref b25), (.ref b25)])) (fun t k => XS.aloadN X25.here hx rfl (hb hby d2_26) rfl rfl k) ?_
    refine own_go (b := T25.setTop (mkF m 28 #[iv (N.toInt32), iv 5, rv b23] [(.int 0), (.ref b23), (.ref b25), (.ref b25)])) (fun t k => XS.iconst X25.here hx rfl (hb hby d2_27) k) ?_
    obtain ⟨_, _, ⟨T26, L26, k26, n26⟩, -, X26, ⟨Lc26, hQ26, l26, y26, z26⟩, st26⟩ := X25.specialBack hx (y := (⟨"java/lang/String", "<init>", "([BB)V"⟩ : MethodName)) rfl hown (mvT hZ (hw _ (List.mem_of_getElem? (i := 23) rfl))) (mvT hZ (hw _ (List.mem_of_getElem? (i := 24) rfl))) (mvT hZ (hw _ (List.mem_of_getElem? (i := 26) rfl))) (by decide) (backOf (W := 1) (rm5 l Z a0 hw [] b25 b23 (0 : Int32)  h25 n0 Zs25 A25 F_value_b25 F_coder_b25 g_b25) hZ (hw _ (List.mem_of_getElem? (i := 26) rfl)) (hw _ (List.mem_of_getElem? (i := 15) rfl)) (by decide) (by decide)) (g := (mkF m 28 #[iv (N.toInt32), iv 5, rv b23] [(.int 0), (.ref b23), (.ref b25), (.ref b25)])) rfl (by rw [hml]; rfl) (Steps.refl _) (a := b25) (argsL := [(.ref b23), (.int 0)]) (rest := [(.ref b25)]) (lenOf pd_3 rfl) rfl (by show 2 * 0 + _ ≤ _; exact Nat.le_of_eq rfl) (hb hby d2_28) (fun _ _ => ⟨rfl, e25, (by decide : 2 + 0 ≤ _), (by decide : 9 + 0 ≤ _)⟩)
    dsimp only [Pt.U, Pt.locs, Pt.cells, Pt.slots] at X26 l26 y26 z26 st26 hQ26
    subst l26 y26 z26
    obtain ⟨rfl, N26q, K26, Ek26, Fv26, Fc26⟩ := hQ26
    have Zs26 : n0 ≤ T26.heap.size := Nat.le_trans Zs25 K26.1
    have N26 := Fr.app N24 N26q
    have Kp26 : Keep h0 T26.heap [] := Kp25.trans K26 (by intro x hx; simp only [List.mem_cons, List.not_mem_nil, or_false] at hx; rcases hx with rfl <;> first | exact Or.inr (by assumption) | exact Or.inl (by simp))
    have Ol26 := Ol25.keep K26 (allS g_b25 all0)
    refine own_tr (b := T26.setTop (mkF m 31 #[iv (N.toInt32), iv 5, rv b23] [(.ref b25)])) st26 ?_
    exact own_retA X26 hx hlk hrt rfl rfl (hb hby d2_31) (Nat.le_of_ble_eq_true rfl) (Nat.le_of_ble_eq_true rfl) (⟨b25, rfl, N26, Kp26, by rw [hz2]; exact ⟨b23, _, sz_b25, sz_b23, Ek26, Fv26, Fc26, by rw [own_digs_bytes, own_digs_len]; exact ((Vd24.ext E25).keep K26 (ninS (Nat.ne_of_lt (Nat.lt_of_lt_of_le (Vd24).lt (Nat.le_of_eq g25.symm))) nin0)), own_digs_lat N 5, by rw [own_digs_len]; decide⟩⟩)
  · rw [hz1]
    refine own_go (b := T1.setTop (mkF m 5 #[iv (N.toInt32), iv 6, .unset] [])) (fun t k => XS.istoreN X1.here hx rfl (hb hby d2_4) rfl (l' := #[iv (N.toInt32), iv 6, .unset]) rfl k) ?_
    obtain ⟨T27, X27, e27, st27⟩ := getS2 X1 hx hZ hown (host := "") (Or.inl (hw _ (List.mem_of_getElem? (i := 14) rfl))) Via.refl e1 (O2.ext Od.2) (g := (mkF m 5 #[iv (N.toInt32), iv 6, .unset] [])) rfl (hb hby d2_5)
    refine own_go (b := T27.setTop (mkF m 8 #[iv (N.toInt32), iv 6, .unset] [(.int G1)])) st27 ?_
    refine own_go (b := T27.setTop (mkF m 11 #[iv (N.toInt32), iv 6, .unset] [])) (fun t k => XS.ifNo X27.here hx rfl (hb hby d2_8) rfl ((if0 _ _).trans (feq P5).1) k) ?_
    refine own_go (b := T27.setTop (mkF m 12 #[iv (N.toInt32), iv 6, .unset] [(.int 6)])) (fun t k => XS.iloadN X27.here hx rfl (hb hby d2_11) rfl  k) ?_
    obtain ⟨T28, h28, k28, X28, e28, E28, A28, st28⟩ := newP X27 hx hZ (hw _ (List.mem_of_getElem? (i := 16) rfl)) e27 (g := (mkF m 12 #[iv (N.toInt32), iv 6, .unset] [(.int 6)])) rfl (hb hby d2_12) rfl (by decide) (cap := 6) (by decide) (by decide) (by decide) (by decide)
    obtain ⟨b28, g28⟩ : ∃ z, z = h0.size := ⟨_, rfl⟩
    rw [← g28] at A28 st28
    have g_b28 : n0 ≤ b28 := Nat.le_trans Z0 (Nat.le_of_eq g28.symm)
    have sz_b28 : h0.size ≤ b28 := Nat.le_trans (Keep.refl h0 []).1 (Nat.le_of_eq g28.symm)
    have Zs28 : n0 ≤ h28.size := Nat.le_trans Z0 E28.1
    have Kp28 : Keep h0 h28 [] := (Keep.refl h0 []).ext E28
    have Ol28 := Od.ext E28
    have V_b28 : Arv Z h28 b28 k28 .byte (6 : Int32) [(.int (0 : Int32)), (.int (0 : Int32)), (.int (0 : Int32)), (.int (0 : Int32)), (.int (0 : Int32)), (.int (0 : Int32))] (.int (0 : Int32)) := (Arv.new A28 (by decide)).pad (pad_rep [] (.int (0 : Int32)) 6)
    refine own_go (b := T28.setTop (mkF m 14 #[iv (N.toInt32), iv 6, .unset] [(.ref b28)])) st28 ?_
    refine own_go (b := T28.setTop (mkF m 15 #[iv (N.toInt32), iv 6, rv b28] [])) (fun t k => XS.astoreN X28.here hx rfl (hb hby d2_14) rfl rfl (l' := #[iv (N.toInt32), iv 6, rv b28]) rfl k) ?_
    refine own_go (b := T28.setTop (mkF m 16 #[iv (N.toInt32), iv 6, rv b28] [(.int (N.toInt32))])) (fun t k => XS.iloadN X28.here hx rfl (hb hby d2_15) rfl  k) ?_
    refine own_go (b := T28.setTop (mkF m 17 #[iv (N.toInt32), iv 6, rv b28] [(.int 6), (.int (N.toInt32))])) (fun t k => XS.iloadN X28.here hx rfl (hb hby d2_16) rfl  k) ?_
    refine own_go (b := T28.setTop (mkF m 18 #[iv (N.toInt32), iv 6, rv b28] [(.ref b28), (.int 6), (.int (N.toInt32))])) (fun t k => XS.aloadN X28.here hx rfl (hb hby d2_17) rfl rfl k) ?_
    obtain ⟨_, _, ⟨T29, L29, k29, n29⟩, -, X29, ⟨Lc29, hQ29, l29, y29, z29⟩, st29⟩ := Jvm.LawKit.callS X28 hx (y := (⟨"java/lang/Integer", "getChars", "(II[B)I"⟩ : MethodName)) hown (mvT hZ (hw _ (List.mem_of_getElem? (i := 17) rfl))) (mvT hZ (hw _ (List.mem_of_getElem? (i := 18) rfl))) (mvT hZ (hw _ (List.mem_of_getElem? (i := 9) rfl))) (mvT hZ (hw _ (List.mem_of_getElem? (i := 19) rfl))) (by decide) (backOf (W := 0) (rm4_6 l Z a0 hw [] (N.toInt32) (6 : Int32) b28 N k28 dO dT cO cT h28 n0 Zs28 rfl rfl hN hz3 hz4 SO ST AO AT hO hT V_b28 g_b28 Ol28) hZ (hw _ (List.mem_of_getElem? (i := 19) rfl)) (hw _ (List.mem_of_getElem? (i := 9) rfl)) (by decide) (by decide)) (g := (mkF m 18 #[iv (N.toInt32), iv 6, rv b28] [(.ref b28), (.int 6), (.int (N.toInt32))])) rfl (by rw [hml]; rfl) (argsL := [(.int (N.toInt32)), (.int 6), (.ref b28)]) (rest := []) (lenOf pd_2 rfl) rfl (by show 2 * 0 + _ ≤ _; exact Nat.le_of_eq rfl) (hb hby d2_18) (fun _ _ => ⟨rfl, e28, (by decide : 1 + 0 ≤ _), (by decide : 6 + 0 ≤ _)⟩)
    dsimp only [Pt.U, Pt.locs, Pt.cells, Pt.slots] at X29 l29 y29 z29 st29 hQ29
    subst l29 y29 z29
    obtain ⟨rfl, N29q, K29, Vd29⟩ := hQ29
    have Zs29 : n0 ≤ T29.heap.size := Nat.le_trans Zs28 K29.1
    have N29 := Fr.app N1 N29q
    have Kp29 : Keep h0 T29.heap [] := Kp28.trans K29 (by intro x hx; simp only [List.mem_cons, List.not_mem_nil, or_false] at hx; rcases hx with rfl <;> first | exact Or.inr (by assumption) | exact Or.inl (by simp))
    have Ol29 := Ol28.keep K29 (allS g_b28 all0)
    refine own_go (b := T29.setTop (mkF m 21 #[iv (N.toInt32), iv 6, rv b28] [(.int 0)])) st29 ?_
    refine own_go (b := T29.setTop (mkF m 22 #[iv (N.toInt32), iv 6, rv b28] [])) (fun t k => XS.pop X29.here hx rfl (hb hby d2_21) rfl rfl k) ?_
    obtain ⟨T30, h30, X30, e30, E30, A30, D30, -, st30⟩ := newO X29 hx hZ hown (hw _ (List.mem_of_getElem? (i := 21) rfl)) (hw _ (List.mem_of_getElem? (i := 22) rfl)) (hw _ (List.mem_of_getElem? (i := 15) rfl)) rfl (g := (mkF m 22 #[iv (N.toInt32), iv 6, rv b28] [])) rfl (hb hby d2_22) (by decide) (by decide)
    obtain ⟨b30, g30⟩ : ∃ z, z = T29.heap.size := ⟨_, rfl⟩
    rw [← g30] at A30 D30 st30
    have g_b30 : n0 ≤ b30 := Nat.le_trans Zs29 (Nat.le_of_eq g30.symm)
    have sz_b30 : h0.size ≤ b30 := Nat.le_trans Kp29.1 (Nat.le_of_eq g30.symm)
    have Zs30 : n0 ≤ h30.size := Nat.le_trans Zs29 E30.1
    have Kp30 : Keep h0 h30 [] := Kp29.ext E30
    have Ol30 := Ol29.ext E30
    have F_value_b30 : Fld Z h30 b30 "java/lang/String" "value" "[B" .null := D30 (Or.inr (hw _ (List.mem_of_getElem? (i := 31) rfl))) (ty := (.array .byte)) (by decide)
    have F_coder_b30 : Fld Z h30 b30 "java/lang/String" "coder" "B" (.int 0) := D30 (Or.inr (hw _ (List.mem_of_getElem? (i := 33) rfl))) (ty := .byte) (by decide)
    refine own_go (b := T30.setTop (mkF m 25 #[iv (N.toInt32), iv 6, rv b28] [(.ref b30)])) st30 ?_
    refine own_go (b := T30.setTop (mkF m 26 #[iv (N.toInt32), iv 6, rv b28] [(.ref b30), (.ref b30)])) (fun t k => XS.dup X30.here hx rfl (hb hby d2_25) rfl rfl k) ?_
    refine own_go (b := T30.setTop (mkF m 27 #[iv (N.toInt32), iv 6, rv b28] [(.ref b28), (.ref b30), (.ref b30)])) (fun t k => XS.aloadN X30.here hx rfl (hb hby d2_26) rfl rfl k) ?_
    refine own_go (b := T30.setTop (mkF m 28 #[iv (N.toInt32), iv 6, rv b28] [(.int 0), (.ref b28), (.ref b30), (.ref b30)])) (fun t k => XS.iconst X30.here hx rfl (hb hby d2_27) k) ?_
    obtain ⟨_, _, ⟨T31, L31, k31, n31⟩, -, X31, ⟨Lc31, hQ31, l31, y31, z31⟩, st31⟩ := X30.specialBack hx (y := (⟨"java/lang/String", "<init>", "([BB)V"⟩ : MethodName)) rfl hown (mvT hZ (hw _ (List.mem_of_getElem? (i := 23) rfl))) (mvT hZ (hw _ (List.mem_of_getElem? (i := 24) rfl))) (mvT hZ (hw _ (List.mem_of_getElem? (i := 26) rfl))) (by decide) (backOf (W := 1) (rm5 l Z a0 hw [] b30 b28 (0 : Int32)  h30 n0 Zs30 A30 F_value_b30 F_coder_b30 g_b30) hZ (hw _ (List.mem_of_getElem? (i := 26) rfl)) (hw _ (List.mem_of_getElem? (i := 15) rfl)) (by decide) (by decide)) (g := (mkF m 28 #[iv (N.toInt32), iv 6, rv b28] [(.int 0), (.ref b28), (.ref b30), (.ref b30)])) rfl (by rw [hml]; rfl) (Steps.refl _) (a := b30) (argsL := [(.ref b28), (.int 0)]) (rest := [(.ref b30)]) (lenOf pd_3 rfl) rfl (by show 2 * 0 + _ ≤ _; exact Nat.le_of_eq rfl) (hb hby d2_28) (fun _ _ => ⟨rfl, e30, (by decide : 2 + 0 ≤ _), (by decide : 10 + 0 ≤ _)⟩)
    dsimp only [Pt.U, Pt.locs, Pt.cells, Pt.slots] at X31 l31 y31 z31 st31 hQ31
    subst l31 y31 z31
    obtain ⟨rfl, N31q, K31, Ek31, Fv31, Fc31⟩ := hQ31
    have Zs31 : n0 ≤ T31.heap.size := Nat.le_trans Zs30 K31.1
    have N31 := Fr.app N29 N31q
    have Kp31 : Keep h0 T31.heap [] := Kp30.trans K31 (by intro x hx; simp only [List.mem_cons, List.not_mem_nil, or_false] at hx; rcases hx with rfl <;> first | exact Or.inr (by assumption) | exact Or.inl (by simp))
    have Ol31 := Ol30.keep K31 (allS g_b30 all0)
    refine own_tr (b := T31.setTop (mkF m 31 #[iv (N.toInt32), iv 6, rv b28] [(.ref b30)])) st31 ?_
    exact own_retA X31 hx hlk hrt rfl rfl (hb hby d2_31) (Nat.le_of_ble_eq_true rfl) (Nat.le_of_ble_eq_true rfl) (⟨b30, rfl, N31, Kp31, by rw [hz2]; exact ⟨b28, _, sz_b30, sz_b28, Ek31, Fv31, Fc31, by rw [own_digs_bytes, own_digs_len]; exact ((Vd29.ext E30).keep K31 (ninS (Nat.ne_of_lt (Nat.lt_of_lt_of_le (Vd29).lt (Nat.le_of_eq g30.symm))) nin0)), own_digs_lat N 6, by rw [own_digs_len]; decide⟩⟩)
  · rw [hz1]
    refine own_go (b := T1.setTop (mkF m 5 #[iv (N.toInt32), iv 7, .unset] [])) (fun t k => XS.istoreN X1.here hx rfl (hb hby d2_4) rfl (l' := #[iv (N.toInt32), iv 7, .unset]) rfl k) ?_
    obtain ⟨T32, X32, e32, st32⟩ := getS2 X1 hx hZ hown (host := "") (Or.inl (hw _ (List.mem_of_getElem? (i := 14) rfl))) Via.refl e1 (O2.ext Od.2) (g := (mkF m 5 #[iv (N.toInt32), iv 7, .unset] [])) rfl (hb hby d2_5)
    refine own_go (b := T32.setTop (mkF m 8 #[iv (N.toInt32), iv 7, .unset] [(.int G1)])) st32 ?_
    refine own_go (b := T32.setTop (mkF m 11 #[iv (N.toInt32), iv 7, .unset] [])) (fun t k => XS.ifNo X32.here hx rfl (hb hby d2_8) rfl ((if0 _ _).trans (feq P5).1) k) ?_
    refine own_go (b := T32.setTop (mkF m 12 #[iv (N.toInt32), iv 7, .unset] [(.int 7)])) (fun t k => XS.iloadN X32.here hx rfl (hb hby d2_11) rfl  k) ?_
    obtain ⟨T33, h33, k33, X33, e33, E33, A33, st33⟩ := newP X32 hx hZ (hw _ (List.mem_of_getElem? (i := 16) rfl)) e32 (g := (mkF m 12 #[iv (N.toInt32), iv 7, .unset] [(.int 7)])) rfl (hb hby d2_12) rfl (by decide) (cap := 7) (by decide) (by decide) (by decide) (by decide)
    obtain ⟨b33, g33⟩ : ∃ z, z = h0.size := ⟨_, rfl⟩
    rw [← g33] at A33 st33
    have g_b33 : n0 ≤ b33 := Nat.le_trans Z0 (Nat.le_of_eq g33.symm)
    have sz_b33 : h0.size ≤ b33 := Nat.le_trans (Keep.refl h0 []).1 (Nat.le_of_eq g33.symm)
    have Zs33 : n0 ≤ h33.size := Nat.le_trans Z0 E33.1
    have Kp33 : Keep h0 h33 [] := (Keep.refl h0 []).ext E33
    have Ol33 := Od.ext E33
    have V_b33 : Arv Z h33 b33 k33 .byte (7 : Int32) [(.int (0 : Int32)), (.int (0 : Int32)), (.int (0 : Int32)), (.int (0 : Int32)), (.int (0 : Int32)), (.int (0 : Int32)), (.int (0 : Int32))] (.int (0 : Int32)) := (Arv.new A33 (by decide)).pad (pad_rep [] (.int (0 : Int32)) 7)
    refine own_go (b := T33.setTop (mkF m 14 #[iv (N.toInt32), iv 7, .unset] [(.ref b33)])) st33 ?_
    refine own_go (b := T33.setTop (mkF m 15 #[iv (N.toInt32), iv 7, rv b33] [])) (fun t k => XS.astoreN X33.here hx rfl (hb hby d2_14) rfl rfl (l' := #[iv (N.toInt32), iv 7, rv b33]) rfl k) ?_
    refine own_go (b := T33.setTop (mkF m 16 #[iv (N.toInt32), iv 7, rv b33] [(.int (N.toInt32))])) (fun t k => XS.iloadN X33.here hx rfl (hb hby d2_15) rfl  k) ?_
    refine own_go (b := T33.setTop (mkF m 17 #[iv (N.toInt32), iv 7, rv b33] [(.int 7), (.int (N.toInt32))])) (fun t k => XS.iloadN X33.here hx rfl (hb hby d2_16) rfl  k) ?_
    refine own_go (b := T33.setTop (mkF m 18 #[iv (N.toInt32), iv 7, rv b33] [(.ref b33), (.int 7), (.int (N.toInt32))])) (fun t k => XS.aloadN X33.here hx rfl (hb hby d2_17) rfl rfl k) ?_
    obtain ⟨_, _, ⟨T34, L34, k34, n34⟩, -, X34, ⟨Lc34, hQ34, l34, y34, z34⟩, st34⟩ := Jvm.LawKit.callS X33 hx (y := (⟨"java/lang/Integer", "getChars", "(II[B)I"⟩ : MethodName)) hown (mvT hZ (hw _ (List.mem_of_getElem? (i := 17) rfl))) (mvT hZ (hw _ (List.mem_of_getElem? (i := 18) rfl))) (mvT hZ (hw _ (List.mem_of_getElem? (i := 9) rfl))) (mvT hZ (hw _ (List.mem_of_getElem? (i := 19) rfl))) (by decide) (backOf (W := 0) (rm4_7 l Z a0 hw [] (N.toInt32) (7 : Int32) b33 N k33 dO dT cO cT h33 n0 Zs33 rfl rfl hN hz3 hz4 SO ST AO AT hO hT V_b33 g_b33 Ol33) hZ (hw _ (List.mem_of_getElem? (i := 19) rfl)) (hw _ (List.mem_of_getElem? (i := 9) rfl)) (by decide) (by decide)) (g := (mkF m 18 #[iv (N.toInt32), iv 7, rv b33] [(.ref b33), (.int 7), (.int (N.toInt32))])) rfl (by rw [hml]; rfl) (argsL := [(.int (N.toInt32)), (.int 7), (.ref b33)]) (rest := []) (lenOf pd_2 rfl) rfl (by show 2 * 0 + _ ≤ _; exact Nat.le_of_eq rfl) (hb hby d2_18) (fun _ _ => ⟨rfl, e33, (by decide : 1 + 0 ≤ _), (by decide : 7 + 0 ≤ _)⟩)
    dsimp only [Pt.U, Pt.locs, Pt.cells, Pt.slots] at X34 l34 y34 z34 st34 hQ34
    subst l34 y34 z34
    obtain ⟨rfl, N34q, K34, Vd34⟩ := hQ34
    have Zs34 : n0 ≤ T34.heap.size := Nat.le_trans Zs33 K34.1
    have N34 := Fr.app N1 N34q
    have Kp34 : Keep h0 T34.heap [] := Kp33.trans K34 (by intro x hx; simp only [List.mem_cons, List.not_mem_nil, or_false] at hx; rcases hx with rfl <;> first | exact Or.inr (by assumption) | exact Or.inl (by simp))
    have Ol34 := Ol33.keep K34 (allS g_b33 all0)
    refine own_go (b := T34.setTop (mkF m 21 #[iv (N.toInt32), iv 7, rv b33] [(.int 0)])) st34 ?_
    refine own_go (b := T34.setTop (mkF m 22 #[iv (N.toInt32), iv 7, rv b33] [])) (fun t k => XS.pop X34.here hx rfl (hb hby d2_21) rfl rfl k) ?_
    obtain ⟨T35, h35, X35, e35, E35, A35, D35, -, st35⟩ := newO X34 hx hZ hown (hw _ (List.mem_of_getElem? (i := 21) rfl)) (hw _ (List.mem_of_getElem? (i := 22) rfl)) (hw _ (List.mem_of_getElem? (i := 15) rfl)) rfl (g := (mkF m 22 #[iv (N.toInt32), iv 7, rv b33] [])) rfl (hb hby d2_22) (by decide) (by decide)
    obtain ⟨b35, g35⟩ : ∃ z, z = T34.heap.size := ⟨_, rfl⟩
    rw [← g35] at A35 D35 st35
    have g_b35 : n0 ≤ b35 := Nat.le_trans Zs34 (Nat.le_of_eq g35.symm)
    have sz_b35 : h0.size ≤ b35 := Nat.le_trans Kp34.1 (Nat.le_of_eq g35.symm)
    have Zs35 : n0 ≤ h35.size := Nat.le_trans Zs34 E35.1
    have Kp35 : Keep h0 h35 [] := Kp34.ext E35
    have Ol35 := Ol34.ext E35
    have F_value_b35 : Fld Z h35 b35 "java/lang/String" "value" "[B" .null := D35 (Or.inr (hw _ (List.mem_of_getElem? (i := 31) rfl))) (ty := (.array .byte)) (by decide)
    have F_coder_b35 : Fld Z h35 b35 "java/lang/String" "coder" "B" (.int 0) := D35 (Or.inr (hw _ (List.mem_of_getElem? (i := 33) rfl))) (ty := .byte) (by decide)
    refine own_go (b := T35.setTop (mkF m 25 #[iv (N.toInt32), iv 7, rv b33] [(.ref b35)])) st35 ?_
    refine own_go (b := T35.setTop (mkF m 26 #[iv (N.toInt32), iv 7, rv b33] [(.ref b35), (.ref b35)])) (fun t k => XS.dup X35.here hx rfl (hb hby d2_25) rfl rfl k) ?_
    refine own_go (b := T35.setTop (mkF m 27 #[iv (N.toInt32), iv 7, rv b33] [(.ref b33), (.ref b35), (.ref b35)])) (fun t k => XS.aloadN X35.here hx rfl (hb hby d2_26) rfl rfl k) ?_
    refine own_go (b := T35.setTop (mkF m 28 #[iv (N.toInt32), iv 7, rv b33] [(.int 0), (.ref b33), (.ref b35), (.ref b35)])) (fun t k => XS.iconst X35.here hx rfl (hb hby d2_27) k) ?_
    obtain ⟨_, _, ⟨T36, L36, k36, n36⟩, -, X36, ⟨Lc36, hQ36, l36, y36, z36⟩, st36⟩ := X35.specialBack hx (y := (⟨"java/lang/String", "<init>", "([BB)V"⟩ : MethodName)) rfl hown (mvT hZ (hw _ (List.mem_of_getElem? (i := 23) rfl))) (mvT hZ (hw _ (List.mem_of_getElem? (i := 24) rfl))) (mvT hZ (hw _ (List.mem_of_getElem? (i := 26) rfl))) (by decide) (backOf (W := 1) (rm5 l Z a0 hw [] b35 b33 (0 : Int32)  h35 n0 Zs35 A35 F_value_b35 F_coder_b35 g_b35) hZ (hw _ (List.mem_of_getElem? (i := 26) rfl)) (hw _ (List.mem_of_getElem? (i := 15) rfl)) (by decide) (by decide)) (g := (mkF m 28 #[iv (N.toInt32), iv 7, rv b33] [(.int 0), (.ref b33), (.ref b35), (.ref b35)])) rfl (by rw [hml]; rfl) (Steps.refl _) (a := b35) (argsL := [(.ref b33), (.int 0)]) (rest := [(.ref b35)]) (lenOf pd_3 rfl) rfl (by show 2 * 0 + _ ≤ _; exact Nat.le_of_eq rfl) (hb hby d2_28) (fun _ _ => ⟨rfl, e35, (by decide : 2 + 0 ≤ _), (by decide : 11 + 0 ≤ _)⟩)
    dsimp only [Pt.U, Pt.locs, Pt.cells, Pt.slots] at X36 l36 y36 z36 st36 hQ36
    subst l36 y36 z36
    obtain ⟨rfl, N36q, K36, Ek36, Fv36, Fc36⟩ := hQ36
    have Zs36 : n0 ≤ T36.heap.size := Nat.le_trans Zs35 K36.1
    have N36 := Fr.app N34 N36q
    have Kp36 : Keep h0 T36.heap [] := Kp35.trans K36 (by intro x hx; simp only [List.mem_cons, List.not_mem_nil, or_false] at hx; rcases hx with rfl <;> first | exact Or.inr (by assumption) | exact Or.inl (by simp))
    have Ol36 := Ol35.keep K36 (allS g_b35 all0)
    refine own_tr (b := T36.setTop (mkF m 31 #[iv (N.toInt32), iv 7, rv b33] [(.ref b35)])) st36 ?_
    exact own_retA X36 hx hlk hrt rfl rfl (hb hby d2_31) (Nat.le_of_ble_eq_true rfl) (Nat.le_of_ble_eq_true rfl) (⟨b35, rfl, N36, Kp36, by rw [hz2]; exact ⟨b33, _, sz_b35, sz_b33, Ek36, Fv36, Fc36, by rw [own_digs_bytes, own_digs_len]; exact ((Vd34.ext E35).keep K36 (ninS (Nat.ne_of_lt (Nat.lt_of_lt_of_le (Vd34).lt (Nat.le_of_eq g35.symm))) nin0)), own_digs_lat N 7, by rw [own_digs_len]; decide⟩⟩)
  · rw [hz1]
    refine own_go (b := T1.setTop (mkF m 5 #[iv (N.toInt32), iv 8, .unset] [])) (fun t k => XS.istoreN X1.here hx rfl (hb hby d2_4) rfl (l' := #[iv (N.toInt32), iv 8, .unset]) rfl k) ?_
    obtain ⟨T37, X37, e37, st37⟩ := getS2 X1 hx hZ hown (host := "") (Or.inl (hw _ (List.mem_of_getElem? (i := 14) rfl))) Via.refl e1 (O2.ext Od.2) (g := (mkF m 5 #[iv (N.toInt32), iv 8, .unset] [])) rfl (hb hby d2_5)
    refine own_go (b := T37.setTop (mkF m 8 #[iv (N.toInt32), iv 8, .unset] [(.int G1)])) st37 ?_
    refine own_go (b := T37.setTop (mkF m 11 #[iv (N.toInt32), iv 8, .unset] [])) (fun t k => XS.ifNo X37.here hx rfl (hb hby d2_8) rfl ((if0 _ _).trans (feq P5).1) k) ?_
    refine own_go (b := T37.setTop (mkF m 12 #[iv (N.toInt32), iv 8, .unset] [(.int 8)])) (fun t k => XS.iloadN X37.here hx rfl (hb hby d2_11) rfl  k) ?_
    obtain ⟨T38, h38, k38, X38, e38, E38, A38, st38⟩ := newP X37 hx hZ (hw _ (List.mem_of_getElem? (i := 16) rfl)) e37 (g := (mkF m 12 #[iv (N.toInt32), iv 8, .unset] [(.int 8)])) rfl (hb hby d2_12) rfl (by decide) (cap := 8) (by decide) (by decide) (by decide) (by decide)
    obtain ⟨b38, g38⟩ : ∃ z, z = h0.size := ⟨_, rfl⟩
    rw [← g38] at A38 st38
    have g_b38 : n0 ≤ b38 := Nat.le_trans Z0 (Nat.le_of_eq g38.symm)
    have sz_b38 : h0.size ≤ b38 := Nat.le_trans (Keep.refl h0 []).1 (Nat.le_of_eq g38.symm)
    have Zs38 : n0 ≤ h38.size := Nat.le_trans Z0 E38.1
    have Kp38 : Keep h0 h38 [] := (Keep.refl h0 []).ext E38
    have Ol38 := Od.ext E38
    have V_b38 : Arv Z h38 b38 k38 .byte (8 : Int32) [(.int (0 : Int32)), (.int (0 : Int32)), (.int (0 : Int32)), (.int (0 : Int32)), (.int (0 : Int32)), (.int (0 : Int32)), (.int (0 : Int32)), (.int (0 : Int32))] (.int (0 : Int32)) := (Arv.new A38 (by decide)).pad (pad_rep [] (.int (0 : Int32)) 8)
    refine own_go (b := T38.setTop (mkF m 14 #[iv (N.toInt32), iv 8, .unset] [(.ref b38)])) st38 ?_
    refine own_go (b := T38.setTop (mkF m 15 #[iv (N.toInt32), iv 8, rv b38] [])) (fun t k => XS.astoreN X38.here hx rfl (hb hby d2_14) rfl rfl (l' := #[iv (N.toInt32), iv 8, rv b38]) rfl k) ?_
    refine own_go (b := T38.setTop (mkF m 16 #[iv (N.toInt32), iv 8, rv b38] [(.int (N.toInt32))])) (fun t k => XS.iloadN X38.here hx rfl (hb hby d2_15) rfl  k) ?_
    refine own_go (b := T38.setTop (mkF m 17 #[iv (N.toInt32), iv 8, rv b38] [(.int 8), (.int (N.toInt32))])) (fun t k => XS.iloadN X38.here hx rfl (hb hby d2_16) rfl  k) ?_
    refine own_go (b := T38.setTop (mkF m 18 #[iv (N.toInt32), iv 8, rv b38] [(.ref b38), (.int 8), (.int (N.toInt32))])) (fun t k => XS.aloadN X38.here hx rfl (hb hby d2_17) rfl rfl k) ?_
    obtain ⟨_, _, ⟨T39, L39, k39, n39⟩, -, X39, ⟨Lc39, hQ39, l39, y39, z39⟩, st39⟩ := Jvm.LawKit.callS X38 hx (y := (⟨"java/lang/Integer", "getChars", "(II[B)I"⟩ : MethodName)) hown (mvT hZ (hw _ (List.mem_of_getElem? (i := 17) rfl))) (mvT hZ (hw _ (List.mem_of_getElem? (i := 18) rfl))) (mvT hZ (hw _ (List.mem_of_getElem? (i := 9) rfl))) (mvT hZ (hw _ (List.mem_of_getElem? (i := 19) rfl))) (by decide) (backOf (W := 0) (rm4_8 l Z a0 hw [] (N.toInt32) (8 : Int32) b38 N k38 dO dT cO cT h38 n0 Zs38 rfl rfl hN hz3 hz4 SO ST AO AT hO hT V_b38 g_b38 Ol38) hZ (hw _ (List.mem_of_getElem? (i := 19) rfl)) (hw _ (List.mem_of_getElem? (i := 9) rfl)) (by decide) (by decide)) (g := (mkF m 18 #[iv (N.toInt32), iv 8, rv b38] [(.ref b38), (.int 8), (.int (N.toInt32))])) rfl (by rw [hml]; rfl) (argsL := [(.int (N.toInt32)), (.int 8), (.ref b38)]) (rest := []) (lenOf pd_2 rfl) rfl (by show 2 * 0 + _ ≤ _; exact Nat.le_of_eq rfl) (hb hby d2_18) (fun _ _ => ⟨rfl, e38, (by decide : 1 + 0 ≤ _), (by decide : 8 + 0 ≤ _)⟩)
    dsimp only [Pt.U, Pt.locs, Pt.cells, Pt.slots] at X39 l39 y39 z39 st39 hQ39
    subst l39 y39 z39
    obtain ⟨rfl, N39q, K39, Vd39⟩ := hQ39
    have Zs39 : n0 ≤ T39.heap.size := Nat.le_trans Zs38 K39.1
    have N39 := Fr.app N1 N39q
    have Kp39 : Keep h0 T39.heap [] := Kp38.trans K39 (by intro x hx; simp only [List.mem_cons, List.not_mem_nil, or_false] at hx; rcases hx with rfl <;> first | exact Or.inr (by assumption) | exact Or.inl (by simp))
    have Ol39 := Ol38.keep K39 (allS g_b38 all0)
    refine own_go (b := T39.setTop (mkF m 21 #[iv (N.toInt32), iv 8, rv b38] [(.int 0)])) st39 ?_
    refine own_go (b := T39.setTop (mkF m 22 #[iv (N.toInt32), iv 8, rv b38] [])) (fun t k => XS.pop X39.here hx rfl (hb hby d2_21) rfl rfl k) ?_
    obtain ⟨T40, h40, X40, e40, E40, A40, D40, -, st40⟩ := newO X39 hx hZ hown (hw _ (List.mem_of_getElem? (i := 21) rfl)) (hw _ (List.mem_of_getElem? (i := 22) rfl)) (hw _ (List.mem_of_getElem? (i := 15) rfl)) rfl (g := (mkF m 22 #[iv (N.toInt32), iv 8, rv b38] [])) rfl (hb hby d2_22) (by decide) (by decide)
    obtain ⟨b40, g40⟩ : ∃ z, z = T39.heap.size := ⟨_, rfl⟩
    rw [← g40] at A40 D40 st40
    have g_b40 : n0 ≤ b40 := Nat.le_trans Zs39 (Nat.le_of_eq g40.symm)
    have sz_b40 : h0.size ≤ b40 := Nat.le_trans Kp39.1 (Nat.le_of_eq g40.symm)
    have Zs40 : n0 ≤ h40.size := Nat.le_trans Zs39 E40.1
    have Kp40 : Keep h0 h40 [] := Kp39.ext E40
    have Ol40 := Ol39.ext E40
    have F_value_b40 : Fld Z h40 b40 "java/lang/String" "value" "[B" .null := D40 (Or.inr (hw _ (List.mem_of_getElem? (i := 31) rfl))) (ty := (.array .byte)) (by decide)
    have F_coder_b40 : Fld Z h40 b40 "java/lang/String" "coder" "B" (.int 0) := D40 (Or.inr (hw _ (List.mem_of_getElem? (i := 33) rfl))) (ty := .byte) (by decide)
    refine own_go (b := T40.setTop (mkF m 25 #[iv (N.toInt32), iv 8, rv b38] [(.ref b40)])) st40 ?_
    refine own_go (b := T40.setTop (mkF m 26 #[iv (N.toInt32), iv 8, rv b38] [(.ref b40), (.ref b40)])) (fun t k => XS.dup X40.here hx rfl (hb hby d2_25) rfl rfl k) ?_
    refine own_go (b := T40.setTop (mkF m 27 #[iv (N.toInt32), iv 8, rv b38] [(.ref b38), (.ref b40), (.ref b40)])) (fun t k => XS.aloadN X40.here hx rfl (hb hby d2_26) rfl rfl k) ?_
    refine own_go (b := T40.setTop (mkF m 28 #[iv (N.toInt32), iv 8, rv b38] [(.int 0), (.ref b38), (.ref b40), (.ref b40)])) (fun t k => XS.iconst X40.here hx rfl (hb hby d2_27) k) ?_
    obtain ⟨_, _, ⟨T41, L41, k41, n41⟩, -, X41, ⟨Lc41, hQ41, l41, y41, z41⟩, st41⟩ := X40.specialBack hx (y := (⟨"java/lang/String", "<init>", "([BB)V"⟩ : MethodName)) rfl hown (mvT hZ (hw _ (List.mem_of_getElem? (i := 23) rfl))) (mvT hZ (hw _ (List.mem_of_getElem? (i := 24) rfl))) (mvT hZ (hw _ (List.mem_of_getElem? (i := 26) rfl))) (by decide) (backOf (W := 1) (rm5 l Z a0 hw [] b40 b38 (0 : Int32)  h40 n0 Zs40 A40 F_value_b40 F_coder_b40 g_b40) hZ (hw _ (List.mem_of_getElem? (i := 26) rfl)) (hw _ (List.mem_of_getElem? (i := 15) rfl)) (by decide) (by decide)) (g := (mkF m 28 #[iv (N.toInt32), iv 8, rv b38] [(.int 0), (.ref b38), (.ref b40), (.ref b40)])) rfl (by rw [hml]; rfl) (Steps.refl _) (a := b40) (argsL := [(.ref b38), (.int 0)]) (rest := [(.ref b40)]) (lenOf pd_3 rfl) rfl (by show 2 * 0 + _ ≤ _; exact Nat.le_of_eq rfl) (hb hby d2_28) (fun _ _ => ⟨rfl, e40, (by decide : 2 + 0 ≤ _), (by decide : 12 + 0 ≤ _)⟩)
    dsimp only [Pt.U, Pt.locs, Pt.cells, Pt.slots] at X41 l41 y41 z41 st41 hQ41
    subst l41 y41 z41
    obtain ⟨rfl, N41q, K41, Ek41, Fv41, Fc41⟩ := hQ41
    have Zs41 : n0 ≤ T41.heap.size := Nat.le_trans Zs40 K41.1
    have N41 := Fr.app N39 N41q
    have Kp41 : Keep h0 T41.heap [] := Kp40.trans K41 (by intro x hx; simp only [List.mem_cons, List.not_mem_nil, or_false] at hx; rcases hx with rfl <;> first | exact Or.inr (by assumption) | exact Or.inl (by simp))
    have Ol41 := Ol40.keep K41 (allS g_b40 all0)
    refine own_tr (b := T41.setTop (mkF m 31 #[iv (N.toInt32), iv 8, rv b38] [(.ref b40)])) st41 ?_
    exact own_retA X41 hx hlk hrt rfl rfl (hb hby d2_31) (Nat.le_of_ble_eq_true rfl) (Nat.le_of_ble_eq_true rfl) (⟨b40, rfl, N41, Kp41, by rw [hz2]; exact ⟨b38, _, sz_b40, sz_b38, Ek41, Fv41, Fc41, by rw [own_digs_bytes, own_digs_len]; exact ((Vd39.ext E40).keep K41 (ninS (Nat.ne_of_lt (Nat.lt_of_lt_of_le (Vd39).lt (Nat.le_of_eq g40.symm))) nin0)), own_digs_lat N 8, by rw [own_digs_len]; decide⟩⟩)
  · rw [hz1]
    refine own_go (b := T1.setTop (mkF m 5 #[iv (N.toInt32), iv 9, .unset] [])) (fun t k => XS.istoreN X1.here hx rfl (hb hby d2_4) rfl (l' := #[iv (N.toInt32), iv 9, .unset]) rfl k) ?_
    obtain ⟨T42, X42, e42, st42⟩ := getS2 X1 hx hZ hown (host := "") (Or.inl (hw _ (List.mem_of_getElem? (i := 14) rfl))) Via.refl e1 (O2.ext Od.2) (g := (mkF m 5 #[iv (N.toInt32), iv 9, .unset] [])) rfl (hb hby d2_5)
    refine own_go (b := T42.setTop (mkF m 8 #[iv (N.toInt32), iv 9, .unset] [(.int G1)])) st42 ?_
    refine own_go (b := T42.setTop (mkF m 11 #[iv (N.toInt32), iv 9, .unset] [])) (fun t k => XS.ifNo X42.here hx rfl (hb hby d2_8) rfl ((if0 _ _).trans (feq P5).1) k) ?_
    refine own_go (b := T42.setTop (mkF m 12 #[iv (N.toInt32), iv 9, .unset] [(.int 9)])) (fun t k => XS.iloadN X42.here hx rfl (hb hby d2_11) rfl  k) ?_
    obtain ⟨T43, h43, k43, X43, e43, E43, A43, st43⟩ := newP X42 hx hZ (hw _ (List.mem_of_getElem? (i := 16) rfl)) e42 (g := (mkF m 12 #[iv (N.toInt32), iv 9, .unset] [(.int 9)])) rfl (hb hby d2_12) rfl (by decide) (cap := 9) (by decide) (by decide) (by decide) (by decide)
    obtain ⟨b43, g43⟩ : ∃ z, z = h0.size := ⟨_, rfl⟩
    rw [← g43] at A43 st43
    have g_b43 : n0 ≤ b43 := Nat.le_trans Z0 (Nat.le_of_eq g43.symm)
    have sz_b43 : h0.size ≤ b43 := Nat.le_trans (Keep.refl h0 []).1 (Nat.le_of_eq g43.symm)
    have Zs43 : n0 ≤ h43.size := Nat.le_trans Z0 E43.1
    have Kp43 : Keep h0 h43 [] := (Keep.refl h0 []).ext E43
    have Ol43 := Od.ext E43
    have V_b43 : Arv Z h43 b43 k43 .byte (9 : Int32) [(.int (0 : Int32)), (.int (0 : Int32)), (.int (0 : Int32)), (.int (0 : Int32)), (.int (0 : Int32)), (.int (0 : Int32)), (.int (0 : Int32)), (.int (0 : Int32)), (.int (0 : Int32))] (.int (0 : Int32)) := (Arv.new A43 (by decide)).pad (pad_rep [] (.int (0 : Int32)) 9)
    refine own_go (b := T43.setTop (mkF m 14 #[iv (N.toInt32), iv 9, .unset] [(.ref b43)])) st43 ?_
    refine own_go (b := T43.setTop (mkF m 15 #[iv (N.toInt32), iv 9, rv b43] [])) (fun t k => XS.astoreN X43.here hx rfl (hb hby d2_14) rfl rfl (l' := #[iv (N.toInt32), iv 9, rv b43]) rfl k) ?_
    refine own_go (b := T43.setTop (mkF m 16 #[iv (N.toInt32), iv 9, rv b43] [(.int (N.toInt32))])) (fun t k => XS.iloadN X43.here hx rfl (hb hby d2_15) rfl  k) ?_
    refine own_go (b := T43.setTop (mkF m 17 #[iv (N.toInt32), iv 9, rv b43] [(.int 9), (.int (N.toInt32))])) (fun t k => XS.iloadN X43.here hx rfl (hb hby d2_16) rfl  k) ?_
    refine own_go (b := T43.setTop (mkF m 18 #[iv (N.toInt32), iv 9, rv b43] [(.ref b43), (.int 9), (.int (N.toInt32))])) (fun t k => XS.aloadN X43.here hx rfl (hb hby d2_17) rfl rfl k) ?_
    obtain ⟨_, _, ⟨T44, L44, k44, n44⟩, -, X44, ⟨Lc44, hQ44, l44, y44, z44⟩, st44⟩ := Jvm.LawKit.callS X43 hx (y := (⟨"java/lang/Integer", "getChars", "(II[B)I"⟩ : MethodName)) hown (mvT hZ (hw _ (List.mem_of_getElem? (i := 17) rfl))) (mvT hZ (hw _ (List.mem_of_getElem? (i := 18) rfl))) (mvT hZ (hw _ (List.mem_of_getElem? (i := 9) rfl))) (mvT hZ (hw _ (List.mem_of_getElem? (i := 19) rfl))) (by decide) (backOf (W := 0) (rm4_9 l Z a0 hw [] (N.toInt32) (9 : Int32) b43 N k43 dO dT cO cT h43 n0 Zs43 rfl rfl hN hz3 hz4 SO ST AO AT hO hT V_b43 g_b43 Ol43) hZ (hw _ (List.mem_of_getElem? (i := 19) rfl)) (hw _ (List.mem_of_getElem? (i := 9) rfl)) (by decide) (by decide)) (g := (mkF m 18 #[iv (N.toInt32), iv 9, rv b43] [(.ref b43), (.int 9), (.int (N.toInt32))])) rfl (by rw [hml]; rfl) (argsL := [(.int (N.toInt32)), (.int 9), (.ref b43)]) (rest := []) (lenOf pd_2 rfl) rfl (by show 2 * 0 + _ ≤ _; exact Nat.le_of_eq rfl) (hb hby d2_18) (fun _ _ => ⟨rfl, e43, (by decide : 1 + 0 ≤ _), (by decide : 9 + 0 ≤ _)⟩)
    dsimp only [Pt.U, Pt.locs, Pt.cells, Pt.slots] at X44 l44 y44 z44 st44 hQ44
    subst l44 y44 z44
    obtain ⟨rfl, N44q, K44, Vd44⟩ := hQ44
    have Zs44 : n0 ≤ T44.heap.size := Nat.le_trans Zs43 K44.1
    have N44 := Fr.app N1 N44q
    have Kp44 : Keep h0 T44.heap [] := Kp43.trans K44 (by intro x hx; simp only [List.mem_cons, List.not_mem_nil, or_false] at hx; rcases hx with rfl <;> first | exact Or.inr (by assumption) | exact Or.inl (by simp))
    have Ol44 := Ol43.keep K44 (allS g_b43 all0)
    refine own_go (b := T44.setTop (mkF m 21 #[iv (N.toInt32), iv 9, rv b43] [(.int 0)])) st44 ?_
    refine own_go (b := T44.setTop (mkF m 22 #[iv (N.toInt32), iv 9, rv b43] [])) (fun t k => XS.pop X44.here hx rfl (hb hby d2_21) rfl rfl k) ?_
    obtain ⟨T45, h45, X45, e45, E45, A45, D45, -, st45⟩ := newO X44 hx hZ hown (hw _ (List.mem_of_getElem? (i := 21) rfl)) (hw _ (List.mem_of_getElem? (i := 22) rfl)) (hw _ (List.mem_of_getElem? (i := 15) rfl)) rfl (g := (mkF m 22 #[iv (N.toInt32), iv 9, rv b43] [])) rfl (hb hby d2_22) (by decide) (by decide)
    obtain ⟨b45, g45⟩ : ∃ z, z = T44.heap.size := ⟨_, rfl⟩
    rw [← g45] at A45 D45 st45
    have g_b45 : n0 ≤ b45 := Nat.le_trans Zs44 (Nat.le_of_eq g45.symm)
    have sz_b45 : h0.size ≤ b45 := Nat.le_trans Kp44.1 (Nat.le_of_eq g45.symm)
    have Zs45 : n0 ≤ h45.size := Nat.le_trans Zs44 E45.1
    have Kp45 : Keep h0 h45 [] := Kp44.ext E45
    have Ol45 := Ol44.ext E45
    have F_value_b45 : Fld Z h45 b45 "java/lang/String" "value" "[B" .null := D45 (Or.inr (hw _ (List.mem_of_getElem? (i := 31) rfl))) (ty := (.array .byte)) (by decide)
    have F_coder_b45 : Fld Z h45 b45 "java/lang/String" "coder" "B" (.int 0) := D45 (Or.inr (hw _ (List.mem_of_getElem? (i := 33) rfl))) (ty := .byte) (by decide)
    refine own_go (b := T45.setTop (mkF m 25 #[iv (N.toInt32), iv 9, rv b43] [(.ref b45)])) st45 ?_
    refine own_go (b := T45.setTop (mkF m 26 #[iv (N.toInt32), iv 9, rv b43] [(.ref b45), (.ref b45)])) (fun t k => XS.dup X45.here hx rfl (hb hby d2_25) rfl rfl k) ?_
    refine own_go (b := T45.setTop (mkF m 27 #[iv (N.toInt32), iv 9, rv b43] [(.ref b43), (.ref b45), (.ref b45)])) (fun t k => XS.aloadN X45.here hx rfl (hb hby d2_26) rfl rfl k) ?_
    refine own_go (b := T45.setTop (mkF m 28 #[iv (N.toInt32), iv 9, rv b43] [(.int 0), (.ref b43), (.ref b45), (.ref b45)])) (fun t k => XS.iconst X45.here hx rfl (hb hby d2_27) k) ?_
    obtain ⟨_, _, ⟨T46, L46, k46, n46⟩, -, X46, ⟨Lc46, hQ46, l46, y46, z46⟩, st46⟩ := X45.specialBack hx (y := (⟨"java/lang/String", "<init>", "([BB)V"⟩ : MethodName)) rfl hown (mvT hZ (hw _ (List.mem_of_getElem? (i := 23) rfl))) (mvT hZ (hw _ (List.mem_of_getElem? (i := 24) rfl))) (mvT hZ (hw _ (List.mem_of_getElem? (i := 26) rfl))) (by decide) (backOf (W := 1) (rm5 l Z a0 hw [] b45 b43 (0 : Int32)  h45 n0 Zs45 A45 F_value_b45 F_coder_b45 g_b45) hZ (hw _ (List.mem_of_getElem? (i := 26) rfl)) (hw _ (List.mem_of_getElem? (i := 15) rfl)) (by decide) (by decide)) (g := (mkF m 28 #[iv (N.toInt32), iv 9, rv b43] [(.int 0), (.ref b43), (.ref b45), (.ref b45)])) rfl (by rw [hml]; rfl) (Steps.refl _) (a := b45) (argsL := [(.ref b43), (.int 0)]) (rest := [(.ref b45)]) (lenOf pd_3 rfl) rfl (by show 2 * 0 + _ ≤ _; exact Nat.le_of_eq rfl) (hb hby d2_28) (fun _ _ => ⟨rfl, e45, (by decide : 2 + 0 ≤ _), (by decide : 13 + 0 ≤ _)⟩)
    dsimp only [Pt.U, Pt.locs, Pt.cells, Pt.slots] at X46 l46 y46 z46 st46 hQ46
    subst l46 y46 z46
    obtain ⟨rfl, N46q, K46, Ek46, Fv46, Fc46⟩ := hQ46
    have Zs46 : n0 ≤ T46.heap.size := Nat.le_trans Zs45 K46.1
    have N46 := Fr.app N44 N46q
    have Kp46 : Keep h0 T46.heap [] := Kp45.trans K46 (by intro x hx; simp only [List.mem_cons, List.not_mem_nil, or_false] at hx; rcases hx with rfl <;> first | exact Or.inr (by assumption) | exact Or.inl (by simp))
    have Ol46 := Ol45.keep K46 (allS g_b45 all0)
    refine own_tr (b := T46.setTop (mkF m 31 #[iv (N.toInt32), iv 9, rv b43] [(.ref b45)])) st46 ?_
    exact own_retA X46 hx hlk hrt rfl rfl (hb hby d2_31) (Nat.le_of_ble_eq_true rfl) (Nat.le_of_ble_eq_true rfl) (⟨b45, rfl, N46, Kp46, by rw [hz2]; exact ⟨b43, _, sz_b45, sz_b43, Ek46, Fv46, Fc46, by rw [own_digs_bytes, own_digs_len]; exact ((Vd44.ext E45).keep K46 (ninS (Nat.ne_of_lt (Nat.lt_of_lt_of_le (Vd44).lt (Nat.le_of_eq g45.symm))) nin0)), own_digs_lat N 9, by rw [own_digs_len]; decide⟩⟩)
  · rw [hz1]
    refine own_go (b := T1.setTop (mkF m 5 #[iv (N.toInt32), iv 10, .unset] [])) (fun t k => XS.istoreN X1.here hx rfl (hb hby d2_4) rfl (l' := #[iv (N.toInt32), iv 10, .unset]) rfl k) ?_
    obtain ⟨T47, X47, e47, st47⟩ := getS2 X1 hx hZ hown (host := "") (Or.inl (hw _ (List.mem_of_getElem? (i := 14) rfl))) Via.refl e1 (O2.ext Od.2) (g := (mkF m 5 #[iv (N.toInt32), iv 10, .unset] [])) rfl (hb hby d2_5)
    refine own_go (b := T47.setTop (mkF m 8 #[iv (N.toInt32), iv 10, .unset] [(.int G1)])) st47 ?_
    refine own_go (b := T47.setTop (mkF m 11 #[iv (N.toInt32), iv 10, .unset] [])) (fun t k => XS.ifNo X47.here hx rfl (hb hby d2_8) rfl ((if0 _ _).trans (feq P5).1) k) ?_
    refine own_go (b := T47.setTop (mkF m 12 #[iv (N.toInt32), iv 10, .unset] [(.int 10)])) (fun t k => XS.iloadN X47.here hx rfl (hb hby d2_11) rfl  k) ?_
    obtain ⟨T48, h48, k48, X48, e48, E48, A48, st48⟩ := newP X47 hx hZ (hw _ (List.mem_of_getElem? (i := 16) rfl)) e47 (g := (mkF m 12 #[iv (N.toInt32), iv 10, .unset] [(.int 10)])) rfl (hb hby d2_12) rfl (by decide) (cap := 10) (by decide) (by decide) (by decide) (by decide)
    obtain ⟨b48, g48⟩ : ∃ z, z = h0.size := ⟨_, rfl⟩
    rw [← g48] at A48 st48
    have g_b48 : n0 ≤ b48 := Nat.le_trans Z0 (Nat.le_of_eq g48.symm)
    have sz_b48 : h0.size ≤ b48 := Nat.le_trans (Keep.refl h0 []).1 (Nat.le_of_eq g48.symm)
    have Zs48 : n0 ≤ h48.size := Nat.le_trans Z0 E48.1
    have Kp48 : Keep h0 h48 [] := (Keep.refl h0 []).ext E48
    have Ol48 := Od.ext E48
    have V_b48 : Arv Z h48 b48 k48 .byte (10 : Int32) [(.int (0 : Int32)), (.int (0 : Int32)), (.int (0 : Int32)), (.int (0 : Int32)), (.int (0 : Int32)), (.int (0 : Int32)), (.int (0 : Int32)), (.int (0 : Int32)), (.int (0 : Int32)), (.int (0 : Int32))] (.int (0 : Int32)) := (Arv.new A48 (by decide)).pad (pad_rep [] (.int (0 : Int32)) 10)
    refine own_go (b := T48.setTop (mkF m 14 #[iv (N.toInt32), iv 10, .unset] [(.ref b48)])) st48 ?_
    refine own_go (b := T48.setTop (mkF m 15 #[iv (N.toInt32), iv 10, rv b48] [])) (fun t k => XS.astoreN X48.here hx rfl (hb hby d2_14) rfl rfl (l' := #[iv (N.toInt32), iv 10, rv b48]) rfl k) ?_
    refine own_go (b := T48.setTop (mkF m 16 #[iv (N.toInt32), iv 10, rv b48] [(.int (N.toInt32))])) (fun t k => XS.iloadN X48.here hx rfl (hb hby d2_15) rfl  k) ?_
    refine own_go (b := T48.setTop (mkF m 17 #[iv (N.toInt32), iv 10, rv b48] [(.int 10), (.int (N.toInt32))])) (fun t k => XS.iloadN X48.here hx rfl (hb hby d2_16) rfl  k) ?_
    refine own_go (b := T48.setTop (mkF m 18 #[iv (N.toInt32), iv 10, rv b48] [(.ref b48), (.int 10), (.int (N.toInt32))])) (fun t k => XS.aloadN X48.here hx rfl (hb hby d2_17) rfl rfl k) ?_
    obtain ⟨_, _, ⟨T49, L49, k49, n49⟩, -, X49, ⟨Lc49, hQ49, l49, y49, z49⟩, st49⟩ := Jvm.LawKit.callS X48 hx (y := (⟨"java/lang/Integer", "getChars", "(II[B)I"⟩ : MethodName)) hown (mvT hZ (hw _ (List.mem_of_getElem? (i := 17) rfl))) (mvT hZ (hw _ (List.mem_of_getElem? (i := 18) rfl))) (mvT hZ (hw _ (List.mem_of_getElem? (i := 9) rfl))) (mvT hZ (hw _ (List.mem_of_getElem? (i := 19) rfl))) (by decide) (backOf (W := 0) (rm4_10 l Z a0 hw [] (N.toInt32) (10 : Int32) b48 N k48 dO dT cO cT h48 n0 Zs48 rfl rfl hN hz3 hz4 SO ST AO AT hO hT V_b48 g_b48 Ol48) hZ (hw _ (List.mem_of_getElem? (i := 19) rfl)) (hw _ (List.mem_of_getElem? (i := 9) rfl)) (by decide) (by decide)) (g := (mkF m 18 #[iv (N.toInt32), iv 10, rv b48] [(.ref b48), (.int 10), (.int (N.toInt32))])) rfl (by rw [hml]; rfl) (argsL := [(.int (N.toInt32)), (.int 10), (.ref b48)]) (rest := []) (lenOf pd_2 rfl) rfl (by show 2 * 0 + _ ≤ _; exact Nat.le_of_eq rfl) (hb hby d2_18) (fun _ _ => ⟨rfl, e48, (by decide : 1 + 0 ≤ _), (by decide : 10 + 0 ≤ _)⟩)
    dsimp only [Pt.U, Pt.locs, Pt.cells, Pt.slots] at X49 l49 y49 z49 st49 hQ49
    subst l49 y49 z49
    obtain ⟨rfl, N49q, K49, Vd49⟩ := hQ49
    have Zs49 : n0 ≤ T49.heap.size := Nat.le_trans Zs48 K49.1
    have N49 := Fr.app N1 N49q
    have Kp49 : Keep h0 T49.heap [] := Kp48.trans K49 (by intro x hx; simp only [List.mem_cons, List.not_mem_nil, or_false] at hx; rcases hx with rfl <;> first | exact Or.inr (by assumption) | exact Or.inl (by simp))
    have Ol49 := Ol48.keep K49 (allS g_b48 all0)
    refine own_go (b := T49.setTop (mkF m 21 #[iv (N.toInt32), iv 10, rv b48] [(.int 0)])) st49 ?_
    refine own_go (b := T49.setTop (mkF m 22 #[iv (N.toInt32), iv 10, rv b48] [])) (fun t k => XS.pop X49.here hx rfl (hb hby d2_21) rfl rfl k) ?_
    obtain ⟨T50, h50, X50, e50, E50, A50, D50, -, st50⟩ := newO X49 hx hZ hown (hw _ (List.mem_of_getElem? (i := 21) rfl)) (hw _ (List.mem_of_getElem? (i := 22) rfl)) (hw _ (List.mem_of_getElem? (i := 15) rfl)) rfl (g := (mkF m 22 #[iv (N.toInt32), iv 10, rv b48] [])) rfl (hb hby d2_22) (by decide) (by decide)
    obtain ⟨b50, g50⟩ : ∃ z, z = T49.heap.size := ⟨_, rfl⟩
    rw [← g50] at A50 D50 st50
    have g_b50 : n0 ≤ b50 := Nat.le_trans Zs49 (Nat.le_of_eq g50.symm)
    have sz_b50 : h0.size ≤ b50 := Nat.le_trans Kp49.1 (Nat.le_of_eq g50.symm)
    have Zs50 : n0 ≤ h50.size := Nat.le_trans Zs49 E50.1
    have Kp50 : Keep h0 h50 [] := Kp49.ext E50
    have Ol50 := Ol49.ext E50
    have F_value_b50 : Fld Z h50 b50 "java/lang/String" "value" "[B" .null := D50 (Or.inr (hw _ (List.mem_of_getElem? (i := 31) rfl))) (ty := (.array .byte)) (by decide)
    have F_coder_b50 : Fld Z h50 b50 "java/lang/String" "coder" "B" (.int 0) := D50 (Or.inr (hw _ (List.mem_of_getElem? (i := 33) rfl))) (ty := .byte) (by decide)
    refine own_go (b := T50.setTop (mkF m 25 #[iv (N.toInt32), iv 10, rv b48] [(.ref b50)])) st50 ?_
    refine own_go (b := T50.setTop (mkF m 26 #[iv (N.toInt32), iv 10, rv b48] [(.ref b50), (.ref b50)])) (fun t k => XS.dup X50.here hx rfl (hb hby d2_25) rfl rfl k) ?_
    refine own_go (b := T50.setTop (mkF m 27 #[iv (N.toInt32), iv 10, rv b48] [(.ref b48), (.ref b50), (.ref b50)])) (fun t k => XS.aloadN X50.here hx rfl (hb hby d2_26) rfl rfl k) ?_
    refine own_go (b := T50.setTop (mkF m 28 #[iv (N.toInt32), iv 10, rv b48] [(.int 0), (.ref b48), (.ref b50), (.ref b50)])) (fun t k => XS.iconst X50.here hx rfl (hb hby d2_27) k) ?_
    obtain ⟨_, _, ⟨T51, L51, k51, n51⟩, -, X51, ⟨Lc51, hQ51, l51, y51, z51⟩, st51⟩ := X50.specialBack hx (y := (⟨"java/lang/String", "<init>", "([BB)V"⟩ : MethodName)) rfl hown (mvT hZ (hw _ (List.mem_of_getElem? (i := 23) rfl))) (mvT hZ (hw _ (List.mem_of_getElem? (i := 24) rfl))) (mvT hZ (hw _ (List.mem_of_getElem? (i := 26) rfl))) (by decide) (backOf (W := 1) (rm5 l Z a0 hw [] b50 b48 (0 : Int32)  h50 n0 Zs50 A50 F_value_b50 F_coder_b50 g_b50) hZ (hw _ (List.mem_of_getElem? (i := 26) rfl)) (hw _ (List.mem_of_getElem? (i := 15) rfl)) (by decide) (by decide)) (g := (mkF m 28 #[iv (N.toInt32), iv 10, rv b48] [(.int 0), (.ref b48), (.ref b50), (.ref b50)])) rfl (by rw [hml]; rfl) (Steps.refl _) (a := b50) (argsL := [(.ref b48), (.int 0)]) (rest := [(.ref b50)]) (lenOf pd_3 rfl) rfl (by show 2 * 0 + _ ≤ _; exact Nat.le_of_eq rfl) (hb hby d2_28) (fun _ _ => ⟨rfl, e50, (by decide : 2 + 0 ≤ _), (by decide : 14 + 0 ≤ _)⟩)
    dsimp only [Pt.U, Pt.locs, Pt.cells, Pt.slots] at X51 l51 y51 z51 st51 hQ51
    subst l51 y51 z51
    obtain ⟨rfl, N51q, K51, Ek51, Fv51, Fc51⟩ := hQ51
    have Zs51 : n0 ≤ T51.heap.size := Nat.le_trans Zs50 K51.1
    have N51 := Fr.app N49 N51q
    have Kp51 : Keep h0 T51.heap [] := Kp50.trans K51 (by intro x hx; simp only [List.mem_cons, List.not_mem_nil, or_false] at hx; rcases hx with rfl <;> first | exact Or.inr (by assumption) | exact Or.inl (by simp))
    have Ol51 := Ol50.keep K51 (allS g_b50 all0)
    refine own_tr (b := T51.setTop (mkF m 31 #[iv (N.toInt32), iv 10, rv b48] [(.ref b50)])) st51 ?_
    exact own_retA X51 hx hlk hrt rfl rfl (hb hby d2_31) (Nat.le_of_ble_eq_true rfl) (Nat.le_of_ble_eq_true rfl) (⟨b50, rfl, N51, Kp51, by rw [hz2]; exact ⟨b48, _, sz_b50, sz_b48, Ek51, Fv51, Fc51, by rw [own_digs_bytes, own_digs_len]; exact ((Vd49.ext E50).keep K51 (ninS (Nat.ne_of_lt (Nat.lt_of_lt_of_le (Vd49).lt (Nat.le_of_eq g50.symm))) nin0)), own_digs_lat N 10, by rw [own_digs_len]; decide⟩⟩)
theorem d7_0 : decode prog_44_method_1_code 0 = .ok (.aload_n 0, 1) := by decide +kernel
theorem d7_1 : decode prog_44_method_1_code 1 = .ok (.invokespecial 3, 3) := by decide +kernel
theorem d7_4 : decode prog_44_method_1_code 4 = .ok (.iload_n 1, 1) := by decide +kernel
theorem d7_5 : decode prog_44_method_1_code 5 = .ok (.ifCond .lt 9, 3) := by decide +kernel
theorem d7_8 : decode prog_44_method_1_code 8 = .ok (.lload_n 2, 1) := by decide +kernel
theorem d7_9 : decode prog_44_method_1_code 9 = .ok (.lconst 0, 1) := by decide +kernel
theorem d7_10 : decode prog_44_method_1_code 10 = .ok (.lcmp, 1) := by decide +kernel
theorem d7_11 : decode prog_44_method_1_code 11 = .ok (.ifCond .ge 11, 3) := by decide +kernel
theorem d7_14 : decode prog_44_method_1_code 14 = .ok (.aload 4, 2) := by decide +kernel
theorem d7_16 : decode prog_44_method_1_code 16 = .ok (.ldc 9, 2) := by decide +kernel
theorem d7_18 : decode prog_44_method_1_code 18 = .ok (.invokestatic 11, 3) := by decide +kernel
theorem d7_21 : decode prog_44_method_1_code 21 = .ok (.athrow, 1) := by decide +kernel
theorem d7_22 : decode prog_44_method_1_code 22 = .ok (.iload_n 1, 1) := by decide +kernel
theorem d7_23 : decode prog_44_method_1_code 23 = .ok (.i2l, 1) := by decide +kernel
theorem d7_24 : decode prog_44_method_1_code 24 = .ok (.lload_n 2, 1) := by decide +kernel
theorem d7_25 : decode prog_44_method_1_code 25 = .ok (.lcmp, 1) := by decide +kernel
theorem d7_26 : decode prog_44_method_1_code 26 = .ok (.ifCond .le 11, 3) := by decide +kernel
theorem d7_29 : decode prog_44_method_1_code 29 = .ok (.aload 4, 2) := by decide +kernel
theorem d7_31 : decode prog_44_method_1_code 31 = .ok (.ldc 17, 2) := by decide +kernel
theorem d7_33 : decode prog_44_method_1_code 33 = .ok (.invokestatic 11, 3) := by decide +kernel
theorem d7_36 : decode prog_44_method_1_code 36 = .ok (.athrow, 1) := by decide +kernel
theorem d7_37 : decode prog_44_method_1_code 37 = .ok (.aload_n 0, 1) := by decide +kernel
theorem d7_38 : decode prog_44_method_1_code 38 = .ok (.iload_n 1, 1) := by decide +kernel
theorem d7_39 : decode prog_44_method_1_code 39 = .ok (.putfield 19, 3) := by decide +kernel
theorem d7_42 : decode prog_44_method_1_code 42 = .ok (.aload_n 0, 1) := by decide +kernel
theorem d7_43 : decode prog_44_method_1_code 43 = .ok (.lload_n 2, 1) := by decide +kernel
theorem d7_44 : decode prog_44_method_1_code 44 = .ok (.putfield 23, 3) := by decide +kernel
theorem d7_47 : decode prog_44_method_1_code 47 = .ok (.aload_n 0, 1) := by decide +kernel
theorem d7_48 : decode prog_44_method_1_code 48 = .ok (.aload 4, 2) := by decide +kernel
theorem d7_50 : decode prog_44_method_1_code 50 = .ok (.putfield 27, 3) := by decide +kernel
theorem d7_53 : decode prog_44_method_1_code 53 = .ok (.return_, 1) := by decide +kernel
theorem pn_2 : plainName "com/example/vertumnus/vertumnus/interactions/Cardinality" = true := by first | (simp [plainName, overriddenIn]; done) | decide +kernel
theorem ef_7 (m : MethodId) (tt : Addr) (mi : Int32) (ma : Int64) (xx : Addr) : entryFrame m #[(.ref tt), (.int mi), (.long ma), (.ref xx)] 5 = mkF m 0 #[rv tt, iv mi, .val (.long ma), .second, rv xx] [] := by first | (simp [entryFrame, mkF, argsToLocals, Value.category]; done) | rfl
def Q7 (Z : State) (tt : Addr) (mi : Int32) (ma : Int64) (xx : Addr) (N : Nat) (h0 : Heap) (n0 : Nat) (v : Option Value) (h : Heap) (L : List Loc) : Prop := v = none ∧ Fr n0 L ∧ Keep h0 h [tt] ∧ Exa Z h tt "com/example/vertumnus/vertumnus/interactions/Cardinality" ∧ Fld Z h tt "com/example/vertumnus/vertumnus/interactions/Cardinality" "min" "I" (.int N.toInt32) ∧ Fld Z h tt "com/example/vertumnus/vertumnus/interactions/Cardinality" "max" "J" (.long (N.toInt32).toInt64) ∧ Fld Z h tt "com/example/vertumnus/vertumnus/interactions/Cardinality" "text" "Ljava/lang/String;" (.ref xx)
set_option maxRecDepth 65536 in
set_option maxHeartbeats 40000000 in
theorem rm7 (l : Launch) (Z : State) (a0 : Array Value) (hw : ∀ d ∈ tables_1, d.before a0 Z = true) (ws : List Jvm.Cond) (tt : Addr) (mi : Int32) (ma : Int64) (xx : Addr) (N : Nat) (h0 : Heap) (n0 : Nat) (Z0 : n0 ≤ h0.size) (hmi : mi = N.toInt32) (hma : ma = (N.toInt32).toInt64) (hN : N < 2147483648) (Ex : Exa Z h0 tt "com/example/vertumnus/vertumnus/interactions/Cardinality") (F0x : Fld Z h0 tt "com/example/vertumnus/vertumnus/interactions/Cardinality" "min" "I" (.int (0 : Int32))) (F1x : Fld Z h0 tt "com/example/vertumnus/vertumnus/interactions/Cardinality" "max" "J" (.long (0 : Int64))) (F2x : Fld Z h0 tt "com/example/vertumnus/vertumnus/interactions/Cardinality" "text" "Ljava/lang/String;" .null) (gt : n0 ≤ tt) :
    MetFree l (⟨"com/example/vertumnus/vertumnus/interactions/Cardinality", "<init>", "(IJLjava/lang/String;)V"⟩ : MethodName) (head1 (Jvm.Cond.code (⟨"com/example/vertumnus/vertumnus/interactions/Cardinality", "<init>", "(IJLjava/lang/String;)V"⟩ : MethodName) prog_44_method_1_code 5 none :: ws) ({ frames := 1, cells := 0, slots := 0, locals := 12 } : Room)) (fun a U => a = #[(.ref tt), (.int mi), (.long ma), (.ref xx)] ∧ Z.Warmed39 U.vm ∧ U.heap = h0) (fun _ _ _ _ _ => True) (fun _ U o U' => ∃ v L, o = .returned v ∧ Q7 Z tt mi ma xx N h0 n0 v U'.heap L ∧ FrameEnd U o U' L ({ frames := 1, cells := 0, slots := 0, locals := 12 } : Room).cells ({ frames := 1, cells := 0, slots := 0, locals := 12 } : Room).slots) := by
  refine MetFree.of_bodySF (plainFor_of_name pn_2) hisR ?_
  intro p e s m args below meth c s₁ Bd hml0 hP hK
  obtain ⟨rfl, hZ, hh⟩ := hP
  have hx := Bd.exec
  have hby := Bd.bytes
  have hml : c.maxLocals = 5 := hml0
  have hown : s.vm.findClass "com/example/vertumnus/vertumnus/interactions/Cardinality" = some m.cls := findClass_of_methodNamed Bd.named
  have hnm := (name_of_methodNamed Bd.named Bd.method).1
  have hlk : meth.locks = false := Bd.notSynchronized
  have hrt := Bd.returns
  have X0 : Stand p l e ({ frames := 1, cells := 0, slots := 0, locals := 12 } : Room) s m #[(.ref tt), (.int mi), (.long ma), (.ref xx)] below meth c s₁ [] 0 0 := Stand.of_body Bd
  have e0 : s₁.heap = h0 := by rw [← hh, Bd.state]; rfl
  have N0 := Fr.nil n0
  show own_Endz p.tables e below (own_EndQ s ({ frames := 1, cells := 0, slots := 0, locals := 12 } : Room).cells ({ frames := 1, cells := 0, slots := 0, locals := 12 } : Room).slots (Q7 Z tt mi ma xx N h0 n0)) (s₁.setTop (entryFrame m #[(.ref tt), (.int mi), (.long ma), (.ref xx)] 5))
  refine own_cast (ef_7 m tt mi ma xx) ?_
  subst hmi hma
  refine own_go (b := s₁.setTop (mkF m 1 #[rv tt, iv (N.toInt32), .val (.long ((N.toInt32).toInt64)), .second, rv xx] [(.ref tt)])) (fun t k => XS.aloadN X0.here hx rfl (hb hby d7_0) rfl rfl k) ?_
  obtain ⟨T1, X1, e1, st1⟩ := initO X0 hx hZ hown (hw _ (List.mem_of_getElem? (i := 37) rfl)) (hw _ (List.mem_of_getElem? (i := 28) rfl)) (hw _ (List.mem_of_getElem? (i := 29) rfl)) e0 (g := (mkF m 1 #[rv tt, iv (N.toInt32), .val (.long ((N.toInt32).toInt64)), .second, rv xx] [(.ref tt)])) rfl (by rw [hml]; rfl) rfl (hb hby d7_1) (by decide) (W := 0) (by show 2 * 0 + _ ≤ _; exact Nat.le_of_eq rfl) (by decide)
  refine own_go (b := T1.setTop (mkF m 4 #[rv tt, iv (N.toInt32), .val (.long ((N.toInt32).toInt64)), .second, rv xx] [])) st1 ?_
  refine own_go (b := T1.setTop (mkF m 5 #[rv tt, iv (N.toInt32), .val (.long ((N.toInt32).toInt64)), .second, rv xx] [(.int (N.toInt32))])) (fun t k => XS.iloadN X1.here hx rfl (hb hby d7_4) rfl  k) ?_
  refine own_go (b := T1.setTop (mkF m 8 #[rv tt, iv (N.toInt32), .val (.long ((N.toInt32).toInt64)), .second, rv xx] [])) (fun t k => XS.ifNo X1.here hx rfl (hb hby d7_5) rfl ((if0 _ _).trans (flt (own_nn hN)).1) k) ?_
  refine own_go (b := T1.setTop (mkF m 9 #[rv tt, iv (N.toInt32), .val (.long ((N.toInt32).toInt64)), .second, rv xx] [(.long ((N.toInt32).toInt64))])) (fun t k => XS.lloadN X1.here hx rfl (hb hby d7_8) rfl  k) ?_
  refine own_go (b := T1.setTop (mkF m 10 #[rv tt, iv (N.toInt32), .val (.long ((N.toInt32).toInt64)), .second, rv xx] [(.long 0), (.long ((N.toInt32).toInt64))])) (fun t k => XS.lconst X1.here hx rfl (hb hby d7_9) k) ?_
  refine own_go (b := T1.setTop (mkF m 11 #[rv tt, iv (N.toInt32), .val (.long ((N.toInt32).toInt64)), .second, rv xx] [(.int (lcmpW ((N.toInt32).toInt64) (0 : Int64)))])) (fun t k => XS.lcmp X1.here hx rfl (hb hby d7_10) rfl k) ?_
  refine own_go (b := T1.setTop (mkF m 22 #[rv tt, iv (N.toInt32), .val (.long ((N.toInt32).toInt64)), .second, rv xx] [])) (fun t k => XS.ifYes X1.here hx rfl (pc0 := 11) (pc' := 22) rfl (hb hby d7_11) rfl ((if0 _ _).trans (flt (fun q => own_nn hN (by have q' := (lw_lt _ _).mp q; rw [Int64.lt_iff_toInt_lt, c_i2l] at q'; rw [Int32.lt_iff_toInt_lt]; exact q'))).2.1) (by decide) (by decide) k) ?_
  refine own_go (b := T1.setTop (mkF m 23 #[rv tt, iv (N.toInt32), .val (.long ((N.toInt32).toInt64)), .second, rv xx] [(.int (N.toInt32))])) (fun t k => XS.iloadN X1.here hx rfl (hb hby d7_22) rfl  k) ?_
  refine own_go (b := T1.setTop (mkF m 24 #[rv tt, iv (N.toInt32), .val (.long ((N.toInt32).toInt64)), .second, rv xx] [(.long ((N.toInt32).toInt64))])) (fun t k => XS.i2l X1.here hx rfl (hb hby d7_23) rfl k) ?_
  refine own_go (b := T1.setTop (mkF m 25 #[rv tt, iv (N.toInt32), .val (.long ((N.toInt32).toInt64)), .second, rv xx] [(.long ((N.toInt32).toInt64)), (.long ((N.toInt32).toInt64))])) (fun t k => XS.lloadN X1.here hx rfl (hb hby d7_24) rfl  k) ?_
  refine own_go (b := T1.setTop (mkF m 26 #[rv tt, iv (N.toInt32), .val (.long ((N.toInt32).toInt64)), .second, rv xx] [(.int (lcmpW ((N.toInt32).toInt64) ((N.toInt32).toInt64)))])) (fun t k => XS.lcmp X1.here hx rfl (hb hby d7_25) rfl k) ?_
  refine own_go (b := T1.setTop (mkF m 37 #[rv tt, iv (N.toInt32), .val (.long ((N.toInt32).toInt64)), .second, rv xx] [])) (fun t k => XS.ifYes X1.here hx rfl (pc0 := 26) (pc' := 37) rfl (hb hby d7_26) rfl ((if0 _ _).trans (flt (fun q => absurd ((lw_gt _ _).mp q) (by rw [Int64.lt_iff_toInt_lt]; omega))).2.2.2) (by decide) (by decide) k) ?_
  refine own_go (b := T1.setTop (mkF m 38 #[rv tt, iv (N.toInt32), .val (.long ((N.toInt32).toInt64)), .second, rv xx] [(.ref tt)])) (fun t k => XS.aloadN X1.here hx rfl (hb hby d7_37) rfl rfl k) ?_
  refine own_go (b := T1.setTop (mkF m 39 #[rv tt, iv (N.toInt32), .val (.long ((N.toInt32).toInt64)), .second, rv xx] [(.int (N.toInt32)), (.ref tt)])) (fun t k => XS.iloadN X1.here hx rfl (hb hby d7_38) rfl  k) ?_
  obtain ⟨T2, h2, X2, e2, W2, st2⟩ := putF X1 hx hZ hown (host := "") (Or.inl (hw _ (List.mem_of_getElem? (i := 38) rfl))) Via.refl e1 F0x Ex (Or.inr ⟨(hw _ (List.mem_of_getElem? (i := 39) rfl)), rfl, hnm⟩) (hw _ (List.mem_of_getElem? (i := 6) rfl)) (ty := .int) (by decide) rfl rfl (g := (mkF m 39 #[rv tt, iv (N.toInt32), .val (.long ((N.toInt32).toInt64)), .second, rv xx] [(.int (N.toInt32)), (.ref tt)])) rfl rfl (hb hby d7_39)
  have Fw2 : Fld Z h2 tt "com/example/vertumnus/vertumnus/interactions/Cardinality" "min" "I" (.int (N.toInt32)) := Fld.same W2 F0x
  have Zs2 : n0 ≤ h2.size := Nat.le_trans Z0 (Keep.of_wr W2).1
  have N2 := Fr.snoc X2 N0 gt
  have Kp2 : Keep h0 h2 [tt] := (Keep.refl h0 [tt]).wr W2 (Or.inl (List.mem_of_getElem? (i := 0) rfl))
  refine own_go (b := T2.setTop (mkF m 42 #[rv tt, iv (N.toInt32), .val (.long ((N.toInt32).toInt64)), .second, rv xx] [])) st2 ?_
  refine own_go (b := T2.setTop (mkF m 43 #[rv tt, iv (N.toInt32), .val (.long ((N.toInt32).toInt64)), .second, rv xx] [(.ref tt)])) (fun t k => XS.aloadN X2.here hx rfl (hb hby d7_42) rfl rfl k) ?_
  refine own_go (b := T2.setTop (mkF m 44 #[rv tt, iv (N.toInt32), .val (.long ((N.toInt32).toInt64)), .second, rv xx] [(.long ((N.toInt32).toInt64)), (.ref tt)])) (fun t k => XS.lloadN X2.here hx rfl (hb hby d7_43) rfl  k) ?_
  obtain ⟨T3, h3, X3, e3, W3, st3⟩ := putF X2 hx hZ hown (host := "") (Or.inl (hw _ (List.mem_of_getElem? (i := 40) rfl))) Via.refl e2 (F1x.other W2 (Or.inr (slot_ne (Or.inr (hw _ (List.mem_of_getElem? (i := 41) rfl))) (Or.inr (hw _ (List.mem_of_getElem? (i := 39) rfl))) (by decide) (t := .long) (t' := .int) (by decide) (by decide)))) (Ex.wr W2) (Or.inr ⟨(hw _ (List.mem_of_getElem? (i := 41) rfl)), rfl, hnm⟩) (hw _ (List.mem_of_getElem? (i := 6) rfl)) (ty := .long) (by decide) rfl rfl (g := (mkF m 44 #[rv tt, iv (N.toInt32), .val (.long ((N.toInt32).toInt64)), .second, rv xx] [(.long ((N.toInt32).toInt64)), (.ref tt)])) rfl rfl (hb hby d7_44)
  have Fw3 : Fld Z h3 tt "com/example/vertumnus/vertumnus/interactions/Cardinality" "max" "J" (.long ((N.toInt32).toInt64)) := Fld.same W3 (F1x.other W2 (Or.inr (slot_ne (Or.inr (hw _ (List.mem_of_getElem? (i := 41) rfl))) (Or.inr (hw _ (List.mem_of_getElem? (i := 39) rfl))) (by decide) (t := .long) (t' := .int) (by decide) (by decide))))
  have Zs3 : n0 ≤ h3.size := Nat.le_trans Zs2 (Keep.of_wr W3).1
  have N3 := Fr.snoc X3 N2 gt
  have Kp3 : Keep h0 h3 [tt] := Kp2.wr W3 (Or.inl (List.mem_of_getElem? (i := 0) rfl))
  refine own_go (b := T3.setTop (mkF m 47 #[rv tt, iv (N.toInt32), .val (.long ((N.toInt32).toInt64)), .second, rv xx] [])) st3 ?_
  refine own_go (b := T3.setTop (mkF m 48 #[rv tt, iv (N.toInt32), .val (.long ((N.toInt32).toInt64)), .second, rv xx] [(.ref tt)])) (fun t k => XS.aloadN X3.here hx rfl (hb hby d7_47) rfl rfl k) ?_
  refine own_go (b := T3.setTop (mkF m 50 #[rv tt, iv (N.toInt32), .val (.long ((N.toInt32).toInt64)), .second, rv xx] [(.ref xx), (.ref tt)])) (fun t k => XS.aload X3.here hx rfl (hb hby d7_48) rfl rfl k) ?_
  obtain ⟨T4, h4, X4, e4, W4, st4⟩ := putF X3 hx hZ hown (host := "") (Or.inl (hw _ (List.mem_of_getElem? (i := 42) rfl))) Via.refl e3 ((F2x.other W2 (Or.inr (slot_ne (Or.inr (hw _ (List.mem_of_getElem? (i := 43) rfl))) (Or.inr (hw _ (List.mem_of_getElem? (i := 39) rfl))) (by decide) (t := (.object "java/lang/String")) (t' := .int) (by decide) (by decide)))).other W3 (Or.inr (slot_ne (Or.inr (hw _ (List.mem_of_getElem? (i := 43) rfl))) (Or.inr (hw _ (List.mem_of_getElem? (i := 41) rfl))) (by decide) (t := (.object "java/lang/String")) (t' := .long) (by decide) (by decide)))) ((Ex.wr W2).wr W3) (Or.inr ⟨(hw _ (List.mem_of_getElem? (i := 43) rfl)), rfl, hnm⟩) (hw _ (List.mem_of_getElem? (i := 6) rfl)) (ty := (.object "java/lang/String")) (by decide) rfl rfl (g := (mkF m 50 #[rv tt, iv (N.toInt32), .val (.long ((N.toInt32).toInt64)), .second, rv xx] [(.ref xx), (.ref tt)])) rfl rfl (hb hby d7_50)
  have Fw4 : Fld Z h4 tt "com/example/vertumnus/vertumnus/interactions/Cardinality" "text" "Ljava/lang/String;" (.ref xx) := Fld.same W4 ((F2x.other W2 (Or.inr (slot_ne (Or.inr (hw _ (List.mem_of_getElem? (i := 43) rfl))) (Or.inr (hw _ (List.mem_of_getElem? (i := 39) rfl))) (by decide) (t := (.object "java/lang/String")) (t' := .int) (by decide) (by decide)))).other W3 (Or.inr (slot_ne (Or.inr (hw _ (List.mem_of_getElem? (i := 43) rfl))) (Or.inr (hw _ (List.mem_of_getElem? (i := 41) rfl))) (by decide) (t := (.object "java/lang/String")) (t' := .long) (by decide) (by decide))))
  have Zs4 : n0 ≤ h4.size := Nat.le_trans Zs3 (Keep.of_wr W4).1
  have N4 := Fr.snoc X4 N3 gt
  have Kp4 : Keep h0 h4 [tt] := Kp3.wr W4 (Or.inl (List.mem_of_getElem? (i := 0) rfl))
  refine own_go (b := T4.setTop (mkF m 53 #[rv tt, iv (N.toInt32), .val (.long ((N.toInt32).toInt64)), .second, rv xx] [])) st4 ?_
  exact own_retV X4 hx hlk hrt (hb hby d7_53) (Nat.le_of_ble_eq_true rfl) (Nat.le_of_ble_eq_true rfl) (⟨rfl, N4, by rw [e4]; exact Kp4, by rw [e4]; exact (((Ex.wr W2).wr W3).wr W4), by rw [e4]; exact ((Fw2.other W3 (Or.inr (slot_ne (Or.inr (hw _ (List.mem_of_getElem? (i := 39) rfl))) (Or.inr (hw _ (List.mem_of_getElem? (i := 41) rfl))) (by decide) (t := .int) (t' := .long) (by decide) (by decide)))).other W4 (Or.inr (slot_ne (Or.inr (hw _ (List.mem_of_getElem? (i := 39) rfl))) (Or.inr (hw _ (List.mem_of_getElem? (i := 43) rfl))) (by decide) (t := .int) (t' := (.object "java/lang/String")) (by decide) (by decide)))), by rw [e4]; exact (Fw3.other W4 (Or.inr (slot_ne (Or.inr (hw _ (List.mem_of_getElem? (i := 41) rfl))) (Or.inr (hw _ (List.mem_of_getElem? (i := 43) rfl))) (by decide) (t := .long) (t' := (.object "java/lang/String")) (by decide) (by decide)))), by rw [e4]; exact Fw4⟩)
theorem d1_0 : decode prog_44_method_3_code 0 = .ok (.new 12, 3) := by decide +kernel
theorem d1_3 : decode prog_44_method_3_code 3 = .ok (.dup, 1) := by decide +kernel
theorem d1_4 : decode prog_44_method_3_code 4 = .ok (.iload_n 0, 1) := by decide +kernel
theorem d1_5 : decode prog_44_method_3_code 5 = .ok (.iload_n 0, 1) := by decide +kernel
theorem d1_6 : decode prog_44_method_3_code 6 = .ok (.i2l, 1) := by decide +kernel
theorem d1_7 : decode prog_44_method_3_code 7 = .ok (.iload_n 0, 1) := by decide +kernel
theorem d1_8 : decode prog_44_method_3_code 8 = .ok (.invokestatic 40, 3) := by decide +kernel
theorem d1_11 : decode prog_44_method_3_code 11 = .ok (.invokespecial 46, 3) := by decide +kernel
theorem d1_14 : decode prog_44_method_3_code 14 = .ok (.areturn, 1) := by decide +kernel
theorem pd_4 : parseMethodDescriptor "(I)Ljava/lang/String;" = some ⟨[.int], some (.object "java/lang/String")⟩ := by decide +kernel
theorem pd_5 : parseMethodDescriptor "(IJLjava/lang/String;)V" = some ⟨[.int, .long, (.object "java/lang/String")], none⟩ := by decide +kernel
theorem ef_1 (m : MethodId) (ct : Int32) : entryFrame m #[(.int ct)] 1 = mkF m 0 #[iv ct] [] := by first | (simp [entryFrame, mkF, argsToLocals, Value.category]; done) | rfl
def Q1 (Z : State) (ct : Int32) (N : Nat) (G1 : Int32) (dO : Addr) (dT : Addr) (cO : Cell) (cT : Cell) (h0 : Heap) (n0 : Nat) (v : Option Value) (h : Heap) (L : List Loc) : Prop := ∃ b a, v = some (.ref b) ∧ Fr n0 L ∧ Keep h0 h [] ∧ n0 ≤ b ∧ Exa Z h b "com/example/vertumnus/vertumnus/interactions/Cardinality" ∧ Fld Z h b "com/example/vertumnus/vertumnus/interactions/Cardinality" "min" "I" (.int N.toInt32) ∧ Fld Z h b "com/example/vertumnus/vertumnus/interactions/Cardinality" "max" "J" (.long (N.toInt32).toInt64) ∧ Fld Z h b "com/example/vertumnus/vertumnus/interactions/Cardinality" "text" "Ljava/lang/String;" (.ref a) ∧ own_Str Z h 0 a (own_digs N (own_ln N))
set_option maxRecDepth 65536 in
set_option maxHeartbeats 40000000 in
theorem rm1 (l : Launch) (Z : State) (a0 : Array Value) (hw : ∀ d ∈ tables_1, d.before a0 Z = true) (ws : List Jvm.Cond) (ct : Int32) (N : Nat) (G1 : Int32) (dO : Addr) (dT : Addr) (cO : Cell) (cT : Cell) (h0 : Heap) (n0 : Nat) (Z0 : n0 ≤ h0.size) (hct : ct = N.toInt32) (hN : N < 2147483648) (O2 : Sta Z Z.heap "java/lang/String" "COMPACT_STRINGS" "Z" (.int G1)) (P5 : ¬ (G1 = (0 : Int32))) (SO : Sta Z Z.heap "java/lang/Integer" "DigitOnes" "[B" (.ref dO)) (ST : Sta Z Z.heap "java/lang/Integer" "DigitTens" "[B" (.ref dT)) (AO : Arr Z Z.heap dO cO .byte) (AT : Arr Z Z.heap dT cT .byte) (hO : ∀ r : Nat, r < 100 → ¬ (r.toInt32 < 0 ∨ cO.slots.size ≤ r.toInt32.toNatClampNeg) ∧ cO.slots[r.toInt32.toNatClampNeg]? = some (.int (own_d r))) (hT : ∀ r : Nat, r < 100 → ¬ (r.toInt32 < 0 ∨ cT.slots.size ≤ r.toInt32.toNatClampNeg) ∧ cT.slots[r.toInt32.toNatClampNeg]? = some (.int (own_d (r / 10)))) (Od : Old Z n0 h0) :
    MetFree l (⟨"com/example/vertumnus/vertumnus/interactions/Cardinality", "exactly", "(I)Lcom/example/vertumnus/vertumnus/interactions/Cardinality;"⟩ : MethodName) (head1 (Jvm.Cond.code (⟨"com/example/vertumnus/vertumnus/interactions/Cardinality", "exactly", "(I)Lcom/example/vertumnus/vertumnus/interactions/Cardinality;"⟩ : MethodName) prog_44_method_3_code 1 (some (.object "com/example/vertumnus/vertumnus/interactions/Cardinality")) :: ws) ({ frames := 3, cells := 3, slots := 17, locals := 46 } : Room)) (fun a U => a = #[(.int ct)] ∧ Z.Warmed39 U.vm ∧ U.heap = h0) (fun _ _ _ _ _ => True) (fun _ U o U' => ∃ v L, o = .returned v ∧ Q1 Z ct N G1 dO dT cO cT h0 n0 v U'.heap L ∧ FrameEnd U o U' L ({ frames := 3, cells := 3, slots := 17, locals := 46 } : Room).cells ({ frames := 3, cells := 3, slots := 17, locals := 46 } : Room).slots) := by
  refine MetFree.of_bodySF (plainFor_of_name pn_2) hisR ?_
  intro p e s m args below meth c s₁ Bd hml0 hP hK
  obtain ⟨rfl, hZ, hh⟩ := hP
  have hx := Bd.exec
  have hby := Bd.bytes
  have hml : c.maxLocals = 1 := hml0
  have hown : s.vm.findClass "com/example/vertumnus/vertumnus/interactions/Cardinality" = some m.cls := findClass_of_methodNamed Bd.named
  have hnm := (name_of_methodNamed Bd.named Bd.method).1
  have hlk : meth.locks = false := Bd.notSynchronized
  have hrt := Bd.returns
  have X0 : Stand p l e ({ frames := 3, cells := 3, slots := 17, locals := 46 } : Room) s m #[(.int ct)] below meth c s₁ [] 0 0 := Stand.of_body Bd
  have e0 : s₁.heap = h0 := by rw [← hh, Bd.state]; rfl
  have N0 := Fr.nil n0
  show own_Endz p.tables e below (own_EndQ s ({ frames := 3, cells := 3, slots := 17, locals := 46 } : Room).cells ({ frames := 3, cells := 3, slots := 17, locals := 46 } : Room).slots (Q1 Z ct N G1 dO dT cO cT h0 n0)) (s₁.setTop (entryFrame m #[(.int ct)] 1))
  refine own_cast (ef_1 m ct) ?_
  subst hct
  obtain ⟨T1, h1, X1, e1, E1, A1, D1, -, st1⟩ := newO X0 hx hZ hown (hw _ (List.mem_of_getElem? (i := 5) rfl)) (hw _ (List.mem_of_getElem? (i := 6) rfl)) (hw _ (List.mem_of_getElem? (i := 3) rfl)) e0 (g := (mkF m 0 #[iv (N.toInt32)] [])) rfl (hb hby d1_0) (by decide) (by decide)
  obtain ⟨b1, g1⟩ : ∃ z, z = h0.size := ⟨_, rfl⟩
  rw [← g1] at A1 D1 st1
  have g_b1 : n0 ≤ b1 := Nat.le_trans Z0 (Nat.le_of_eq g1.symm)
  have sz_b1 : h0.size ≤ b1 := Nat.le_trans (Keep.refl h0 []).1 (Nat.le_of_eq g1.symm)
  have Zs1 : n0 ≤ h1.size := Nat.le_trans Z0 E1.1
  have Kp1 : Keep h0 h1 [] := (Keep.refl h0 []).ext E1
  have Ol1 := Od.ext E1
  have F_min_b1 : Fld Z h1 b1 "com/example/vertumnus/vertumnus/interactions/Cardinality" "min" "I" (.int 0) := D1 (Or.inr (hw _ (List.mem_of_getElem? (i := 39) rfl))) (ty := .int) (by decide)
  have F_max_b1 : Fld Z h1 b1 "com/example/vertumnus/vertumnus/interactions/Cardinality" "max" "J" (.long 0) := D1 (Or.inr (hw _ (List.mem_of_getElem? (i := 41) rfl))) (ty := .long) (by decide)
  have F_text_b1 : Fld Z h1 b1 "com/example/vertumnus/vertumnus/interactions/Cardinality" "text" "Ljava/lang/String;" .null := D1 (Or.inr (hw _ (List.mem_of_getElem? (i := 43) rfl))) (ty := (.object "java/lang/String")) (by decide)
  refine own_go (b := T1.setTop (mkF m 3 #[iv (N.toInt32)] [(.ref b1)])) st1 ?_
  refine own_go (b := T1.setTop (mkF m 4 #[iv (N.toInt32)] [(.ref b1), (.ref b1)])) (fun t k => XS.dup X1.here hx rfl (hb hby d1_3) rfl rfl k) ?_
  refine own_go (b := T1.setTop (mkF m 5 #[iv (N.toInt32)] [(.int (N.toInt32)), (.ref b1), (.ref b1)])) (fun t k => XS.iloadN X1.here hx rfl (hb hby d1_4) rfl  k) ?_
  refine own_go (b := T1.setTop (mkF m 6 #[iv (N.toInt32)] [(.int (N.toInt32)), (.int (N.toInt32)), (.ref b1), (.ref b1)])) (fun t k => XS.iloadN X1.here hx rfl (hb hby d1_5) rfl  k) ?_
  refine own_go (b := T1.setTop (mkF m 7 #[iv (N.toInt32)] [(.long ((N.toInt32).toInt64)), (.int (N.toInt32)), (.ref b1), (.ref b1)])) (fun t k => XS.i2l X1.here hx rfl (hb hby d1_6) rfl k) ?_
  refine own_go (b := T1.setTop (mkF m 8 #[iv (N.toInt32)] [(.int (N.toInt32)), (.long ((N.toInt32).toInt64)), (.int (N.toInt32)), (.ref b1), (.ref b1)])) (fun t k => XS.iloadN X1.here hx rfl (hb hby d1_7) rfl  k) ?_
  obtain ⟨_, _, ⟨T2, L2, k2, n2⟩, -, X2, ⟨Lc2, hQ2, l2, y2, z2⟩, st2⟩ := Jvm.LawKit.callS X1 hx (y := (⟨"java/lang/Integer", "toString", "(I)Ljava/lang/String;"⟩ : MethodName)) hown (mvT hZ (hw _ (List.mem_of_getElem? (i := 7) rfl))) (mvT hZ (hw _ (List.mem_of_getElem? (i := 8) rfl))) (mvT hZ (hw _ (List.mem_of_getElem? (i := 9) rfl))) (mvT hZ (hw _ (List.mem_of_getElem? (i := 10) rfl))) (by decide) (backOf (W := 5) (rm2 l Z a0 hw [] (N.toInt32) N G1 dO dT cO cT h1 n0 Zs1 rfl hN O2 P5 SO ST AO AT hO hT Ol1) hZ (hw _ (List.mem_of_getElem? (i := 10) rfl)) (hw _ (List.mem_of_getElem? (i := 9) rfl)) (by decide) (by decide)) (g := (mkF m 8 #[iv (N.toInt32)] [(.int (N.toInt32)), (.long ((N.toInt32).toInt64)), (.int (N.toInt32)), (.ref b1), (.ref b1)])) rfl (by rw [hml]; rfl) (argsL := [(.int (N.toInt32))]) (rest := [(.long ((N.toInt32).toInt64)), (.int (N.toInt32)), (.ref b1), (.ref b1)]) (lenOf pd_4 rfl) rfl (by show 2 * 0 + _ ≤ _; exact Nat.le_of_eq rfl) (hb hby d1_8) (fun _ _ => ⟨rfl, e1, (by decide : 1 + 2 ≤ _), (by decide : 3 + 14 ≤ _)⟩)
  dsimp only [Pt.U, Pt.locs, Pt.cells, Pt.slots] at X2 l2 y2 z2 st2 hQ2
  subst l2 y2 z2
  obtain ⟨as2, rfl, N2q, K2, hS2⟩ := hQ2
  have Zs2 : n0 ≤ T2.heap.size := Nat.le_trans Zs1 K2.1
  have N2 := Fr.app N0 N2q
  have Kp2 : Keep h0 T2.heap [] := Kp1.trans K2 (fun x hx => nomatch hx)
  have Ol2 := Ol1.keep K2 all0
  refine own_go (b := T2.setTop (mkF m 11 #[iv (N.toInt32)] [(.ref as2), (.long ((N.toInt32).toInt64)), (.int (N.toInt32)), (.ref b1), (.ref b1)])) st2 ?_
  obtain ⟨_, _, ⟨T3, L3, k3, n3⟩, -, X3, ⟨Lc3, hQ3, l3, y3, z3⟩, st3⟩ := X2.specialBack hx (y := (⟨"com/example/vertumnus/vertumnus/interactions/Cardinality", "<init>", "(IJLjava/lang/String;)V"⟩ : MethodName)) rfl hown (mvT hZ (hw _ (List.mem_of_getElem? (i := 34) rfl))) (mvT hZ (hw _ (List.mem_of_getElem? (i := 35) rfl))) (mvT hZ (hw _ (List.mem_of_getElem? (i := 36) rfl))) (by decide) (backOf (W := 1) (rm7 l Z a0 hw [] b1 (N.toInt32) ((N.toInt32).toInt64) as2 N T2.heap n0 Zs2 rfl rfl hN (A1.keep K2) (F_min_b1.keep K2 nin0) (F_max_b1.keep K2 nin0) (F_text_b1.keep K2 nin0) g_b1) hZ (hw _ (List.mem_of_getElem? (i := 36) rfl)) (hw _ (List.mem_of_getElem? (i := 3) rfl)) (by decide) (by decide)) (g := (mkF m 11 #[iv (N.toInt32)] [(.ref as2), (.long ((N.toInt32).toInt64)), (.int (N.toInt32)), (.ref b1), (.ref b1)])) rfl (by rw [hml]; rfl) (Steps.refl _) (a := b1) (argsL := [(.int (N.toInt32)), (.long ((N.toInt32).toInt64)), (.ref as2)]) (rest := [(.ref b1)]) (lenOf pd_5 rfl) rfl (by show 2 * 0 + _ ≤ _; exact Nat.le_of_eq rfl) (hb hby d1_11) (fun _ _ => ⟨rfl, rfl, (by decide : 3 + 0 ≤ _), (by decide : 17 + 0 ≤ _)⟩)
  dsimp only [Pt.U, Pt.locs, Pt.cells, Pt.slots] at X3 l3 y3 z3 st3 hQ3
  subst l3 y3 z3
  obtain ⟨rfl, N3q, K3, Ek3, Fa3, Fb3, Fc3⟩ := hQ3
  have hS3 := hS2.keep K3 (by intro y hy; cases List.mem_singleton.mp hy; exact (Exa.lt A1))
  have Zs3 : n0 ≤ T3.heap.size := Nat.le_trans Zs2 K3.1
  have N3 := Fr.app N2 N3q
  have Kp3 : Keep h0 T3.heap [] := Kp2.trans K3 (by intro x hx; simp only [List.mem_cons, List.not_mem_nil, or_false] at hx; rcases hx with rfl <;> first | exact Or.inr (by assumption) | exact Or.inl (by simp))
  have Ol3 := Ol2.keep K3 (allS g_b1 all0)
  refine own_tr (b := T3.setTop (mkF m 14 #[iv (N.toInt32)] [(.ref b1)])) st3 ?_
  exact own_retA X3 hx hlk hrt rfl rfl (hb hby d1_14) (Nat.le_of_ble_eq_true rfl) (Nat.le_of_ble_eq_true rfl) (⟨b1, _, rfl, N3, Kp3, g_b1, Ek3, Fa3, Fb3, Fc3, hS3.low (Nat.zero_le _)⟩)
theorem d8_0 : decode prog_44_method_9_code 0 = .ok (.aload_n 0, 1) := by decide +kernel
theorem d8_1 : decode prog_44_method_9_code 1 = .ok (.getfield 23, 3) := by decide +kernel
theorem d8_4 : decode prog_44_method_9_code 4 = .ok (.ldc2_w 52, 3) := by decide +kernel
theorem d8_7 : decode prog_44_method_9_code 7 = .ok (.lcmp, 1) := by decide +kernel
theorem d8_8 : decode prog_44_method_9_code 8 = .ok (.ifCond .eq 7, 3) := by decide +kernel
theorem d8_11 : decode prog_44_method_9_code 11 = .ok (.iconst 1, 1) := by decide +kernel
theorem d8_12 : decode prog_44_method_9_code 12 = .ok (.goto 4, 3) := by decide +kernel
theorem d8_15 : decode prog_44_method_9_code 15 = .ok (.iconst 0, 1) := by decide +kernel
theorem d8_16 : decode prog_44_method_9_code 16 = .ok (.ireturn, 1) := by decide +kernel
theorem ef_8 (m : MethodId) (r : Addr) : entryFrame m #[(.ref r)] 1 = mkF m 0 #[rv r] [] := by first | (simp [entryFrame, mkF, argsToLocals, Value.category]; done) | rfl
def Q8 (Z : State) (r : Addr) (N : Nat) (h0 : Heap) (n0 : Nat) (v : Option Value) (h : Heap) (L : List Loc) : Prop := v = some (.int 1) ∧ Fr n0 L ∧ h = h0
set_option maxRecDepth 65536 in
set_option maxHeartbeats 40000000 in
theorem rm8 (l : Launch) (Z : State) (a0 : Array Value) (hw : ∀ d ∈ tables_1, d.before a0 Z = true) (ws : List Jvm.Cond) (r : Addr) (N : Nat) (h0 : Heap) (n0 : Nat) (Z0 : n0 ≤ h0.size) (Fma : Fld Z h0 r "com/example/vertumnus/vertumnus/interactions/Cardinality" "max" "J" (.long (N.toInt32).toInt64)) :
    MetFree l (⟨"com/example/vertumnus/vertumnus/interactions/Cardinality", "hasUpperLimit", "()Z"⟩ : MethodName) (head1 (Jvm.Cond.code (⟨"com/example/vertumnus/vertumnus/interactions/Cardinality", "hasUpperLimit", "()Z"⟩ : MethodName) prog_44_method_9_code 1 (some .boolean) :: ws) ({ frames := 0, cells := 0, slots := 0, locals := 0 } : Room)) (fun a U => a = #[(.ref r)] ∧ Z.Warmed39 U.vm ∧ U.heap = h0) (fun _ _ _ _ _ => True) (fun _ U o U' => ∃ v L, o = .returned v ∧ Q8 Z r N h0 n0 v U'.heap L ∧ FrameEnd U o U' L ({ frames := 0, cells := 0, slots := 0, locals := 0 } : Room).cells ({ frames := 0, cells := 0, slots := 0, locals := 0 } : Room).slots) := by
  refine MetFree.of_bodySF (plainFor_of_name pn_2) hisR ?_
  intro p e s m args below meth c s₁ Bd hml0 hP hK
  obtain ⟨rfl, hZ, hh⟩ := hP
  have hx := Bd.exec
  have hby := Bd.bytes
  have hml : c.maxLocals = 1 := hml0
  have hown : s.vm.findClass "com/example/vertumnus/vertumnus/interactions/Cardinality" = some m.cls := findClass_of_methodNamed Bd.named
  have hnm := (name_of_methodNamed Bd.named Bd.method).1
  have hlk : meth.locks = false := Bd.notSynchronized
  have hrt := Bd.returns
  have X0 : Stand p l e ({ frames := 0, cells := 0, slots := 0, locals := 0 } : Room) s m #[(.ref r)] below meth c s₁ [] 0 0 := Stand.of_body Bd
  have e0 : s₁.heap = h0 := by rw [← hh, Bd.state]; rfl
  have N0 := Fr.nil n0
  show own_Endz p.tables e below (own_EndQ s ({ frames := 0, cells := 0, slots := 0, locals := 0 } : Room).cells ({ frames := 0, cells := 0, slots := 0, locals := 0 } : Room).slots (Q8 Z r N h0 n0)) (s₁.setTop (entryFrame m #[(.ref r)] 1))
  refine own_cast (ef_8 m r) ?_
  refine own_go (b := s₁.setTop (mkF m 1 #[rv r] [(.ref r)])) (fun t k => XS.aloadN X0.here hx rfl (hb hby d8_0) rfl rfl k) ?_
  obtain ⟨T1, X1, e1, st1⟩ := getF X0 hx hZ hown (host := "") (Or.inl (hw _ (List.mem_of_getElem? (i := 40) rfl))) Via.refl e0 Fma (g := (mkF m 1 #[rv r] [(.ref r)])) rfl rfl (hb hby d8_1)
  refine own_go (b := T1.setTop (mkF m 4 #[rv r] [(.long ((N.toInt32).toInt64))])) st1 ?_
  refine own_go (b := T1.setTop (mkF m 7 #[rv r] [(.long 9223372036854775807), (.long ((N.toInt32).toInt64))])) (fun t k => X1.ldc2Long hx hown (mvT hZ (hw _ (List.mem_of_getElem? (i := 49) rfl))) (g := (mkF m 4 #[rv r] [(.long ((N.toInt32).toInt64))])) rfl (hb hby d8_4) t k) ?_
  refine own_go (b := T1.setTop (mkF m 8 #[rv r] [(.int (lcmpW ((N.toInt32).toInt64) (9223372036854775807 : Int64)))])) (fun t k => XS.lcmp X1.here hx rfl (hb hby d8_7) rfl k) ?_
  refine own_go (b := T1.setTop (mkF m 11 #[rv r] [])) (fun t k => XS.ifNo X1.here hx rfl (hb hby d8_8) rfl ((if0 _ _).trans (feq (fun q => by have q' := congrArg Int64.toInt ((lw_eq _ _).mp q); rw [c_i2l] at q'; have r := rng32 N.toInt32; have e9 : (9223372036854775807 : Int64).toInt = 9223372036854775807 := (by decide); omega)).1) k) ?_
  refine own_go (b := T1.setTop (mkF m 12 #[rv r] [(.int 1)])) (fun t k => XS.iconst X1.here hx rfl (hb hby d8_11) k) ?_
  refine own_go (b := T1.setTop (mkF m 16 #[rv r] [(.int 1)])) (fun t k => XS.goto X1.here hx rfl (pc0 := 12) (pc' := 16) rfl (hb hby d8_12) (by decide) (by decide) k) ?_
  exact own_retN X1 hx hlk (t := .boolean) hrt (by simp) (hb hby d8_16) (Nat.le_of_ble_eq_true rfl) (Nat.le_of_ble_eq_true rfl) (⟨by first | rfl | (simp only [if_true, if_true, if_false]; done) | (simp only [if_true, if_true, if_false]; rfl) | (simp []; done) | (simp []; rfl), N0, e1⟩)
theorem d9_0 : decode prog_44_method_10_code 0 = .ok (.aload_n 0, 1) := by decide +kernel
theorem d9_1 : decode prog_44_method_10_code 1 = .ok (.getfield 19, 3) := by decide +kernel
theorem d9_4 : decode prog_44_method_10_code 4 = .ok (.ifCond .le 7, 3) := by decide +kernel
theorem d9_7 : decode prog_44_method_10_code 7 = .ok (.iconst 1, 1) := by decide +kernel
theorem d9_8 : decode prog_44_method_10_code 8 = .ok (.goto 4, 3) := by decide +kernel
theorem d9_11 : decode prog_44_method_10_code 11 = .ok (.iconst 0, 1) := by decide +kernel
theorem d9_12 : decode prog_44_method_10_code 12 = .ok (.ireturn, 1) := by decide +kernel
theorem ef_9 (m : MethodId) (r : Addr) : entryFrame m #[(.ref r)] 1 = mkF m 0 #[rv r] [] := by first | (simp [entryFrame, mkF, argsToLocals, Value.category]; done) | rfl
def Q9 (Z : State) (r : Addr) (N : Nat) (h0 : Heap) (n0 : Nat) (v : Option Value) (h : Heap) (L : List Loc) : Prop := v = some (.int (if (0 : Int32) < N.toInt32 then 1 else 0)) ∧ Fr n0 L ∧ h = h0
set_option maxRecDepth 65536 in
set_option maxHeartbeats 40000000 in
theorem rm9 (l : Launch) (Z : State) (a0 : Array Value) (hw : ∀ d ∈ tables_1, d.before a0 Z = true) (ws : List Jvm.Cond) (r : Addr) (N : Nat) (h0 : Heap) (n0 : Nat) (Z0 : n0 ≤ h0.size) (Fmi : Fld Z h0 r "com/example/vertumnus/vertumnus/interactions/Cardinality" "min" "I" (.int N.toInt32)) :
    MetFree l (⟨"com/example/vertumnus/vertumnus/interactions/Cardinality", "hasLowerLimit", "()Z"⟩ : MethodName) (head1 (Jvm.Cond.code (⟨"com/example/vertumnus/vertumnus/interactions/Cardinality", "hasLowerLimit", "()Z"⟩ : MethodName) prog_44_method_10_code 1 (some .boolean) :: ws) ({ frames := 0, cells := 0, slots := 0, locals := 0 } : Room)) (fun a U => a = #[(.ref r)] ∧ Z.Warmed39 U.vm ∧ U.heap = h0) (fun _ _ _ _ _ => True) (fun _ U o U' => ∃ v L, o = .returned v ∧ Q9 Z r N h0 n0 v U'.heap L ∧ FrameEnd U o U' L ({ frames := 0, cells := 0, slots := 0, locals := 0 } : Room).cells ({ frames := 0, cells := 0, slots := 0, locals := 0 } : Room).slots) := by
  refine MetFree.of_bodySF (plainFor_of_name pn_2) hisR ?_
  intro p e s m args below meth c s₁ Bd hml0 hP hK
  obtain ⟨rfl, hZ, hh⟩ := hP
  have hx := Bd.exec
  have hby := Bd.bytes
  have hml : c.maxLocals = 1 := hml0
  have hown : s.vm.findClass "com/example/vertumnus/vertumnus/interactions/Cardinality" = some m.cls := findClass_of_methodNamed Bd.named
  have hnm := (name_of_methodNamed Bd.named Bd.method).1
  have hlk : meth.locks = false := Bd.notSynchronized
  have hrt := Bd.returns
  have X0 : Stand p l e ({ frames := 0, cells := 0, slots := 0, locals := 0 } : Room) s m #[(.ref r)] below meth c s₁ [] 0 0 := Stand.of_body Bd
  have e0 : s₁.heap = h0 := by rw [← hh, Bd.state]; rfl
  have N0 := Fr.nil n0
  show own_Endz p.tables e below (own_EndQ s ({ frames := 0, cells := 0, slots := 0, locals := 0 } : Room).cells ({ frames := 0, cells := 0, slots := 0, locals := 0 } : Room).slots (Q9 Z r N h0 n0)) (s₁.setTop (entryFrame m #[(.ref r)] 1))
  refine own_cast (ef_9 m r) ?_
  refine own_go (b := s₁.setTop (mkF m 1 #[rv r] [(.ref r)])) (fun t k => XS.aloadN X0.here hx rfl (hb hby d9_0) rfl rfl k) ?_
  obtain ⟨T1, X1, e1, st1⟩ := getF X0 hx hZ hown (host := "") (Or.inl (hw _ (List.mem_of_getElem? (i := 38) rfl))) Via.refl e0 Fmi (g := (mkF m 1 #[rv r] [(.ref r)])) rfl rfl (hb hby d9_1)
  refine own_go (b := T1.setTop (mkF m 4 #[rv r] [(.int (N.toInt32))])) st1 ?_
  by_cases hc2 : (0 : Int32) < (N.toInt32)
  · refine own_go (b := T1.setTop (mkF m 7 #[rv r] [])) (fun t k => XS.ifNo X1.here hx rfl (hb hby d9_4) rfl ((if0 _ _).trans (tlt hc2).2.2.2) k) ?_
    refine own_go (b := T1.setTop (mkF m 8 #[rv r] [(.int 1)])) (fun t k => XS.iconst X1.here hx rfl (hb hby d9_7) k) ?_
    refine own_go (b := T1.setTop (mkF m 12 #[rv r] [(.int 1)])) (fun t k => XS.goto X1.here hx rfl (pc0 := 8) (pc' := 12) rfl (hb hby d9_8) (by decide) (by decide) k) ?_
    exact own_retN X1 hx hlk (t := .boolean) hrt (by simp) (hb hby d9_12) (Nat.le_of_ble_eq_true rfl) (Nat.le_of_ble_eq_true rfl) (⟨by first | rfl | (simp only [nar, eq_true hc2, if_true, if_false]; done) | (simp only [nar, eq_true hc2, if_true, if_false]; rfl) | (simp [nar, eq_true hc2]; done) | (simp [nar, eq_true hc2]; rfl), N0, e1⟩)
  · refine own_go (b := T1.setTop (mkF m 11 #[rv r] [])) (fun t k => XS.ifYes X1.here hx rfl (pc0 := 4) (pc' := 11) rfl (hb hby d9_4) rfl ((if0 _ _).trans (flt hc2).2.2.2) (by decide) (by decide) k) ?_
    refine own_go (b := T1.setTop (mkF m 12 #[rv r] [(.int 0)])) (fun t k => XS.iconst X1.here hx rfl (hb hby d9_11) k) ?_
    exact own_retN X1 hx hlk (t := .boolean) hrt (by simp) (hb hby d9_12) (Nat.le_of_ble_eq_true rfl) (Nat.le_of_ble_eq_true rfl) (⟨by first | rfl | (simp only [nar, eq_false hc2, if_true, if_false]; done) | (simp only [nar, eq_false hc2, if_true, if_false]; rfl) | (simp [nar, eq_false hc2]; done) | (simp [nar, eq_false hc2]; rfl), N0, e1⟩)
theorem d11_0 : decode prog_44_method_12_code 0 = .ok (.lload_n 1, 1) := by decide +kernel
theorem d11_1 : decode prog_44_method_12_code 1 = .ok (.aload_n 0, 1) := by decide +kernel
theorem d11_2 : decode prog_44_method_12_code 2 = .ok (.getfield 19, 3) := by decide +kernel
theorem d11_5 : decode prog_44_method_12_code 5 = .ok (.i2l, 1) := by decide +kernel
theorem d11_6 : decode prog_44_method_12_code 6 = .ok (.lcmp, 1) := by decide +kernel
theorem d11_7 : decode prog_44_method_12_code 7 = .ok (.ifCond .lt 16, 3) := by decide +kernel
theorem d11_10 : decode prog_44_method_12_code 10 = .ok (.lload_n 1, 1) := by decide +kernel
theorem d11_11 : decode prog_44_method_12_code 11 = .ok (.aload_n 0, 1) := by decide +kernel
theorem d11_12 : decode prog_44_method_12_code 12 = .ok (.getfield 23, 3) := by decide +kernel
theorem d11_15 : decode prog_44_method_12_code 15 = .ok (.lcmp, 1) := by decide +kernel
theorem d11_16 : decode prog_44_method_12_code 16 = .ok (.ifCond .gt 7, 3) := by decide +kernel
theorem d11_19 : decode prog_44_method_12_code 19 = .ok (.iconst 1, 1) := by decide +kernel
theorem d11_20 : decode prog_44_method_12_code 20 = .ok (.goto 4, 3) := by decide +kernel
theorem d11_23 : decode prog_44_method_12_code 23 = .ok (.iconst 0, 1) := by decide +kernel
theorem d11_24 : decode prog_44_method_12_code 24 = .ok (.ireturn, 1) := by decide +kernel
theorem ef_11 (m : MethodId) (r : Addr) (xi : Int64) : entryFrame m #[(.ref r), (.long xi)] 3 = mkF m 0 #[rv r, .val (.long xi), .second] [] := by first | (simp [entryFrame, mkF, argsToLocals, Value.category]; done) | rfl
def Q11 (Z : State) (r : Addr) (xi : Int64) (N : Nat) (h0 : Heap) (n0 : Nat) (v : Option Value) (h : Heap) (L : List Loc) : Prop := v = some (.int (if lcmpW xi ((N.toInt32).toInt64) = 0 then 1 else 0)) ∧ Fr n0 L ∧ h = h0
set_option maxRecDepth 65536 in
set_option maxHeartbeats 40000000 in
theorem rm11 (l : Launch) (Z : State) (a0 : Array Value) (hw : ∀ d ∈ tables_1, d.before a0 Z = true) (ws : List Jvm.Cond) (r : Addr) (xi : Int64) (N : Nat) (h0 : Heap) (n0 : Nat) (Z0 : n0 ≤ h0.size) (Fmi : Fld Z h0 r "com/example/vertumnus/vertumnus/interactions/Cardinality" "min" "I" (.int N.toInt32)) (Fma : Fld Z h0 r "com/example/vertumnus/vertumnus/interactions/Cardinality" "max" "J" (.long (N.toInt32).toInt64)) :
    MetFree l (⟨"com/example/vertumnus/vertumnus/interactions/Cardinality", "isSatisfiedBy", "(J)Z"⟩ : MethodName) (head1 (Jvm.Cond.code (⟨"com/example/vertumnus/vertumnus/interactions/Cardinality", "isSatisfiedBy", "(J)Z"⟩ : MethodName) prog_44_method_12_code 3 (some .boolean) :: ws) ({ frames := 0, cells := 0, slots := 0, locals := 0 } : Room)) (fun a U => a = #[(.ref r), (.long xi)] ∧ Z.Warmed39 U.vm ∧ U.heap = h0) (fun _ _ _ _ _ => True) (fun _ U o U' => ∃ v L, o = .returned v ∧ Q11 Z r xi N h0 n0 v U'.heap L ∧ FrameEnd U o U' L ({ frames := 0, cells := 0, slots := 0, locals := 0 } : Room).cells ({ frames := 0, cells := 0, slots := 0, locals := 0 } : Room).slots) := by
  refine MetFree.of_bodySF (plainFor_of_name pn_2) hisR ?_
  intro p e s m args below meth c s₁ Bd hml0 hP hK
  obtain ⟨rfl, hZ, hh⟩ := hP
  have hx := Bd.exec
  have hby := Bd.bytes
  have hml : c.maxLocals = 3 := hml0
  have hown : s.vm.findClass "com/example/vertumnus/vertumnus/interactions/Cardinality" = some m.cls := findClass_of_methodNamed Bd.named
  have hnm := (name_of_methodNamed Bd.named Bd.method).1
  have hlk : meth.locks = false := Bd.notSynchronized
  have hrt := Bd.returns
  have X0 : Stand p l e ({ frames := 0, cells := 0, slots := 0, locals := 0 } : Room) s m #[(.ref r), (.long xi)] below meth c s₁ [] 0 0 := Stand.of_body Bd
  have e0 : s₁.heap = h0 := by rw [← hh, Bd.state]; rfl
  have N0 := Fr.nil n0
  show own_Endz p.tables e below (own_EndQ s ({ frames := 0, cells := 0, slots := 0, locals := 0 } : Room).cells ({ frames := 0, cells := 0, slots := 0, locals := 0 } : Room).slots (Q11 Z r xi N h0 n0)) (s₁.setTop (entryFrame m #[(.ref r), (.long xi)] 3))
  refine own_cast (ef_11 m r xi) ?_
  refine own_go (b := s₁.setTop (mkF m 1 #[rv r, .val (.long xi), .second] [(.long xi)])) (fun t k => XS.lloadN X0.here hx rfl (hb hby d11_0) rfl  k) ?_
  refine own_go (b := s₁.setTop (mkF m 2 #[rv r, .val (.long xi), .second] [(.ref r), (.long xi)])) (fun t k => XS.aloadN X0.here hx rfl (hb hby d11_1) rfl rfl k) ?_
  obtain ⟨T1, X1, e1, st1⟩ := getF X0 hx hZ hown (host := "") (Or.inl (hw _ (List.mem_of_getElem? (i := 38) rfl))) Via.refl e0 Fmi (g := (mkF m 2 #[rv r, .val (.long xi), .second] [(.ref r), (.long xi)])) rfl rfl (hb hby d11_2)
  refine own_go (b := T1.setTop (mkF m 5 #[rv r, .val (.long xi), .second] [(.int (N.toInt32)), (.long xi)])) st1 ?_
  refine own_go (b := T1.setTop (mkF m 6 #[rv r, .val (.long xi), .second] [(.long ((N.toInt32).toInt64)), (.long xi)])) (fun t k => XS.i2l X1.here hx rfl (hb hby d11_5) rfl k) ?_
  refine own_go (b := T1.setTop (mkF m 7 #[rv r, .val (.long xi), .second] [(.int (lcmpW xi ((N.toInt32).toInt64)))])) (fun t k => XS.lcmp X1.here hx rfl (hb hby d11_6) rfl k) ?_
  by_cases hc2 : (lcmpW xi ((N.toInt32).toInt64)) < (0 : Int32)
  · refine own_go (b := T1.setTop (mkF m 23 #[rv r, .val (.long xi), .second] [])) (fun t k => XS.ifYes X1.here hx rfl (pc0 := 7) (pc' := 23) rfl (hb hby d11_7) rfl ((if0 _ _).trans (tlt hc2).1) (by decide) (by decide) k) ?_
    refine own_go (b := T1.setTop (mkF m 24 #[rv r, .val (.long xi), .second] [(.int 0)])) (fun t k => XS.iconst X1.here hx rfl (hb hby d11_23) k) ?_
    exact own_retN X1 hx hlk (t := .boolean) hrt (by simp) (hb hby d11_24) (Nat.le_of_ble_eq_true rfl) (Nat.le_of_ble_eq_true rfl) (⟨congrArg (fun q => some (Value.int q)) ((if_neg (fun q => ((own_obs xi ((N.toInt32).toInt64)).mpr q).1 hc2)).symm), N0, e1⟩)
  · refine own_go (b := T1.setTop (mkF m 10 #[rv r, .val (.long xi), .second] [])) (fun t k => XS.ifNo X1.here hx rfl (hb hby d11_7) rfl ((if0 _ _).trans (flt hc2).1) k) ?_
    refine own_go (b := T1.setTop (mkF m 11 #[rv r, .val (.long xi), .second] [(.long xi)])) (fun t k => XS.lloadN X1.here hx rfl (hb hby d11_10) rfl  k) ?_
    refine own_go (b := T1.setTop (mkF m 12 #[rv r, .val (.long xi), .second] [(.ref r), (.long xi)])) (fun t k => XS.aloadN X1.here hx rfl (hb hby d11_11) rfl rfl k) ?_
    obtain ⟨T3, X3, e3, st3⟩ := getF X1 hx hZ hown (host := "") (Or.inl (hw _ (List.mem_of_getElem? (i := 40) rfl))) Via.refl e1 Fma (g := (mkF m 12 #[rv r, .val (.long xi), .second] [(.ref r), (.long xi)])) rfl rfl (hb hby d11_12)
    refine own_go (b := T3.setTop (mkF m 15 #[rv r, .val (.long xi), .second] [(.long ((N.toInt32).toInt64)), (.long xi)])) st3 ?_
    refine own_go (b := T3.setTop (mkF m 16 #[rv r, .val (.long xi), .second] [(.int (lcmpW xi ((N.toInt32).toInt64)))])) (fun t k => XS.lcmp X3.here hx rfl (hb hby d11_15) rfl k) ?_
    by_cases hc4 : (0 : Int32) < (lcmpW xi ((N.toInt32).toInt64))
    · refine own_go (b := T3.setTop (mkF m 23 #[rv r, .val (.long xi), .second] [])) (fun t k => XS.ifYes X3.here hx rfl (pc0 := 16) (pc' := 23) rfl (hb hby d11_16) rfl ((if0 _ _).trans (tlt hc4).2.2.1) (by decide) (by decide) k) ?_
      refine own_go (b := T3.setTop (mkF m 24 #[rv r, .val (.long xi), .second] [(.int 0)])) (fun t k => XS.iconst X3.here hx rfl (hb hby d11_23) k) ?_
      exact own_retN X3 hx hlk (t := .boolean) hrt (by simp) (hb hby d11_24) (Nat.le_of_ble_eq_true rfl) (Nat.le_of_ble_eq_true rfl) (⟨congrArg (fun q => some (Value.int q)) ((if_neg (fun q => ((own_obs xi ((N.toInt32).toInt64)).mpr q).2 hc4)).symm), N0, e3⟩)
    · refine own_go (b := T3.setTop (mkF m 19 #[rv r, .val (.long xi), .second] [])) (fun t k => XS.ifNo X3.here hx rfl (hb hby d11_16) rfl ((if0 _ _).trans (flt hc4).2.2.1) k) ?_
      refine own_go (b := T3.setTop (mkF m 20 #[rv r, .val (.long xi), .second] [(.int 1)])) (fun t k => XS.iconst X3.here hx rfl (hb hby d11_19) k) ?_
      refine own_go (b := T3.setTop (mkF m 24 #[rv r, .val (.long xi), .second] [(.int 1)])) (fun t k => XS.goto X3.here hx rfl (pc0 := 20) (pc' := 24) rfl (hb hby d11_20) (by decide) (by decide) k) ?_
      exact own_retN X3 hx hlk (t := .boolean) hrt (by simp) (hb hby d11_24) (Nat.le_of_ble_eq_true rfl) (Nat.le_of_ble_eq_true rfl) (⟨congrArg (fun q => some (Value.int q)) ((if_pos ((own_obs xi ((N.toInt32).toInt64)).mp ⟨hc2, hc4⟩)).symm), N0, e3⟩)
theorem d12_0 : decode prog_44_method_8_code 0 = .ok (.lload_n 1, 1) := by decide +kernel
theorem d12_1 : decode prog_44_method_8_code 1 = .ok (.aload_n 0, 1) := by decide +kernel
theorem d12_2 : decode prog_44_method_8_code 2 = .ok (.getfield 23, 3) := by decide +kernel
theorem d12_5 : decode prog_44_method_8_code 5 = .ok (.lcmp, 1) := by decide +kernel
theorem d12_6 : decode prog_44_method_8_code 6 = .ok (.ifCond .le 7, 3) := by decide +kernel
theorem d12_9 : decode prog_44_method_8_code 9 = .ok (.iconst 1, 1) := by decide +kernel
theorem d12_10 : decode prog_44_method_8_code 10 = .ok (.goto 4, 3) := by decide +kernel
theorem d12_13 : decode prog_44_method_8_code 13 = .ok (.iconst 0, 1) := by decide +kernel
theorem d12_14 : decode prog_44_method_8_code 14 = .ok (.ireturn, 1) := by decide +kernel
theorem ef_12 (m : MethodId) (r : Addr) (xi : Int64) : entryFrame m #[(.ref r), (.long xi)] 3 = mkF m 0 #[rv r, .val (.long xi), .second] [] := by first | (simp [entryFrame, mkF, argsToLocals, Value.category]; done) | rfl
def Q12 (Z : State) (r : Addr) (xi : Int64) (N : Nat) (h0 : Heap) (n0 : Nat) (v : Option Value) (h : Heap) (L : List Loc) : Prop := v = some (.int (if (0 : Int32) < lcmpW xi ((N.toInt32).toInt64) then 1 else 0)) ∧ Fr n0 L ∧ h = h0
set_option maxRecDepth 65536 in
set_option maxHeartbeats 40000000 in
theorem rm12 (l : Launch) (Z : State) (a0 : Array Value) (hw : ∀ d ∈ tables_1, d.before a0 Z = true) (ws : List Jvm.Cond) (r : Addr) (xi : Int64) (N : Nat) (h0 : Heap) (n0 : Nat) (Z0 : n0 ≤ h0.size) (Fma : Fld Z h0 r "com/example/vertumnus/vertumnus/interactions/Cardinality" "max" "J" (.long (N.toInt32).toInt64)) :
    MetFree l (⟨"com/example/vertumnus/vertumnus/interactions/Cardinality", "isExceededBy", "(J)Z"⟩ : MethodName) (head1 (Jvm.Cond.code (⟨"com/example/vertumnus/vertumnus/interactions/Cardinality", "isExceededBy", "(J)Z"⟩ : MethodName) prog_44_method_8_code 3 (some .boolean) :: ws) ({ frames := 0, cells := 0, slots := 0, locals := 0 } : Room)) (fun a U => a = #[(.ref r), (.long xi)] ∧ Z.Warmed39 U.vm ∧ U.heap = h0) (fun _ _ _ _ _ => True) (fun _ U o U' => ∃ v L, o = .returned v ∧ Q12 Z r xi N h0 n0 v U'.heap L ∧ FrameEnd U o U' L ({ frames := 0, cells := 0, slots := 0, locals := 0 } : Room).cells ({ frames := 0, cells := 0, slots := 0, locals := 0 } : Room).slots) := by
  refine MetFree.of_bodySF (plainFor_of_name pn_2) hisR ?_
  intro p e s m args below meth c s₁ Bd hml0 hP hK
  obtain ⟨rfl, hZ, hh⟩ := hP
  have hx := Bd.exec
  have hby := Bd.bytes
  have hml : c.maxLocals = 3 := hml0
  have hown : s.vm.findClass "com/example/vertumnus/vertumnus/interactions/Cardinality" = some m.cls := findClass_of_methodNamed Bd.named
  have hnm := (name_of_methodNamed Bd.named Bd.method).1
  have hlk : meth.locks = false := Bd.notSynchronized
  have hrt := Bd.returns
  have X0 : Stand p l e ({ frames := 0, cells := 0, slots := 0, locals := 0 } : Room) s m #[(.ref r), (.long xi)] below meth c s₁ [] 0 0 := Stand.of_body Bd
  have e0 : s₁.heap = h0 := by rw [← hh, Bd.state]; rfl
  have N0 := Fr.nil n0
  show own_Endz p.tables e below (own_EndQ s ({ frames := 0, cells := 0, slots := 0, locals := 0 } : Room).cells ({ frames := 0, cells := 0, slots := 0, locals := 0 } : Room).slots (Q12 Z r xi N h0 n0)) (s₁.setTop (entryFrame m #[(.ref r), (.long xi)] 3))
  refine own_cast (ef_12 m r xi) ?_
  refine own_go (b := s₁.setTop (mkF m 1 #[rv r, .val (.long xi), .second] [(.long xi)])) (fun t k => XS.lloadN X0.here hx rfl (hb hby d12_0) rfl  k) ?_
  refine own_go (b := s₁.setTop (mkF m 2 #[rv r, .val (.long xi), .second] [(.ref r), (.long xi)])) (fun t k => XS.aloadN X0.here hx rfl (hb hby d12_1) rfl rfl k) ?_
  obtain ⟨T1, X1, e1, st1⟩ := getF X0 hx hZ hown (host := "") (Or.inl (hw _ (List.mem_of_getElem? (i := 40) rfl))) Via.refl e0 Fma (g := (mkF m 2 #[rv r, .val (.long xi), .second] [(.ref r), (.long xi)])) rfl rfl (hb hby d12_2)
  refine own_go (b := T1.setTop (mkF m 5 #[rv r, .val (.long xi), .second] [(.long ((N.toInt32).toInt64)), (.long xi)])) st1 ?_
  refine own_go (b := T1.setTop (mkF m 6 #[rv r, .val (.long xi), .second] [(.int (lcmpW xi ((N.toInt32).toInt64)))])) (fun t k => XS.lcmp X1.here hx rfl (hb hby d12_5) rfl k) ?_
  by_cases hc2 : (0 : Int32) < (lcmpW xi ((N.toInt32).toInt64))
  · refine own_go (b := T1.setTop (mkF m 9 #[rv r, .val (.long xi), .second] [])) (fun t k => XS.ifNo X1.here hx rfl (hb hby d12_6) rfl ((if0 _ _).trans (tlt hc2).2.2.2) k) ?_
    refine own_go (b := T1.setTop (mkF m 10 #[rv r, .val (.long xi), .second] [(.int 1)])) (fun t k => XS.iconst X1.here hx rfl (hb hby d12_9) k) ?_
    refine own_go (b := T1.setTop (mkF m 14 #[rv r, .val (.long xi), .second] [(.int 1)])) (fun t k => XS.goto X1.here hx rfl (pc0 := 10) (pc' := 14) rfl (hb hby d12_10) (by decide) (by decide) k) ?_
    exact own_retN X1 hx hlk (t := .boolean) hrt (by simp) (hb hby d12_14) (Nat.le_of_ble_eq_true rfl) (Nat.le_of_ble_eq_true rfl) (⟨by first | rfl | (simp only [nar, eq_true hc2, if_true, if_false]; done) | (simp only [nar, eq_true hc2, if_true, if_false]; rfl) | (simp [nar, eq_true hc2]; done) | (simp [nar, eq_true hc2]; rfl), N0, e1⟩)
  · refine own_go (b := T1.setTop (mkF m 13 #[rv r, .val (.long xi), .second] [])) (fun t k => XS.ifYes X1.here hx rfl (pc0 := 6) (pc' := 13) rfl (hb hby d12_6) rfl ((if0 _ _).trans (flt hc2).2.2.2) (by decide) (by decide) k) ?_
    refine own_go (b := T1.setTop (mkF m 14 #[rv r, .val (.long xi), .second] [(.int 0)])) (fun t k => XS.iconst X1.here hx rfl (hb hby d12_13) k) ?_
    exact own_retN X1 hx hlk (t := .boolean) hrt (by simp) (hb hby d12_14) (Nat.le_of_ble_eq_true rfl) (Nat.le_of_ble_eq_true rfl) (⟨by first | rfl | (simp only [nar, eq_false hc2, if_true, if_false]; done) | (simp only [nar, eq_false hc2, if_true, if_false]; rfl) | (simp [nar, eq_false hc2]; done) | (simp [nar, eq_false hc2]; rfl), N0, e1⟩)
theorem d13_0 : decode prog_44_method_11_code 0 = .ok (.lload_n 1, 1) := by decide +kernel
theorem d13_1 : decode prog_44_method_11_code 1 = .ok (.aload_n 0, 1) := by decide +kernel
theorem d13_2 : decode prog_44_method_11_code 2 = .ok (.getfield 19, 3) := by decide +kernel
theorem d13_5 : decode prog_44_method_11_code 5 = .ok (.i2l, 1) := by decide +kernel
theorem d13_6 : decode prog_44_method_11_code 6 = .ok (.lcmp, 1) := by decide +kernel
theorem d13_7 : decode prog_44_method_11_code 7 = .ok (.ifCond .ne 7, 3) := by decide +kernel
theorem d13_10 : decode prog_44_method_11_code 10 = .ok (.iconst 1, 1) := by decide +kernel
theorem d13_11 : decode prog_44_method_11_code 11 = .ok (.goto 4, 3) := by decide +kernel
theorem d13_14 : decode prog_44_method_11_code 14 = .ok (.iconst 0, 1) := by decide +kernel
theorem d13_15 : decode prog_44_method_11_code 15 = .ok (.ireturn, 1) := by decide +kernel
theorem ef_13 (m : MethodId) (r : Addr) (xi : Int64) : entryFrame m #[(.ref r), (.long xi)] 3 = mkF m 0 #[rv r, .val (.long xi), .second] [] := by first | (simp [entryFrame, mkF, argsToLocals, Value.category]; done) | rfl
def Q13 (Z : State) (r : Addr) (xi : Int64) (N : Nat) (h0 : Heap) (n0 : Nat) (v : Option Value) (h : Heap) (L : List Loc) : Prop := v = some (.int (if lcmpW xi ((N.toInt32).toInt64) = 0 then 1 else 0)) ∧ Fr n0 L ∧ h = h0
set_option maxRecDepth 65536 in
set_option maxHeartbeats 40000000 in
theorem rm13 (l : Launch) (Z : State) (a0 : Array Value) (hw : ∀ d ∈ tables_1, d.before a0 Z = true) (ws : List Jvm.Cond) (r : Addr) (xi : Int64) (N : Nat) (h0 : Heap) (n0 : Nat) (Z0 : n0 ≤ h0.size) (Fmi : Fld Z h0 r "com/example/vertumnus/vertumnus/interactions/Cardinality" "min" "I" (.int N.toInt32)) :
    MetFree l (⟨"com/example/vertumnus/vertumnus/interactions/Cardinality", "isReachedBy", "(J)Z"⟩ : MethodName) (head1 (Jvm.Cond.code (⟨"com/example/vertumnus/vertumnus/interactions/Cardinality", "isReachedBy", "(J)Z"⟩ : MethodName) prog_44_method_11_code 3 (some .boolean) :: ws) ({ frames := 0, cells := 0, slots := 0, locals := 0 } : Room)) (fun a U => a = #[(.ref r), (.long xi)] ∧ Z.Warmed39 U.vm ∧ U.heap = h0) (fun _ _ _ _ _ => True) (fun _ U o U' => ∃ v L, o = .returned v ∧ Q13 Z r xi N h0 n0 v U'.heap L ∧ FrameEnd U o U' L ({ frames := 0, cells := 0, slots := 0, locals := 0 } : Room).cells ({ frames := 0, cells := 0, slots := 0, locals := 0 } : Room).slots) := by
  refine MetFree.of_bodySF (plainFor_of_name pn_2) hisR ?_
  intro p e s m args below meth c s₁ Bd hml0 hP hK
  obtain ⟨rfl, hZ, hh⟩ := hP
  have hx := Bd.exec
  have hby := Bd.bytes
  have hml : c.maxLocals = 3 := hml0
  have hown : s.vm.findClass "com/example/vertumnus/vertumnus/interactions/Cardinality" = some m.cls := findClass_of_methodNamed Bd.named
  have hnm := (name_of_methodNamed Bd.named Bd.method).1
  have hlk : meth.locks = false := Bd.notSynchronized
  have hrt := Bd.returns
  have X0 : Stand p l e ({ frames := 0, cells := 0, slots := 0, locals := 0 } : Room) s m #[(.ref r), (.long xi)] below meth c s₁ [] 0 0 := Stand.of_body Bd
  have e0 : s₁.heap = h0 := by rw [← hh, Bd.state]; rfl
  have N0 := Fr.nil n0
  show own_Endz p.tables e below (own_EndQ s ({ frames := 0, cells := 0, slots := 0, locals := 0 } : Room).cells ({ frames := 0, cells := 0, slots := 0, locals := 0 } : Room).slots (Q13 Z r xi N h0 n0)) (s₁.setTop (entryFrame m #[(.ref r), (.long xi)] 3))
  refine own_cast (ef_13 m r xi) ?_
  refine own_go (b := s₁.setTop (mkF m 1 #[rv r, .val (.long xi), .second] [(.long xi)])) (fun t k => XS.lloadN X0.here hx rfl (hb hby d13_0) rfl  k) ?_
  refine own_go (b := s₁.setTop (mkF m 2 #[rv r, .val (.long xi), .second] [(.ref r), (.long xi)])) (fun t k => XS.aloadN X0.here hx rfl (hb hby d13_1) rfl rfl k) ?_
  obtain ⟨T1, X1, e1, st1⟩ := getF X0 hx hZ hown (host := "") (Or.inl (hw _ (List.mem_of_getElem? (i := 38) rfl))) Via.refl e0 Fmi (g := (mkF m 2 #[rv r, .val (.long xi), .second] [(.ref r), (.long xi)])) rfl rfl (hb hby d13_2)
  refine own_go (b := T1.setTop (mkF m 5 #[rv r, .val (.long xi), .second] [(.int (N.toInt32)), (.long xi)])) st1 ?_
  refine own_go (b := T1.setTop (mkF m 6 #[rv r, .val (.long xi), .second] [(.long ((N.toInt32).toInt64)), (.long xi)])) (fun t k => XS.i2l X1.here hx rfl (hb hby d13_5) rfl k) ?_
  refine own_go (b := T1.setTop (mkF m 7 #[rv r, .val (.long xi), .second] [(.int (lcmpW xi ((N.toInt32).toInt64)))])) (fun t k => XS.lcmp X1.here hx rfl (hb hby d13_6) rfl k) ?_
  by_cases hc2 : (lcmpW xi ((N.toInt32).toInt64)) = (0 : Int32)
  · refine own_go (b := T1.setTop (mkF m 10 #[rv r, .val (.long xi), .second] [])) (fun t k => XS.ifNo X1.here hx rfl (hb hby d13_7) rfl ((if0 _ _).trans (teq hc2).2) k) ?_
    refine own_go (b := T1.setTop (mkF m 11 #[rv r, .val (.long xi), .second] [(.int 1)])) (fun t k => XS.iconst X1.here hx rfl (hb hby d13_10) k) ?_
    refine own_go (b := T1.setTop (mkF m 15 #[rv r, .val (.long xi), .second] [(.int 1)])) (fun t k => XS.goto X1.here hx rfl (pc0 := 11) (pc' := 15) rfl (hb hby d13_11) (by decide) (by decide) k) ?_
    exact own_retN X1 hx hlk (t := .boolean) hrt (by simp) (hb hby d13_15) (Nat.le_of_ble_eq_true rfl) (Nat.le_of_ble_eq_true rfl) (⟨by first | rfl | (simp only [nar, eq_true hc2, if_true, if_false]; done) | (simp only [nar, eq_true hc2, if_true, if_false]; rfl) | (simp [nar, eq_true hc2]; done) | (simp [nar, eq_true hc2]; rfl), N0, e1⟩)
  · refine own_go (b := T1.setTop (mkF m 14 #[rv r, .val (.long xi), .second] [])) (fun t k => XS.ifYes X1.here hx rfl (pc0 := 7) (pc' := 14) rfl (hb hby d13_7) rfl ((if0 _ _).trans (feq hc2).2) (by decide) (by decide) k) ?_
    refine own_go (b := T1.setTop (mkF m 15 #[rv r, .val (.long xi), .second] [(.int 0)])) (fun t k => XS.iconst X1.here hx rfl (hb hby d13_14) k) ?_
    exact own_retN X1 hx hlk (t := .boolean) hrt (by simp) (hb hby d13_15) (Nat.le_of_ble_eq_true rfl) (Nat.le_of_ble_eq_true rfl) (⟨by first | rfl | (simp only [nar, eq_false hc2, if_true, if_false]; done) | (simp only [nar, eq_false hc2, if_true, if_false]; rfl) | (simp [nar, eq_false hc2]; done) | (simp [nar, eq_false hc2]; rfl), N0, e1⟩)
theorem d14_0 : decode prog_44_method_13_code 0 = .ok (.aload_n 0, 1) := by decide +kernel
theorem d14_1 : decode prog_44_method_13_code 1 = .ok (.getfield 27, 3) := by decide +kernel
theorem d14_4 : decode prog_44_method_13_code 4 = .ok (.areturn, 1) := by decide +kernel
theorem ef_14 (m : MethodId) (r : Addr) : entryFrame m #[(.ref r)] 1 = mkF m 0 #[rv r] [] := by first | (simp [entryFrame, mkF, argsToLocals, Value.category]; done) | rfl
def Q14 (Z : State) (r : Addr) (ax : Addr) (h0 : Heap) (n0 : Nat) (v : Option Value) (h : Heap) (L : List Loc) : Prop := v = some (.ref ax) ∧ Fr n0 L ∧ h = h0
set_option maxRecDepth 65536 in
set_option maxHeartbeats 40000000 in
theorem rm14 (l : Launch) (Z : State) (a0 : Array Value) (hw : ∀ d ∈ tables_1, d.before a0 Z = true) (ws : List Jvm.Cond) (r : Addr) (ax : Addr) (h0 : Heap) (n0 : Nat) (Z0 : n0 ≤ h0.size) (Ftx : Fld Z h0 r "com/example/vertumnus/vertumnus/interactions/Cardinality" "text" "Ljava/lang/String;" (.ref ax)) :
    MetFree l (⟨"com/example/vertumnus/vertumnus/interactions/Cardinality", "toString", "()Ljava/lang/String;"⟩ : MethodName) (head1 (Jvm.Cond.code (⟨"com/example/vertumnus/vertumnus/interactions/Cardinality", "toString", "()Ljava/lang/String;"⟩ : MethodName) prog_44_method_13_code 1 (some (.object "java/lang/String")) :: ws) ({ frames := 0, cells := 0, slots := 0, locals := 0 } : Room)) (fun a U => a = #[(.ref r)] ∧ Z.Warmed39 U.vm ∧ U.heap = h0) (fun _ _ _ _ _ => True) (fun _ U o U' => ∃ v L, o = .returned v ∧ Q14 Z r ax h0 n0 v U'.heap L ∧ FrameEnd U o U' L ({ frames := 0, cells := 0, slots := 0, locals := 0 } : Room).cells ({ frames := 0, cells := 0, slots := 0, locals := 0 } : Room).slots) := by
  refine MetFree.of_bodySF (plainFor_of_name pn_2) hisR ?_
  intro p e s m args below meth c s₁ Bd hml0 hP hK
  obtain ⟨rfl, hZ, hh⟩ := hP
  have hx := Bd.exec
  have hby := Bd.bytes
  have hml : c.maxLocals = 1 := hml0
  have hown : s.vm.findClass "com/example/vertumnus/vertumnus/interactions/Cardinality" = some m.cls := findClass_of_methodNamed Bd.named
  have hnm := (name_of_methodNamed Bd.named Bd.method).1
  have hlk : meth.locks = false := Bd.notSynchronized
  have hrt := Bd.returns
  have X0 : Stand p l e ({ frames := 0, cells := 0, slots := 0, locals := 0 } : Room) s m #[(.ref r)] below meth c s₁ [] 0 0 := Stand.of_body Bd
  have e0 : s₁.heap = h0 := by rw [← hh, Bd.state]; rfl
  have N0 := Fr.nil n0
  show own_Endz p.tables e below (own_EndQ s ({ frames := 0, cells := 0, slots := 0, locals := 0 } : Room).cells ({ frames := 0, cells := 0, slots := 0, locals := 0 } : Room).slots (Q14 Z r ax h0 n0)) (s₁.setTop (entryFrame m #[(.ref r)] 1))
  refine own_cast (ef_14 m r) ?_
  refine own_go (b := s₁.setTop (mkF m 1 #[rv r] [(.ref r)])) (fun t k => XS.aloadN X0.here hx rfl (hb hby d14_0) rfl rfl k) ?_
  obtain ⟨T1, X1, e1, st1⟩ := getF X0 hx hZ hown (host := "") (Or.inl (hw _ (List.mem_of_getElem? (i := 42) rfl))) Via.refl e0 Ftx (g := (mkF m 1 #[rv r] [(.ref r)])) rfl rfl (hb hby d14_1)
  refine own_go (b := T1.setTop (mkF m 4 #[rv r] [(.ref ax)])) st1 ?_
  exact own_retA X1 hx hlk hrt rfl rfl (hb hby d14_4) (Nat.le_of_ble_eq_true rfl) (Nat.le_of_ble_eq_true rfl) (⟨by first | rfl | (simp only [if_true, if_true, if_false]; done) | (simp only [if_true, if_true, if_false]; rfl) | (simp []; done) | (simp []; rfl), N0, e1⟩)
theorem d10_0 : decode method_3_code 0 = .ok (.iload_n 1, 1) := by decide +kernel
theorem d10_1 : decode method_3_code 1 = .ok (.i2l, 1) := by decide +kernel
theorem d10_2 : decode method_3_code 2 = .ok (.lstore 4, 2) := by decide +kernel
theorem d10_4 : decode method_3_code 4 = .ok (.aload_n 0, 1) := by decide +kernel
theorem d10_5 : decode method_3_code 5 = .ok (.lload_n 2, 1) := by decide +kernel
theorem d10_6 : decode method_3_code 6 = .ok (.invokevirtual 35, 3) := by decide +kernel
theorem d10_9 : decode method_3_code 9 = .ok (.lload_n 2, 1) := by decide +kernel
theorem d10_10 : decode method_3_code 10 = .ok (.lload 4, 2) := by decide +kernel
theorem d10_12 : decode method_3_code 12 = .ok (.lcmp, 1) := by decide +kernel
theorem d10_13 : decode method_3_code 13 = .ok (.ifCond .ne 7, 3) := by decide +kernel
theorem d10_16 : decode method_3_code 16 = .ok (.iconst 1, 1) := by decide +kernel
theorem d10_17 : decode method_3_code 17 = .ok (.goto 4, 3) := by decide +kernel
theorem d10_20 : decode method_3_code 20 = .ok (.iconst 0, 1) := by decide +kernel
theorem d10_21 : decode method_3_code 21 = .ok (.if_icmp .ne 47, 3) := by decide +kernel
theorem d10_24 : decode method_3_code 24 = .ok (.aload_n 0, 1) := by decide +kernel
theorem d10_25 : decode method_3_code 25 = .ok (.lload_n 2, 1) := by decide +kernel
theorem d10_26 : decode method_3_code 26 = .ok (.invokevirtual 39, 3) := by decide +kernel
theorem d10_29 : decode method_3_code 29 = .ok (.lload_n 2, 1) := by decide +kernel
theorem d10_30 : decode method_3_code 30 = .ok (.lload 4, 2) := by decide +kernel
theorem d10_32 : decode method_3_code 32 = .ok (.lcmp, 1) := by decide +kernel
theorem d10_33 : decode method_3_code 33 = .ok (.ifCond .le 7, 3) := by decide +kernel
theorem d10_36 : decode method_3_code 36 = .ok (.iconst 1, 1) := by decide +kernel
theorem d10_37 : decode method_3_code 37 = .ok (.goto 4, 3) := by decide +kernel
theorem d10_40 : decode method_3_code 40 = .ok (.iconst 0, 1) := by decide +kernel
theorem d10_41 : decode method_3_code 41 = .ok (.if_icmp .ne 27, 3) := by decide +kernel
theorem d10_44 : decode method_3_code 44 = .ok (.aload_n 0, 1) := by decide +kernel
theorem d10_45 : decode method_3_code 45 = .ok (.lload_n 2, 1) := by decide +kernel
theorem d10_46 : decode method_3_code 46 = .ok (.invokevirtual 42, 3) := by decide +kernel
theorem d10_49 : decode method_3_code 49 = .ok (.lload_n 2, 1) := by decide +kernel
theorem d10_50 : decode method_3_code 50 = .ok (.lload 4, 2) := by decide +kernel
theorem d10_52 : decode method_3_code 52 = .ok (.lcmp, 1) := by decide +kernel
theorem d10_53 : decode method_3_code 53 = .ok (.ifCond .ne 7, 3) := by decide +kernel
theorem d10_56 : decode method_3_code 56 = .ok (.iconst 1, 1) := by decide +kernel
theorem d10_57 : decode method_3_code 57 = .ok (.goto 4, 3) := by decide +kernel
theorem d10_60 : decode method_3_code 60 = .ok (.iconst 0, 1) := by decide +kernel
theorem d10_61 : decode method_3_code 61 = .ok (.if_icmp .ne 7, 3) := by decide +kernel
theorem d10_64 : decode method_3_code 64 = .ok (.iconst 1, 1) := by decide +kernel
theorem d10_65 : decode method_3_code 65 = .ok (.goto 4, 3) := by decide +kernel
theorem d10_68 : decode method_3_code 68 = .ok (.iconst 0, 1) := by decide +kernel
theorem d10_69 : decode method_3_code 69 = .ok (.ireturn, 1) := by decide +kernel
theorem pn_3 : plainName "com/example/vertumnus/vertumnus/interactions/CardinalityExactlyPinLaw" = true := by first | (simp [plainName, overriddenIn]; done) | decide +kernel
theorem pd_6 : parseMethodDescriptor "(J)Z" = some ⟨[.long], some .boolean⟩ := by decide +kernel
theorem ef_10 (m : MethodId) (r : Addr) (ct : Int32) (xi : Int64) : entryFrame m #[(.ref r), (.int ct), (.long xi)] 6 = mkF m 0 #[rv r, iv ct, .val (.long xi), .second, .unset, .unset] [] := by first | (simp [entryFrame, mkF, argsToLocals, Value.category]; done) | rfl
def Q10 (Z : State) (r : Addr) (ct : Int32) (xi : Int64) (N : Nat) (h0 : Heap) (n0 : Nat) (v : Option Value) (h : Heap) (L : List Loc) : Prop := v = some (.int 1) ∧ Fr n0 L ∧ h = h0
set_option maxRecDepth 65536 in
set_option maxHeartbeats 40000000 in
theorem rm10 (l : Launch) (Z : State) (a0 : Array Value) (hw : ∀ d ∈ tables_1, d.before a0 Z = true) (ws : List Jvm.Cond) (r : Addr) (ct : Int32) (xi : Int64) (N : Nat) (h0 : Heap) (n0 : Nat) (Z0 : n0 ≤ h0.size) (hct : ct = N.toInt32) (Er : Exa Z h0 r "com/example/vertumnus/vertumnus/interactions/Cardinality") (Fmi : Fld Z h0 r "com/example/vertumnus/vertumnus/interactions/Cardinality" "min" "I" (.int N.toInt32)) (Fma : Fld Z h0 r "com/example/vertumnus/vertumnus/interactions/Cardinality" "max" "J" (.long (N.toInt32).toInt64)) :
    MetFree l (⟨"com/example/vertumnus/vertumnus/interactions/CardinalityExactlyPinLaw", "observe", "(Lcom/example/vertumnus/vertumnus/interactions/Cardinality;IJ)Z"⟩ : MethodName) (head1 (Jvm.Cond.code (⟨"com/example/vertumnus/vertumnus/interactions/CardinalityExactlyPinLaw", "observe", "(Lcom/example/vertumnus/vertumnus/interactions/Cardinality;IJ)Z"⟩ : MethodName) method_3_code 6 (some .boolean) :: ws) ({ frames := 1, cells := 0, slots := 0, locals := 14 } : Room)) (fun a U => a = #[(.ref r), (.int ct), (.long xi)] ∧ Z.Warmed39 U.vm ∧ U.heap = h0) (fun _ _ _ _ _ => True) (fun _ U o U' => ∃ v L, o = .returned v ∧ Q10 Z r ct xi N h0 n0 v U'.heap L ∧ FrameEnd U o U' L ({ frames := 1, cells := 0, slots := 0, locals := 14 } : Room).cells ({ frames := 1, cells := 0, slots := 0, locals := 14 } : Room).slots) := by
  refine MetFree.of_bodySF (plainFor_of_name pn_3) hisR ?_
  intro p e s m args below meth c s₁ Bd hml0 hP hK
  obtain ⟨rfl, hZ, hh⟩ := hP
  have hx := Bd.exec
  have hby := Bd.bytes
  have hml : c.maxLocals = 6 := hml0
  have hown : s.vm.findClass "com/example/vertumnus/vertumnus/interactions/CardinalityExactlyPinLaw" = some m.cls := findClass_of_methodNamed Bd.named
  have hnm := (name_of_methodNamed Bd.named Bd.method).1
  have hlk : meth.locks = false := Bd.notSynchronized
  have hrt := Bd.returns
  have X0 : Stand p l e ({ frames := 1, cells := 0, slots := 0, locals := 14 } : Room) s m #[(.ref r), (.int ct), (.long xi)] below meth c s₁ [] 0 0 := Stand.of_body Bd
  have e0 : s₁.heap = h0 := by rw [← hh, Bd.state]; rfl
  have N0 := Fr.nil n0
  show own_Endz p.tables e below (own_EndQ s ({ frames := 1, cells := 0, slots := 0, locals := 14 } : Room).cells ({ frames := 1, cells := 0, slots := 0, locals := 14 } : Room).slots (Q10 Z r ct xi N h0 n0)) (s₁.setTop (entryFrame m #[(.ref r), (.int ct), (.long xi)] 6))
  refine own_cast (ef_10 m r ct xi) ?_
  subst hct
  refine own_go (b := s₁.setTop (mkF m 1 #[rv r, iv (N.toInt32), .val (.long xi), .second, .unset, .unset] [(.int (N.toInt32))])) (fun t k => XS.iloadN X0.here hx rfl (hb hby d10_0) rfl  k) ?_
  refine own_go (b := s₁.setTop (mkF m 2 #[rv r, iv (N.toInt32), .val (.long xi), .second, .unset, .unset] [(.long ((N.toInt32).toInt64))])) (fun t k => XS.i2l X0.here hx rfl (hb hby d10_1) rfl k) ?_
  refine own_go (b := s₁.setTop (mkF m 4 #[rv r, iv (N.toInt32), .val (.long xi), .second, .val (.long ((N.toInt32).toInt64)), .second] [])) (fun t k => XS.lstore X0.here hx rfl (hb hby d10_2) rfl (l' := #[rv r, iv (N.toInt32), .val (.long xi), .second, .val (.long ((N.toInt32).toInt64)), .second]) rfl k) ?_
  refine own_go (b := s₁.setTop (mkF m 5 #[rv r, iv (N.toInt32), .val (.long xi), .second, .val (.long ((N.toInt32).toInt64)), .second] [(.ref r)])) (fun t k => XS.aloadN X0.here hx rfl (hb hby d10_4) rfl rfl k) ?_
  refine own_go (b := s₁.setTop (mkF m 6 #[rv r, iv (N.toInt32), .val (.long xi), .second, .val (.long ((N.toInt32).toInt64)), .second] [(.long xi), (.ref r)])) (fun t k => XS.lloadN X0.here hx rfl (hb hby d10_5) rfl  k) ?_
  obtain ⟨cq1, kq1, q1a, q1b, q1c⟩ := isOf hZ e0 Er
  obtain ⟨_, _, ⟨T1, L1, k1, n1⟩, -, X1, ⟨Lc1, hQ1, l1, y1, z1⟩, st1⟩ := X0.virtualBack hx (y := (⟨"com/example/vertumnus/vertumnus/interactions/Cardinality", "isSatisfiedBy", "(J)Z"⟩ : MethodName)) (z := (⟨"com/example/vertumnus/vertumnus/interactions/Cardinality", "isSatisfiedBy", "(J)Z"⟩ : MethodName)) hown (mvT hZ (hw _ (List.mem_of_getElem? (i := 59) rfl))) (mvT hZ (hw _ (List.mem_of_getElem? (i := 60) rfl))) (notFace_of_selects (args := #[]) (mvT hZ (hw _ (List.mem_of_getElem? (i := 62) rfl)))) (mvT hZ (hw _ (List.mem_of_getElem? (i := 62) rfl))) (mvT hZ (hw _ (List.mem_of_getElem? (i := 61) rfl))) (by decide) (backOf (W := 0) (rm11 l Z a0 hw [] r xi N h0 n0 Z0 Fmi Fma) hZ (hw _ (List.mem_of_getElem? (i := 63) rfl)) (hw _ (List.mem_of_getElem? (i := 3) rfl)) (by decide) (by decide)) q1a q1c (g := (mkF m 6 #[rv r, iv (N.toInt32), .val (.long xi), .second, .val (.long ((N.toInt32).toInt64)), .second] [(.long xi), (.ref r)])) rfl (by rw [hml]; rfl) (Steps.refl _) (argsL := [(.long xi)]) (rest := []) (lenOf pd_6 rfl) rfl (by show 2 * 0 + _ ≤ _; exact Nat.le_of_eq rfl) (hb hby d10_6) (fun _ _ => ⟨rfl, e0, (by decide : 0 + 0 ≤ _), (by decide : 0 + 0 ≤ _)⟩)
  dsimp only [Pt.U, Pt.locs, Pt.cells, Pt.slots] at X1 l1 y1 z1 st1 hQ1
  subst l1 y1 z1
  obtain ⟨rfl, N1q, e1⟩ := hQ1
  have N1 := Fr.app N0 N1q
  refine own_tr (b := T1.setTop (mkF m 9 #[rv r, iv (N.toInt32), .val (.long xi), .second, .val (.long ((N.toInt32).toInt64)), .second] [(.int (if lcmpW xi ((N.toInt32).toInt64) = 0 then 1 else 0))])) st1 ?_
  refine own_go (b := T1.setTop (mkF m 10 #[rv r, iv (N.toInt32), .val (.long xi), .second, .val (.long ((N.toInt32).toInt64)), .second] [(.long xi), (.int (if lcmpW xi ((N.toInt32).toInt64) = 0 then 1 else 0))])) (fun t k => XS.lloadN X1.here hx rfl (hb hby d10_9) rfl  k) ?_
  refine own_go (b := T1.setTop (mkF m 12 #[rv r, iv (N.toInt32), .val (.long xi), .second, .val (.long ((N.toInt32).toInt64)), .second] [(.long ((N.toInt32).toInt64)), (.long xi), (.int (if lcmpW xi ((N.toInt32).toInt64) = 0 then 1 else 0))])) (fun t k => XS.lload X1.here hx rfl (hb hby d10_10) rfl  k) ?_
  refine own_go (b := T1.setTop (mkF m 13 #[rv r, iv (N.toInt32), .val (.long xi), .second, .val (.long ((N.toInt32).toInt64)), .second] [(.int (lcmpW xi ((N.toInt32).toInt64))), (.int (if lcmpW xi ((N.toInt32).toInt64) = 0 then 1 else 0))])) (fun t k => XS.lcmp X1.here hx rfl (hb hby d10_12) rfl k) ?_
  by_cases hc2 : (lcmpW xi ((N.toInt32).toInt64)) = (0 : Int32)
  · refine own_go (b := T1.setTop (mkF m 16 #[rv r, iv (N.toInt32), .val (.long xi), .second, .val (.long ((N.toInt32).toInt64)), .second] [(.int (if lcmpW xi ((N.toInt32).toInt64) = 0 then 1 else 0))])) (fun t k => XS.ifNo X1.here hx rfl (hb hby d10_13) rfl ((if0 _ _).trans (teq hc2).2) k) ?_
    refine own_go (b := T1.setTop (mkF m 17 #[rv r, iv (N.toInt32), .val (.long xi), .second, .val (.long ((N.toInt32).toInt64)), .second] [(.int 1), (.int (if lcmpW xi ((N.toInt32).toInt64) = 0 then 1 else 0))])) (fun t k => XS.iconst X1.here hx rfl (hb hby d10_16) k) ?_
    refine own_go (b := T1.setTop (mkF m 21 #[rv r, iv (N.toInt32), .val (.long xi), .second, .val (.long ((N.toInt32).toInt64)), .second] [(.int 1), (.int (if lcmpW xi ((N.toInt32).toInt64) = 0 then 1 else 0))])) (fun t k => XS.goto X1.here hx rfl (pc0 := 17) (pc' := 21) rfl (hb hby d10_17) (by decide) (by decide) k) ?_
    have hq3 : (if lcmpW xi ((N.toInt32).toInt64) = 0 then 1 else 0) = (1 : Int32) := if_pos hc2
    refine own_go (b := T1.setTop (mkF m 24 #[rv r, iv (N.toInt32), .val (.long xi), .second, .val (.long ((N.toInt32).toInt64)), .second] [])) (fun t k => XS.icmpNo X1.here hx rfl (hb hby d10_21) rfl (teq hq3).2 k) ?_
    refine own_go (b := T1.setTop (mkF m 25 #[rv r, iv (N.toInt32), .val (.long xi), .second, .val (.long ((N.toInt32).toInt64)), .second] [(.ref r)])) (fun t k => XS.aloadN X1.here hx rfl (hb hby d10_24) rfl rfl k) ?_
    refine own_go (b := T1.setTop (mkF m 26 #[rv r, iv (N.toInt32), .val (.long xi), .second, .val (.long ((N.toInt32).toInt64)), .second] [(.long xi), (.ref r)])) (fun t k => XS.lloadN X1.here hx rfl (hb hby d10_25) rfl  k) ?_
    obtain ⟨cq4, kq4, q4a, q4b, q4c⟩ := isOf hZ e1 Er
    obtain ⟨_, _, ⟨T4, L4, k4, n4⟩, -, X4, ⟨Lc4, hQ4, l4, y4, z4⟩, st4⟩ := X1.virtualBack hx (y := (⟨"com/example/vertumnus/vertumnus/interactions/Cardinality", "isExceededBy", "(J)Z"⟩ : MethodName)) (z := (⟨"com/example/vertumnus/vertumnus/interactions/Cardinality", "isExceededBy", "(J)Z"⟩ : MethodName)) hown (mvT hZ (hw _ (List.mem_of_getElem? (i := 64) rfl))) (mvT hZ (hw _ (List.mem_of_getElem? (i := 65) rfl))) (notFace_of_selects (args := #[]) (mvT hZ (hw _ (List.mem_of_getElem? (i := 67) rfl)))) (mvT hZ (hw _ (List.mem_of_getElem? (i := 67) rfl))) (mvT hZ (hw _ (List.mem_of_getElem? (i := 66) rfl))) (by decide) (backOf (W := 0) (rm12 l Z a0 hw [] r xi N h0 n0 Z0 Fma) hZ (hw _ (List.mem_of_getElem? (i := 68) rfl)) (hw _ (List.mem_of_getElem? (i := 3) rfl)) (by decide) (by decide)) q4a q4c (g := (mkF m 26 #[rv r, iv (N.toInt32), .val (.long xi), .second, .val (.long ((N.toInt32).toInt64)), .second] [(.long xi), (.ref r)])) rfl (by rw [hml]; rfl) (Steps.refl _) (argsL := [(.long xi)]) (rest := []) (lenOf pd_6 rfl) rfl (by show 2 * 0 + _ ≤ _; exact Nat.le_of_eq rfl) (hb hby d10_26) (fun _ _ => ⟨rfl, e1, (by decide : 0 + 0 ≤ _), (by decide : 0 + 0 ≤ _)⟩)
    dsimp only [Pt.U, Pt.locs, Pt.cells, Pt.slots] at X4 l4 y4 z4 st4 hQ4
    subst l4 y4 z4
    obtain ⟨rfl, N4q, e4⟩ := hQ4
    have N4 := Fr.app N1 N4q
    refine own_tr (b := T4.setTop (mkF m 29 #[rv r, iv (N.toInt32), .val (.long xi), .second, .val (.long ((N.toInt32).toInt64)), .second] [(.int (if (0 : Int32) < lcmpW xi ((N.toInt32).toInt64) then 1 else 0))])) st4 ?_
    refine own_go (b := T4.setTop (mkF m 30 #[rv r, iv (N.toInt32), .val (.long xi), .second, .val (.long ((N.toInt32).toInt64)), .second] [(.long xi), (.int (if (0 : Int32) < lcmpW xi ((N.toInt32).toInt64) then 1 else 0))])) (fun t k => XS.lloadN X4.here hx rfl (hb hby d10_29) rfl  k) ?_
    refine own_go (b := T4.setTop (mkF m 32 #[rv r, iv (N.toInt32), .val (.long xi), .second, .val (.long ((N.toInt32).toInt64)), .second] [(.long ((N.toInt32).toInt64)), (.long xi), (.int (if (0 : Int32) < lcmpW xi ((N.toInt32).toInt64) then 1 else 0))])) (fun t k => XS.lload X4.here hx rfl (hb hby d10_30) rfl  k) ?_
    refine own_go (b := T4.setTop (mkF m 33 #[rv r, iv (N.toInt32), .val (.long xi), .second, .val (.long ((N.toInt32).toInt64)), .second] [(.int (lcmpW xi ((N.toInt32).toInt64))), (.int (if (0 : Int32) < lcmpW xi ((N.toInt32).toInt64) then 1 else 0))])) (fun t k => XS.lcmp X4.here hx rfl (hb hby d10_32) rfl k) ?_
    by_cases hc5 : (0 : Int32) < (lcmpW xi ((N.toInt32).toInt64))
    · refine own_go (b := T4.setTop (mkF m 36 #[rv r, iv (N.toInt32), .val (.long xi), .second, .val (.long ((N.toInt32).toInt64)), .second] [(.int (if (0 : Int32) < lcmpW xi ((N.toInt32).toInt64) then 1 else 0))])) (fun t k => XS.ifNo X4.here hx rfl (hb hby d10_33) rfl ((if0 _ _).trans (tlt hc5).2.2.2) k) ?_
      refine own_go (b := T4.setTop (mkF m 37 #[rv r, iv (N.toInt32), .val (.long xi), .second, .val (.long ((N.toInt32).toInt64)), .second] [(.int 1), (.int (if (0 : Int32) < lcmpW xi ((N.toInt32).toInt64) then 1 else 0))])) (fun t k => XS.iconst X4.here hx rfl (hb hby d10_36) k) ?_
      refine own_go (b := T4.setTop (mkF m 41 #[rv r, iv (N.toInt32), .val (.long xi), .second, .val (.long ((N.toInt32).toInt64)), .second] [(.int 1), (.int (if (0 : Int32) < lcmpW xi ((N.toInt32).toInt64) then 1 else 0))])) (fun t k => XS.goto X4.here hx rfl (pc0 := 37) (pc' := 41) rfl (hb hby d10_37) (by decide) (by decide) k) ?_
      have hq6 : (if (0 : Int32) < lcmpW xi ((N.toInt32).toInt64) then 1 else 0) = (1 : Int32) := if_pos hc5
      refine own_go (b := T4.setTop (mkF m 44 #[rv r, iv (N.toInt32), .val (.long xi), .second, .val (.long ((N.toInt32).toInt64)), .second] [])) (fun t k => XS.icmpNo X4.here hx rfl (hb hby d10_41) rfl (teq hq6).2 k) ?_
      refine own_go (b := T4.setTop (mkF m 45 #[rv r, iv (N.toInt32), .val (.long xi), .second, .val (.long ((N.toInt32).toInt64)), .second] [(.ref r)])) (fun t k => XS.aloadN X4.here hx rfl (hb hby d10_44) rfl rfl k) ?_
      refine own_go (b := T4.setTop (mkF m 46 #[rv r, iv (N.toInt32), .val (.long xi), .second, .val (.long ((N.toInt32).toInt64)), .second] [(.long xi), (.ref r)])) (fun t k => XS.lloadN X4.here hx rfl (hb hby d10_45) rfl  k) ?_
      obtain ⟨cq7, kq7, q7a, q7b, q7c⟩ := isOf hZ e4 Er
      obtain ⟨_, _, ⟨T7, L7, k7, n7⟩, -, X7, ⟨Lc7, hQ7, l7, y7, z7⟩, st7⟩ := X4.virtualBack hx (y := (⟨"com/example/vertumnus/vertumnus/interactions/Cardinality", "isReachedBy", "(J)Z"⟩ : MethodName)) (z := (⟨"com/example/vertumnus/vertumnus/interactions/Cardinality", "isReachedBy", "(J)Z"⟩ : MethodName)) hown (mvT hZ (hw _ (List.mem_of_getElem? (i := 69) rfl))) (mvT hZ (hw _ (List.mem_of_getElem? (i := 70) rfl))) (notFace_of_selects (args := #[]) (mvT hZ (hw _ (List.mem_of_getElem? (i := 72) rfl)))) (mvT hZ (hw _ (List.mem_of_getElem? (i := 72) rfl))) (mvT hZ (hw _ (List.mem_of_getElem? (i := 71) rfl))) (by decide) (backOf (W := 0) (rm13 l Z a0 hw [] r xi N h0 n0 Z0 Fmi) hZ (hw _ (List.mem_of_getElem? (i := 73) rfl)) (hw _ (List.mem_of_getElem? (i := 3) rfl)) (by decide) (by decide)) q7a q7c (g := (mkF m 46 #[rv r, iv (N.toInt32), .val (.long xi), .second, .val (.long ((N.toInt32).toInt64)), .second] [(.long xi), (.ref r)])) rfl (by rw [hml]; rfl) (Steps.refl _) (argsL := [(.long xi)]) (rest := []) (lenOf pd_6 rfl) rfl (by show 2 * 0 + _ ≤ _; exact Nat.le_of_eq rfl) (hb hby d10_46) (fun _ _ => ⟨rfl, e4, (by decide : 0 + 0 ≤ _), (by decide : 0 + 0 ≤ _)⟩)
      dsimp only [Pt.U, Pt.locs, Pt.cells, Pt.slots] at X7 l7 y7 z7 st7 hQ7
      subst l7 y7 z7
      obtain ⟨rfl, N7q, e7⟩ := hQ7
      have N7 := Fr.app N4 N7q
      refine own_tr (b := T7.setTop (mkF m 49 #[rv r, iv (N.toInt32), .val (.long xi), .second, .val (.long ((N.toInt32).toInt64)), .second] [(.int (if lcmpW xi ((N.toInt32).toInt64) = 0 then 1 else 0))])) st7 ?_
      refine own_go (b := T7.setTop (mkF m 50 #[rv r, iv (N.toInt32), .val (.long xi), .second, .val (.long ((N.toInt32).toInt64)), .second] [(.long xi), (.int (if lcmpW xi ((N.toInt32).toInt64) = 0 then 1 else 0))])) (fun t k => XS.lloadN X7.here hx rfl (hb hby d10_49) rfl  k) ?_
      refine own_go (b := T7.setTop (mkF m 52 #[rv r, iv (N.toInt32), .val (.long xi), .second, .val (.long ((N.toInt32).toInt64)), .second] [(.long ((N.toInt32).toInt64)), (.long xi), (.int (if lcmpW xi ((N.toInt32).toInt64) = 0 then 1 else 0))])) (fun t k => XS.lload X7.here hx rfl (hb hby d10_50) rfl  k) ?_
      refine own_go (b := T7.setTop (mkF m 53 #[rv r, iv (N.toInt32), .val (.long xi), .second, .val (.long ((N.toInt32).toInt64)), .second] [(.int (lcmpW xi ((N.toInt32).toInt64))), (.int (if lcmpW xi ((N.toInt32).toInt64) = 0 then 1 else 0))])) (fun t k => XS.lcmp X7.here hx rfl (hb hby d10_52) rfl k) ?_
      refine own_go (b := T7.setTop (mkF m 56 #[rv r, iv (N.toInt32), .val (.long xi), .second, .val (.long ((N.toInt32).toInt64)), .second] [(.int (if lcmpW xi ((N.toInt32).toInt64) = 0 then 1 else 0))])) (fun t k => XS.ifNo X7.here hx rfl (hb hby d10_53) rfl ((if0 _ _).trans (teq hc2).2) k) ?_
      refine own_go (b := T7.setTop (mkF m 57 #[rv r, iv (N.toInt32), .val (.long xi), .second, .val (.long ((N.toInt32).toInt64)), .second] [(.int 1), (.int (if lcmpW xi ((N.toInt32).toInt64) = 0 then 1 else 0))])) (fun t k => XS.iconst X7.here hx rfl (hb hby d10_56) k) ?_
      refine own_go (b := T7.setTop (mkF m 61 #[rv r, iv (N.toInt32), .val (.long xi), .second, .val (.long ((N.toInt32).toInt64)), .second] [(.int 1), (.int (if lcmpW xi ((N.toInt32).toInt64) = 0 then 1 else 0))])) (fun t k => XS.goto X7.here hx rfl (pc0 := 57) (pc' := 61) rfl (hb hby d10_57) (by decide) (by decide) k) ?_
      have hq8 : (if lcmpW xi ((N.toInt32).toInt64) = 0 then 1 else 0) = (1 : Int32) := if_pos hc2
      refine own_go (b := T7.setTop (mkF m 64 #[rv r, iv (N.toInt32), .val (.long xi), .second, .val (.long ((N.toInt32).toInt64)), .second] [])) (fun t k => XS.icmpNo X7.here hx rfl (hb hby d10_61) rfl (teq hq8).2 k) ?_
      refine own_go (b := T7.setTop (mkF m 65 #[rv r, iv (N.toInt32), .val (.long xi), .second, .val (.long ((N.toInt32).toInt64)), .second] [(.int 1)])) (fun t k => XS.iconst X7.here hx rfl (hb hby d10_64) k) ?_
      refine own_go (b := T7.setTop (mkF m 69 #[rv r, iv (N.toInt32), .val (.long xi), .second, .val (.long ((N.toInt32).toInt64)), .second] [(.int 1)])) (fun t k => XS.goto X7.here hx rfl (pc0 := 65) (pc' := 69) rfl (hb hby d10_65) (by decide) (by decide) k) ?_
      exact own_retN X7 hx hlk (t := .boolean) hrt (by simp) (hb hby d10_69) (Nat.le_of_ble_eq_true rfl) (Nat.le_of_ble_eq_true rfl) (⟨by first | rfl | (simp only [eq_true hc2, eq_true hc5, if_true, if_false]; done) | (simp only [eq_true hc2, eq_true hc5, if_true, if_false]; rfl) | (simp [eq_true hc2, eq_true hc5]; done) | (simp [eq_true hc2, eq_true hc5]; rfl), N7, e7⟩)
    · refine own_go (b := T4.setTop (mkF m 40 #[rv r, iv (N.toInt32), .val (.long xi), .second, .val (.long ((N.toInt32).toInt64)), .second] [(.int (if (0 : Int32) < lcmpW xi ((N.toInt32).toInt64) then 1 else 0))])) (fun t k => XS.ifYes X4.here hx rfl (pc0 := 33) (pc' := 40) rfl (hb hby d10_33) rfl ((if0 _ _).trans (flt hc5).2.2.2) (by decide) (by decide) k) ?_
      refine own_go (b := T4.setTop (mkF m 41 #[rv r, iv (N.toInt32), .val (.long xi), .second, .val (.long ((N.toInt32).toInt64)), .second] [(.int 0), (.int (if (0 : Int32) < lcmpW xi ((N.toInt32).toInt64) then 1 else 0))])) (fun t k => XS.iconst X4.here hx rfl (hb hby d10_40) k) ?_
      have hq9 : (if (0 : Int32) < lcmpW xi ((N.toInt32).toInt64) then 1 else 0) = (0 : Int32) := if_neg hc5
      refine own_go (b := T4.setTop (mkF m 44 #[rv r, iv (N.toInt32), .val (.long xi), .second, .val (.long ((N.toInt32).toInt64)), .second] [])) (fun t k => XS.icmpNo X4.here hx rfl (hb hby d10_41) rfl (teq hq9).2 k) ?_
      refine own_go (b := T4.setTop (mkF m 45 #[rv r, iv (N.toInt32), .val (.long xi), .second, .val (.long ((N.toInt32).toInt64)), .second] [(.ref r)])) (fun t k => XS.aloadN X4.here hx rfl (hb hby d10_44) rfl rfl k) ?_
      refine own_go (b := T4.setTop (mkF m 46 #[rv r, iv (N.toInt32), .val (.long xi), .second, .val (.long ((N.toInt32).toInt64)), .second] [(.long xi), (.ref r)])) (fun t k => XS.lloadN X4.here hx rfl (hb hby d10_45) rfl  k) ?_
      obtain ⟨cq10, kq10, q10a, q10b, q10c⟩ := isOf hZ e4 Er
      obtain ⟨_, _, ⟨T10, L10, k10, n10⟩, -, X10, ⟨Lc10, hQ10, l10, y10, z10⟩, st10⟩ := X4.virtualBack hx (y := (⟨"com/example/vertumnus/vertumnus/interactions/Cardinality", "isReachedBy", "(J)Z"⟩ : MethodName)) (z := (⟨"com/example/vertumnus/vertumnus/interactions/Cardinality", "isReachedBy", "(J)Z"⟩ : MethodName)) hown (mvT hZ (hw _ (List.mem_of_getElem? (i := 69) rfl))) (mvT hZ (hw _ (List.mem_of_getElem? (i := 70) rfl))) (notFace_of_selects (args := #[]) (mvT hZ (hw _ (List.mem_of_getElem? (i := 72) rfl)))) (mvT hZ (hw _ (List.mem_of_getElem? (i := 72) rfl))) (mvT hZ (hw _ (List.mem_of_getElem? (i := 71) rfl))) (by decide) (backOf (W := 0) (rm13 l Z a0 hw [] r xi N h0 n0 Z0 Fmi) hZ (hw _ (List.mem_of_getElem? (i := 73) rfl)) (hw _ (List.mem_of_getElem? (i := 3) rfl)) (by decide) (by decide)) q10a q10c (g := (mkF m 46 #[rv r, iv (N.toInt32), .val (.long xi), .second, .val (.long ((N.toInt32).toInt64)), .second] [(.long xi), (.ref r)])) rfl (by rw [hml]; rfl) (Steps.refl _) (argsL := [(.long xi)]) (rest := []) (lenOf pd_6 rfl) rfl (by show 2 * 0 + _ ≤ _; exact Nat.le_of_eq rfl) (hb hby d10_46) (fun _ _ => ⟨rfl, e4, (by decide : 0 + 0 ≤ _), (by decide : 0 + 0 ≤ _)⟩)
      dsimp only [Pt.U, Pt.locs, Pt.cells, Pt.slots] at X10 l10 y10 z10 st10 hQ10
      subst l10 y10 z10
      obtain ⟨rfl, N10q, e10⟩ := hQ10
      have N10 := Fr.app N4 N10q
      refine own_tr (b := T10.setTop (mkF m 49 #[rv r, iv (N.toInt32), .val (.long xi), .second, .val (.long ((N.toInt32).toInt64)), .second] [(.int (if lcmpW xi ((N.toInt32).toInt64) = 0 then 1 else 0))])) st10 ?_
      refine own_go (b := T10.setTop (mkF m 50 #[rv r, iv (N.toInt32), .val (.long xi), .second, .val (.long ((N.toInt32).toInt64)), .second] [(.long xi), (.int (if lcmpW xi ((N.toInt32).toInt64) = 0 then 1 else 0))])) (fun t k => XS.lloadN X10.here hx rfl (hb hby d10_49) rfl  k) ?_
      refine own_go (b := T10.setTop (mkF m 52 #[rv r, iv (N.toInt32), .val (.long xi), .second, .val (.long ((N.toInt32).toInt64)), .second] [(.long ((N.toInt32).toInt64)), (.long xi), (.int (if lcmpW xi ((N.toInt32).toInt64) = 0 then 1 else 0))])) (fun t k => XS.lload X10.here hx rfl (hb hby d10_50) rfl  k) ?_
      refine own_go (b := T10.setTop (mkF m 53 #[rv r, iv (N.toInt32), .val (.long xi), .second, .val (.long ((N.toInt32).toInt64)), .second] [(.int (lcmpW xi ((N.toInt32).toInt64))), (.int (if lcmpW xi ((N.toInt32).toInt64) = 0 then 1 else 0))])) (fun t k => XS.lcmp X10.here hx rfl (hb hby d10_52) rfl k) ?_
      refine own_go (b := T10.setTop (mkF m 56 #[rv r, iv (N.toInt32), .val (.long xi), .second, .val (.long ((N.toInt32).toInt64)), .second] [(.int (if lcmpW xi ((N.toInt32).toInt64) = 0 then 1 else 0))])) (fun t k => XS.ifNo X10.here hx rfl (hb hby d10_53) rfl ((if0 _ _).trans (teq hc2).2) k) ?_
      refine own_go (b := T10.setTop (mkF m 57 #[rv r, iv (N.toInt32), .val (.long xi), .second, .val (.long ((N.toInt32).toInt64)), .second] [(.int 1), (.int (if lcmpW xi ((N.toInt32).toInt64) = 0 then 1 else 0))])) (fun t k => XS.iconst X10.here hx rfl (hb hby d10_56) k) ?_
      refine own_go (b := T10.setTop (mkF m 61 #[rv r, iv (N.toInt32), .val (.long xi), .second, .val (.long ((N.toInt32).toInt64)), .second] [(.int 1), (.int (if lcmpW xi ((N.toInt32).toInt64) = 0 then 1 else 0))])) (fun t k => XS.goto X10.here hx rfl (pc0 := 57) (pc' := 61) rfl (hb hby d10_57) (by decide) (by decide) k) ?_
      have hq11 : (if lcmpW xi ((N.toInt32).toInt64) = 0 then 1 else 0) = (1 : Int32) := if_pos hc2
      refine own_go (b := T10.setTop (mkF m 64 #[rv r, iv (N.toInt32), .val (.long xi), .second, .val (.long ((N.toInt32).toInt64)), .second] [])) (fun t k => XS.icmpNo X10.here hx rfl (hb hby d10_61) rfl (teq hq11).2 k) ?_
      refine own_go (b := T10.setTop (mkF m 65 #[rv r, iv (N.toInt32), .val (.long xi), .second, .val (.long ((N.toInt32).toInt64)), .second] [(.int 1)])) (fun t k => XS.iconst X10.here hx rfl (hb hby d10_64) k) ?_
      refine own_go (b := T10.setTop (mkF m 69 #[rv r, iv (N.toInt32), .val (.long xi), .second, .val (.long ((N.toInt32).toInt64)), .second] [(.int 1)])) (fun t k => XS.goto X10.here hx rfl (pc0 := 65) (pc' := 69) rfl (hb hby d10_65) (by decide) (by decide) k) ?_
      exact own_retN X10 hx hlk (t := .boolean) hrt (by simp) (hb hby d10_69) (Nat.le_of_ble_eq_true rfl) (Nat.le_of_ble_eq_true rfl) (⟨by first | rfl | (simp only [eq_true hc2, eq_false hc5, if_true, if_false]; done) | (simp only [eq_true hc2, eq_false hc5, if_true, if_false]; rfl) | (simp [eq_true hc2, eq_false hc5]; done) | (simp [eq_true hc2, eq_false hc5]; rfl), N10, e10⟩)
  · refine own_go (b := T1.setTop (mkF m 20 #[rv r, iv (N.toInt32), .val (.long xi), .second, .val (.long ((N.toInt32).toInt64)), .second] [(.int (if lcmpW xi ((N.toInt32).toInt64) = 0 then 1 else 0))])) (fun t k => XS.ifYes X1.here hx rfl (pc0 := 13) (pc' := 20) rfl (hb hby d10_13) rfl ((if0 _ _).trans (feq hc2).2) (by decide) (by decide) k) ?_
    refine own_go (b := T1.setTop (mkF m 21 #[rv r, iv (N.toInt32), .val (.long xi), .second, .val (.long ((N.toInt32).toInt64)), .second] [(.int 0), (.int (if lcmpW xi ((N.toInt32).toInt64) = 0 then 1 else 0))])) (fun t k => XS.iconst X1.here hx rfl (hb hby d10_20) k) ?_
    have hq12 : (if lcmpW xi ((N.toInt32).toInt64) = 0 then 1 else 0) = (0 : Int32) := if_neg hc2
    refine own_go (b := T1.setTop (mkF m 24 #[rv r, iv (N.toInt32), .val (.long xi), .second, .val (.long ((N.toInt32).toInt64)), .second] [])) (fun t k => XS.icmpNo X1.here hx rfl (hb hby d10_21) rfl (teq hq12).2 k) ?_
    refine own_go (b := T1.setTop (mkF m 25 #[rv r, iv (N.toInt32), .val (.long xi), .second, .val (.long ((N.toInt32).toInt64)), .second] [(.ref r)])) (fun t k => XS.aloadN X1.here hx rfl (hb hby d10_24) rfl rfl k) ?_
    refine own_go (b := T1.setTop (mkF m 26 #[rv r, iv (N.toInt32), .val (.long xi), .second, .val (.long ((N.toInt32).toInt64)), .second] [(.long xi), (.ref r)])) (fun t k => XS.lloadN X1.here hx rfl (hb hby d10_25) rfl  k) ?_
    obtain ⟨cq13, kq13, q13a, q13b, q13c⟩ := isOf hZ e1 Er
    obtain ⟨_, _, ⟨T13, L13, k13, n13⟩, -, X13, ⟨Lc13, hQ13, l13, y13, z13⟩, st13⟩ := X1.virtualBack hx (y := (⟨"com/example/vertumnus/vertumnus/interactions/Cardinality", "isExceededBy", "(J)Z"⟩ : MethodName)) (z := (⟨"com/example/vertumnus/vertumnus/interactions/Cardinality", "isExceededBy", "(J)Z"⟩ : MethodName)) hown (mvT hZ (hw _ (List.mem_of_getElem? (i := 64) rfl))) (mvT hZ (hw _ (List.mem_of_getElem? (i := 65) rfl))) (notFace_of_selects (args := #[]) (mvT hZ (hw _ (List.mem_of_getElem? (i := 67) rfl)))) (mvT hZ (hw _ (List.mem_of_getElem? (i := 67) rfl))) (mvT hZ (hw _ (List.mem_of_getElem? (i := 66) rfl))) (by decide) (backOf (W := 0) (rm12 l Z a0 hw [] r xi N h0 n0 Z0 Fma) hZ (hw _ (List.mem_of_getElem? (i := 68) rfl)) (hw _ (List.mem_of_getElem? (i := 3) rfl)) (by decide) (by decide)) q13a q13c (g := (mkF m 26 #[rv r, iv (N.toInt32), .val (.long xi), .second, .val (.long ((N.toInt32).toInt64)), .second] [(.long xi), (.ref r)])) rfl (by rw [hml]; rfl) (Steps.refl _) (argsL := [(.long xi)]) (rest := []) (lenOf pd_6 rfl) rfl (by show 2 * 0 + _ ≤ _; exact Nat.le_of_eq rfl) (hb hby d10_26) (fun _ _ => ⟨rfl, e1, (by decide : 0 + 0 ≤ _), (by decide : 0 + 0 ≤ _)⟩)
    dsimp only [Pt.U, Pt.locs, Pt.cells, Pt.slots] at X13 l13 y13 z13 st13 hQ13
    subst l13 y13 z13
    obtain ⟨rfl, N13q, e13⟩ := hQ13
    have N13 := Fr.app N1 N13q
    refine own_tr (b := T13.setTop (mkF m 29 #[rv r, iv (N.toInt32), .val (.long xi), .second, .val (.long ((N.toInt32).toInt64)), .second] [(.int (if (0 : Int32) < lcmpW xi ((N.toInt32).toInt64) then 1 else 0))])) st13 ?_
    refine own_go (b := T13.setTop (mkF m 30 #[rv r, iv (N.toInt32), .val (.long xi), .second, .val (.long ((N.toInt32).toInt64)), .second] [(.long xi), (.int (if (0 : Int32) < lcmpW xi ((N.toInt32).toInt64) then 1 else 0))])) (fun t k => XS.lloadN X13.here hx rfl (hb hby d10_29) rfl  k) ?_
    refine own_go (b := T13.setTop (mkF m 32 #[rv r, iv (N.toInt32), .val (.long xi), .second, .val (.long ((N.toInt32).toInt64)), .second] [(.long ((N.toInt32).toInt64)), (.long xi), (.int (if (0 : Int32) < lcmpW xi ((N.toInt32).toInt64) then 1 else 0))])) (fun t k => XS.lload X13.here hx rfl (hb hby d10_30) rfl  k) ?_
    refine own_go (b := T13.setTop (mkF m 33 #[rv r, iv (N.toInt32), .val (.long xi), .second, .val (.long ((N.toInt32).toInt64)), .second] [(.int (lcmpW xi ((N.toInt32).toInt64))), (.int (if (0 : Int32) < lcmpW xi ((N.toInt32).toInt64) then 1 else 0))])) (fun t k => XS.lcmp X13.here hx rfl (hb hby d10_32) rfl k) ?_
    by_cases hc14 : (0 : Int32) < (lcmpW xi ((N.toInt32).toInt64))
    · refine own_go (b := T13.setTop (mkF m 36 #[rv r, iv (N.toInt32), .val (.long xi), .second, .val (.long ((N.toInt32).toInt64)), .second] [(.int (if (0 : Int32) < lcmpW xi ((N.toInt32).toInt64) then 1 else 0))])) (fun t k => XS.ifNo X13.here hx rfl (hb hby d10_33) rfl ((if0 _ _).trans (tlt hc14).2.2.2) k) ?_
      refine own_go (b := T13.setTop (mkF m 37 #[rv r, iv (N.toInt32), .val (.long xi), .second, .val (.long ((N.toInt32).toInt64)), .second] [(.int 1), (.int (if (0 : Int32) < lcmpW xi ((N.toInt32).toInt64) then 1 else 0))])) (fun t k => XS.iconst X13.here hx rfl (hb hby d10_36) k) ?_
      refine own_go (b := T13.setTop (mkF m 41 #[rv r, iv (N.toInt32), .val (.long xi), .second, .val (.long ((N.toInt32).toInt64)), .second] [(.int 1), (.int (if (0 : Int32) < lcmpW xi ((N.toInt32).toInt64) then 1 else 0))])) (fun t k => XS.goto X13.here hx rfl (pc0 := 37) (pc' := 41) rfl (hb hby d10_37) (by decide) (by decide) k) ?_
      have hq15 : (if (0 : Int32) < lcmpW xi ((N.toInt32).toInt64) then 1 else 0) = (1 : Int32) := if_pos hc14
      refine own_go (b := T13.setTop (mkF m 44 #[rv r, iv (N.toInt32), .val (.long xi), .second, .val (.long ((N.toInt32).toInt64)), .second] [])) (fun t k => XS.icmpNo X13.here hx rfl (hb hby d10_41) rfl (teq hq15).2 k) ?_
      refine own_go (b := T13.setTop (mkF m 45 #[rv r, iv (N.toInt32), .val (.long xi), .second, .val (.long ((N.toInt32).toInt64)), .second] [(.ref r)])) (fun t k => XS.aloadN X13.here hx rfl (hb hby d10_44) rfl rfl k) ?_
      refine own_go (b := T13.setTop (mkF m 46 #[rv r, iv (N.toInt32), .val (.long xi), .second, .val (.long ((N.toInt32).toInt64)), .second] [(.long xi), (.ref r)])) (fun t k => XS.lloadN X13.here hx rfl (hb hby d10_45) rfl  k) ?_
      obtain ⟨cq16, kq16, q16a, q16b, q16c⟩ := isOf hZ e13 Er
      obtain ⟨_, _, ⟨T16, L16, k16, n16⟩, -, X16, ⟨Lc16, hQ16, l16, y16, z16⟩, st16⟩ := X13.virtualBack hx (y := (⟨"com/example/vertumnus/vertumnus/interactions/Cardinality", "isReachedBy", "(J)Z"⟩ : MethodName)) (z := (⟨"com/example/vertumnus/vertumnus/interactions/Cardinality", "isReachedBy", "(J)Z"⟩ : MethodName)) hown (mvT hZ (hw _ (List.mem_of_getElem? (i := 69) rfl))) (mvT hZ (hw _ (List.mem_of_getElem? (i := 70) rfl))) (notFace_of_selects (args := #[]) (mvT hZ (hw _ (List.mem_of_getElem? (i := 72) rfl)))) (mvT hZ (hw _ (List.mem_of_getElem? (i := 72) rfl))) (mvT hZ (hw _ (List.mem_of_getElem? (i := 71) rfl))) (by decide) (backOf (W := 0) (rm13 l Z a0 hw [] r xi N h0 n0 Z0 Fmi) hZ (hw _ (List.mem_of_getElem? (i := 73) rfl)) (hw _ (List.mem_of_getElem? (i := 3) rfl)) (by decide) (by decide)) q16a q16c (g := (mkF m 46 #[rv r, iv (N.toInt32), .val (.long xi), .second, .val (.long ((N.toInt32).toInt64)), .second] [(.long xi), (.ref r)])) rfl (by rw [hml]; rfl) (Steps.refl _) (argsL := [(.long xi)]) (rest := []) (lenOf pd_6 rfl) rfl (by show 2 * 0 + _ ≤ _; exact Nat.le_of_eq rfl) (hb hby d10_46) (fun _ _ => ⟨rfl, e13, (by decide : 0 + 0 ≤ _), (by decide : 0 + 0 ≤ _)⟩)
      dsimp only [Pt.U, Pt.locs, Pt.cells, Pt.slots] at X16 l16 y16 z16 st16 hQ16
      subst l16 y16 z16
      obtain ⟨rfl, N16q, e16⟩ := hQ16
      have N16 := Fr.app N13 N16q
      refine own_tr (b := T16.setTop (mkF m 49 #[rv r, iv (N.toInt32), .val (.long xi), .second, .val (.long ((N.toInt32).toInt64)), .second] [(.int (if lcmpW xi ((N.toInt32).toInt64) = 0 then 1 else 0))])) st16 ?_
      refine own_go (b := T16.setTop (mkF m 50 #[rv r, iv (N.toInt32), .val (.long xi), .second, .val (.long ((N.toInt32).toInt64)), .second] [(.long xi), (.int (if lcmpW xi ((N.toInt32).toInt64) = 0 then 1 else 0))])) (fun t k => XS.lloadN X16.here hx rfl (hb hby d10_49) rfl  k) ?_
      refine own_go (b := T16.setTop (mkF m 52 #[rv r, iv (N.toInt32), .val (.long xi), .second, .val (.long ((N.toInt32).toInt64)), .second] [(.long ((N.toInt32).toInt64)), (.long xi), (.int (if lcmpW xi ((N.toInt32).toInt64) = 0 then 1 else 0))])) (fun t k => XS.lload X16.here hx rfl (hb hby d10_50) rfl  k) ?_
      refine own_go (b := T16.setTop (mkF m 53 #[rv r, iv (N.toInt32), .val (.long xi), .second, .val (.long ((N.toInt32).toInt64)), .second] [(.int (lcmpW xi ((N.toInt32).toInt64))), (.int (if lcmpW xi ((N.toInt32).toInt64) = 0 then 1 else 0))])) (fun t k => XS.lcmp X16.here hx rfl (hb hby d10_52) rfl k) ?_
      refine own_go (b := T16.setTop (mkF m 60 #[rv r, iv (N.toInt32), .val (.long xi), .second, .val (.long ((N.toInt32).toInt64)), .second] [(.int (if lcmpW xi ((N.toInt32).toInt64) = 0 then 1 else 0))])) (fun t k => XS.ifYes X16.here hx rfl (pc0 := 53) (pc' := 60) rfl (hb hby d10_53) rfl ((if0 _ _).trans (feq hc2).2) (by decide) (by decide) k) ?_
      refine own_go (b := T16.setTop (mkF m 61 #[rv r, iv (N.toInt32), .val (.long xi), .second, .val (.long ((N.toInt32).toInt64)), .second] [(.int 0), (.int (if lcmpW xi ((N.toInt32).toInt64) = 0 then 1 else 0))])) (fun t k => XS.iconst X16.here hx rfl (hb hby d10_60) k) ?_
      have hq17 : (if lcmpW xi ((N.toInt32).toInt64) = 0 then 1 else 0) = (0 : Int32) := if_neg hc2
      refine own_go (b := T16.setTop (mkF m 64 #[rv r, iv (N.toInt32), .val (.long xi), .second, .val (.long ((N.toInt32).toInt64)), .second] [])) (fun t k => XS.icmpNo X16.here hx rfl (hb hby d10_61) rfl (teq hq17).2 k) ?_
      refine own_go (b := T16.setTop (mkF m 65 #[rv r, iv (N.toInt32), .val (.long xi), .second, .val (.long ((N.toInt32).toInt64)), .second] [(.int 1)])) (fun t k => XS.iconst X16.here hx rfl (hb hby d10_64) k) ?_
      refine own_go (b := T16.setTop (mkF m 69 #[rv r, iv (N.toInt32), .val (.long xi), .second, .val (.long ((N.toInt32).toInt64)), .second] [(.int 1)])) (fun t k => XS.goto X16.here hx rfl (pc0 := 65) (pc' := 69) rfl (hb hby d10_65) (by decide) (by decide) k) ?_
      exact own_retN X16 hx hlk (t := .boolean) hrt (by simp) (hb hby d10_69) (Nat.le_of_ble_eq_true rfl) (Nat.le_of_ble_eq_true rfl) (⟨by first | rfl | (simp only [eq_false hc2, eq_true hc14, if_true, if_false]; done) | (simp only [eq_false hc2, eq_true hc14, if_true, if_false]; rfl) | (simp [eq_false hc2, eq_true hc14]; done) | (simp [eq_false hc2, eq_true hc14]; rfl), N16, e16⟩)
    · refine own_go (b := T13.setTop (mkF m 40 #[rv r, iv (N.toInt32), .val (.long xi), .second, .val (.long ((N.toInt32).toInt64)), .second] [(.int (if (0 : Int32) < lcmpW xi ((N.toInt32).toInt64) then 1 else 0))])) (fun t k => XS.ifYes X13.here hx rfl (pc0 := 33) (pc' := 40) rfl (hb hby d10_33) rfl ((if0 _ _).trans (flt hc14).2.2.2) (by decide) (by decide) k) ?_
      refine own_go (b := T13.setTop (mkF m 41 #[rv r, iv (N.toInt32), .val (.long xi), .second, .val (.long ((N.toInt32).toInt64)), .second] [(.int 0), (.int (if (0 : Int32) < lcmpW xi ((N.toInt32).toInt64) then 1 else 0))])) (fun t k => XS.iconst X13.here hx rfl (hb hby d10_40) k) ?_
      have hq18 : (if (0 : Int32) < lcmpW xi ((N.toInt32).toInt64) then 1 else 0) = (0 : Int32) := if_neg hc14
      refine own_go (b := T13.setTop (mkF m 44 #[rv r, iv (N.toInt32), .val (.long xi), .second, .val (.long ((N.toInt32).toInt64)), .second] [])) (fun t k => XS.icmpNo X13.here hx rfl (hb hby d10_41) rfl (teq hq18).2 k) ?_
      refine own_go (b := T13.setTop (mkF m 45 #[rv r, iv (N.toInt32), .val (.long xi), .second, .val (.long ((N.toInt32).toInt64)), .second] [(.ref r)])) (fun t k => XS.aloadN X13.here hx rfl (hb hby d10_44) rfl rfl k) ?_
      refine own_go (b := T13.setTop (mkF m 46 #[rv r, iv (N.toInt32), .val (.long xi), .second, .val (.long ((N.toInt32).toInt64)), .second] [(.long xi), (.ref r)])) (fun t k => XS.lloadN X13.here hx rfl (hb hby d10_45) rfl  k) ?_
      obtain ⟨cq19, kq19, q19a, q19b, q19c⟩ := isOf hZ e13 Er
      obtain ⟨_, _, ⟨T19, L19, k19, n19⟩, -, X19, ⟨Lc19, hQ19, l19, y19, z19⟩, st19⟩ := X13.virtualBack hx (y := (⟨"com/example/vertumnus/vertumnus/interactions/Cardinality", "isReachedBy", "(J)Z"⟩ : MethodName)) (z := (⟨"com/example/vertumnus/vertumnus/interactions/Cardinality", "isReachedBy", "(J)Z"⟩ : MethodName)) hown (mvT hZ (hw _ (List.mem_of_getElem? (i := 69) rfl))) (mvT hZ (hw _ (List.mem_of_getElem? (i := 70) rfl))) (notFace_of_selects (args := #[]) (mvT hZ (hw _ (List.mem_of_getElem? (i := 72) rfl)))) (mvT hZ (hw _ (List.mem_of_getElem? (i := 72) rfl))) (mvT hZ (hw _ (List.mem_of_getElem? (i := 71) rfl))) (by decide) (backOf (W := 0) (rm13 l Z a0 hw [] r xi N h0 n0 Z0 Fmi) hZ (hw _ (List.mem_of_getElem? (i := 73) rfl)) (hw _ (List.mem_of_getElem? (i := 3) rfl)) (by decide) (by decide)) q19a q19c (g := (mkF m 46 #[rv r, iv (N.toInt32), .val (.long xi), .second, .val (.long ((N.toInt32).toInt64)), .second] [(.long xi), (.ref r)])) rfl (by rw [hml]; rfl) (Steps.refl _) (argsL := [(.long xi)]) (rest := []) (lenOf pd_6 rfl) rfl (by show 2 * 0 + _ ≤ _; exact Nat.le_of_eq rfl) (hb hby d10_46) (fun _ _ => ⟨rfl, e13, (by decide : 0 + 0 ≤ _), (by decide : 0 + 0 ≤ _)⟩)
      dsimp only [Pt.U, Pt.locs, Pt.cells, Pt.slots] at X19 l19 y19 z19 st19 hQ19
      subst l19 y19 z19
      obtain ⟨rfl, N19q, e19⟩ := hQ19
      have N19 := Fr.app N13 N19q
      refine own_tr (b := T19.setTop (mkF m 49 #[rv r, iv (N.toInt32), .val (.long xi), .second, .val (.long ((N.toInt32).toInt64)), .second] [(.int (if lcmpW xi ((N.toInt32).toInt64) = 0 then 1 else 0))])) st19 ?_
      refine own_go (b := T19.setTop (mkF m 50 #[rv r, iv (N.toInt32), .val (.long xi), .second, .val (.long ((N.toInt32).toInt64)), .second] [(.long xi), (.int (if lcmpW xi ((N.toInt32).toInt64) = 0 then 1 else 0))])) (fun t k => XS.lloadN X19.here hx rfl (hb hby d10_49) rfl  k) ?_
      refine own_go (b := T19.setTop (mkF m 52 #[rv r, iv (N.toInt32), .val (.long xi), .second, .val (.long ((N.toInt32).toInt64)), .second] [(.long ((N.toInt32).toInt64)), (.long xi), (.int (if lcmpW xi ((N.toInt32).toInt64) = 0 then 1 else 0))])) (fun t k => XS.lload X19.here hx rfl (hb hby d10_50) rfl  k) ?_
      refine own_go (b := T19.setTop (mkF m 53 #[rv r, iv (N.toInt32), .val (.long xi), .second, .val (.long ((N.toInt32).toInt64)), .second] [(.int (lcmpW xi ((N.toInt32).toInt64))), (.int (if lcmpW xi ((N.toInt32).toInt64) = 0 then 1 else 0))])) (fun t k => XS.lcmp X19.here hx rfl (hb hby d10_52) rfl k) ?_
      refine own_go (b := T19.setTop (mkF m 60 #[rv r, iv (N.toInt32), .val (.long xi), .second, .val (.long ((N.toInt32).toInt64)), .second] [(.int (if lcmpW xi ((N.toInt32).toInt64) = 0 then 1 else 0))])) (fun t k => XS.ifYes X19.here hx rfl (pc0 := 53) (pc' := 60) rfl (hb hby d10_53) rfl ((if0 _ _).trans (feq hc2).2) (by decide) (by decide) k) ?_
      refine own_go (b := T19.setTop (mkF m 61 #[rv r, iv (N.toInt32), .val (.long xi), .second, .val (.long ((N.toInt32).toInt64)), .second] [(.int 0), (.int (if lcmpW xi ((N.toInt32).toInt64) = 0 then 1 else 0))])) (fun t k => XS.iconst X19.here hx rfl (hb hby d10_60) k) ?_
      have hq20 : (if lcmpW xi ((N.toInt32).toInt64) = 0 then 1 else 0) = (0 : Int32) := if_neg hc2
      refine own_go (b := T19.setTop (mkF m 64 #[rv r, iv (N.toInt32), .val (.long xi), .second, .val (.long ((N.toInt32).toInt64)), .second] [])) (fun t k => XS.icmpNo X19.here hx rfl (hb hby d10_61) rfl (teq hq20).2 k) ?_
      refine own_go (b := T19.setTop (mkF m 65 #[rv r, iv (N.toInt32), .val (.long xi), .second, .val (.long ((N.toInt32).toInt64)), .second] [(.int 1)])) (fun t k => XS.iconst X19.here hx rfl (hb hby d10_64) k) ?_
      refine own_go (b := T19.setTop (mkF m 69 #[rv r, iv (N.toInt32), .val (.long xi), .second, .val (.long ((N.toInt32).toInt64)), .second] [(.int 1)])) (fun t k => XS.goto X19.here hx rfl (pc0 := 65) (pc' := 69) rfl (hb hby d10_65) (by decide) (by decide) k) ?_
      exact own_retN X19 hx hlk (t := .boolean) hrt (by simp) (hb hby d10_69) (Nat.le_of_ble_eq_true rfl) (Nat.le_of_ble_eq_true rfl) (⟨by first | rfl | (simp only [eq_false hc2, eq_false hc14, if_true, if_false]; done) | (simp only [eq_false hc2, eq_false hc14, if_true, if_false]; rfl) | (simp [eq_false hc2, eq_false hc14]; done) | (simp [eq_false hc2, eq_false hc14]; rfl), N19, e19⟩)
theorem d18_0 : decode jdk_42_method_152_code 0 = .ok (.getstatic 38, 3) := by decide +kernel
theorem d18_3 : decode jdk_42_method_152_code 3 = .ok (.ifCond .eq 10, 3) := by decide +kernel
theorem d18_6 : decode jdk_42_method_152_code 6 = .ok (.aload_n 0, 1) := by decide +kernel
theorem d18_7 : decode jdk_42_method_152_code 7 = .ok (.getfield 15, 3) := by decide +kernel
theorem d18_10 : decode jdk_42_method_152_code 10 = .ok (.goto 4, 3) := by decide +kernel
theorem d18_13 : decode jdk_42_method_152_code 13 = .ok (.iconst 1, 1) := by decide +kernel
theorem d18_14 : decode jdk_42_method_152_code 14 = .ok (.ireturn, 1) := by decide +kernel
theorem ef_18 (m : MethodId) (ss : Addr) : entryFrame m #[(.ref ss)] 1 = mkF m 0 #[rv ss] [] := by first | (simp [entryFrame, mkF, argsToLocals, Value.category]; done) | rfl
def Q18 (Z : State) (ss : Addr) (G1 : Int32) (h0 : Heap) (n0 : Nat) (v : Option Value) (h : Heap) (L : List Loc) : Prop := v = some (.int 0) ∧ Fr n0 L ∧ h = h0
set_option maxRecDepth 65536 in
set_option maxHeartbeats 40000000 in
theorem rm18 (l : Launch) (Z : State) (a0 : Array Value) (hw : ∀ d ∈ tables_1, d.before a0 Z = true) (ws : List Jvm.Cond) (ss : Addr) (G1 : Int32) (h0 : Heap) (n0 : Nat) (Z0 : n0 ≤ h0.size) (Cs : Fld Z h0 ss "java/lang/String" "coder" "B" (.int (0 : Int32))) (O2 : Sta Z Z.heap "java/lang/String" "COMPACT_STRINGS" "Z" (.int G1)) (P5 : ¬ (G1 = (0 : Int32))) (Od : Old Z n0 h0) :
    MetFree l (⟨"java/lang/String", "coder", "()B"⟩ : MethodName) (head1 (Jvm.Cond.code (⟨"java/lang/String", "coder", "()B"⟩ : MethodName) jdk_42_method_152_code 1 (some .byte) :: ws) ({ frames := 0, cells := 0, slots := 0, locals := 0 } : Room)) (fun a U => a = #[(.ref ss)] ∧ Z.Warmed39 U.vm ∧ U.heap = h0) (fun _ _ _ _ _ => True) (fun _ U o U' => ∃ v L, o = .returned v ∧ Q18 Z ss G1 h0 n0 v U'.heap L ∧ FrameEnd U o U' L ({ frames := 0, cells := 0, slots := 0, locals := 0 } : Room).cells ({ frames := 0, cells := 0, slots := 0, locals := 0 } : Room).slots) := by
  refine MetFree.of_bodySF (plainFor_of_name pn_1) hisR ?_
  intro p e s m args below meth c s₁ Bd hml0 hP hK
  obtain ⟨rfl, hZ, hh⟩ := hP
  have hx := Bd.exec
  have hby := Bd.bytes
  have hml : c.maxLocals = 1 := hml0
  have hown : s.vm.findClass "java/lang/String" = some m.cls := findClass_of_methodNamed Bd.named
  have hnm := (name_of_methodNamed Bd.named Bd.method).1
  have hlk : meth.locks = false := Bd.notSynchronized
  have hrt := Bd.returns
  have X0 : Stand p l e ({ frames := 0, cells := 0, slots := 0, locals := 0 } : Room) s m #[(.ref ss)] below meth c s₁ [] 0 0 := Stand.of_body Bd
  have e0 : s₁.heap = h0 := by rw [← hh, Bd.state]; rfl
  have N0 := Fr.nil n0
  show own_Endz p.tables e below (own_EndQ s ({ frames := 0, cells := 0, slots := 0, locals := 0 } : Room).cells ({ frames := 0, cells := 0, slots := 0, locals := 0 } : Room).slots (Q18 Z ss G1 h0 n0)) (s₁.setTop (entryFrame m #[(.ref ss)] 1))
  refine own_cast (ef_18 m ss) ?_
  obtain ⟨T1, X1, e1, st1⟩ := getS2 X0 hx hZ hown (host := "") (Or.inl (hw _ (List.mem_of_getElem? (i := 95) rfl))) Via.refl e0 (O2.ext Od.2) (g := (mkF m 0 #[rv ss] [])) rfl (hb hby d18_0)
  refine own_go (b := T1.setTop (mkF m 3 #[rv ss] [(.int G1)])) st1 ?_
  refine own_go (b := T1.setTop (mkF m 6 #[rv ss] [])) (fun t k => XS.ifNo X1.here hx rfl (hb hby d18_3) rfl ((if0 _ _).trans (feq P5).1) k) ?_
  refine own_go (b := T1.setTop (mkF m 7 #[rv ss] [(.ref ss)])) (fun t k => XS.aloadN X1.here hx rfl (hb hby d18_6) rfl rfl k) ?_
  obtain ⟨T2, X2, e2, st2⟩ := getF X1 hx hZ hown (host := "") (Or.inl (hw _ (List.mem_of_getElem? (i := 32) rfl))) Via.refl e1 Cs (g := (mkF m 7 #[rv ss] [(.ref ss)])) rfl rfl (hb hby d18_7)
  refine own_go (b := T2.setTop (mkF m 10 #[rv ss] [(.int 0)])) st2 ?_
  refine own_go (b := T2.setTop (mkF m 14 #[rv ss] [(.int 0)])) (fun t k => XS.goto X2.here hx rfl (pc0 := 10) (pc' := 14) rfl (hb hby d18_10) (by decide) (by decide) k) ?_
  exact own_retN X2 hx hlk (t := .byte) hrt (by simp) (hb hby d18_14) (Nat.le_of_ble_eq_true rfl) (Nat.le_of_ble_eq_true rfl) (⟨by first | rfl | (simp only [nar, if_true, if_false]; done) | (simp only [nar, if_true, if_false]; rfl) | (simp [nar]; done) | (simp [nar]; rfl), N0, e2⟩)
theorem d17_0 : decode jdk_42_method_54_code 0 = .ok (.aload_n 0, 1) := by decide +kernel
theorem d17_1 : decode jdk_42_method_54_code 1 = .ok (.getfield 9, 3) := by decide +kernel
theorem d17_4 : decode jdk_42_method_54_code 4 = .ok (.arraylength, 1) := by decide +kernel
theorem d17_5 : decode jdk_42_method_54_code 5 = .ok (.aload_n 0, 1) := by decide +kernel
theorem d17_6 : decode jdk_42_method_54_code 6 = .ok (.invokevirtual 335, 3) := by decide +kernel
theorem d17_9 : decode jdk_42_method_54_code 9 = .ok (.ishr, 1) := by decide +kernel
theorem d17_10 : decode jdk_42_method_54_code 10 = .ok (.ireturn, 1) := by decide +kernel
theorem pd_7 : parseMethodDescriptor "()B" = some ⟨[], some .byte⟩ := by decide +kernel
theorem ef_17 (m : MethodId) (ss : Addr) : entryFrame m #[(.ref ss)] 1 = mkF m 0 #[rv ss] [] := by first | (simp [entryFrame, mkF, argsToLocals, Value.category]; done) | rfl
def Q17 (Z : State) (ss : Addr) (cs : List Int32) (G1 : Int32) (h0 : Heap) (n0 : Nat) (v : Option Value) (h : Heap) (L : List Loc) : Prop := v = some (.int (Int32.ofNat cs.length)) ∧ Fr n0 L ∧ h = h0
set_option maxRecDepth 65536 in
set_option maxHeartbeats 40000000 in
theorem rm17 (l : Launch) (Z : State) (a0 : Array Value) (hw : ∀ d ∈ tables_1, d.before a0 Z = true) (ws : List Jvm.Cond) (ss : Addr) (cs : List Int32) (G1 : Int32) (h0 : Heap) (n0 : Nat) (Z0 : n0 ≤ h0.size) (hS : own_Str Z h0 0 ss cs) (O2 : Sta Z Z.heap "java/lang/String" "COMPACT_STRINGS" "Z" (.int G1)) (P5 : ¬ (G1 = (0 : Int32))) (Od : Old Z n0 h0) :
    MetFree l (⟨"java/lang/String", "length", "()I"⟩ : MethodName) (head1 (Jvm.Cond.code (⟨"java/lang/String", "length", "()I"⟩ : MethodName) jdk_42_method_54_code 1 (some .int) :: ws) ({ frames := 1, cells := 0, slots := 0, locals := 13 } : Room)) (fun a U => a = #[(.ref ss)] ∧ Z.Warmed39 U.vm ∧ U.heap = h0) (fun _ _ _ _ _ => True) (fun _ U o U' => ∃ v L, o = .returned v ∧ Q17 Z ss cs G1 h0 n0 v U'.heap L ∧ FrameEnd U o U' L ({ frames := 1, cells := 0, slots := 0, locals := 13 } : Room).cells ({ frames := 1, cells := 0, slots := 0, locals := 13 } : Room).slots) := by
  refine MetFree.of_bodySF (plainFor_of_name pn_1) hisR ?_
  intro p e s m args below meth c s₁ Bd hml0 hP hK
  obtain ⟨rfl, hZ, hh⟩ := hP
  have hx := Bd.exec
  have hby := Bd.bytes
  have hml : c.maxLocals = 1 := hml0
  have hown : s.vm.findClass "java/lang/String" = some m.cls := findClass_of_methodNamed Bd.named
  have hnm := (name_of_methodNamed Bd.named Bd.method).1
  have hlk : meth.locks = false := Bd.notSynchronized
  have hrt := Bd.returns
  have X0 : Stand p l e ({ frames := 1, cells := 0, slots := 0, locals := 13 } : Room) s m #[(.ref ss)] below meth c s₁ [] 0 0 := Stand.of_body Bd
  have e0 : s₁.heap = h0 := by rw [← hh, Bd.state]; rfl
  have N0 := Fr.nil n0
  show own_Endz p.tables e below (own_EndQ s ({ frames := 1, cells := 0, slots := 0, locals := 13 } : Room).cells ({ frames := 1, cells := 0, slots := 0, locals := 13 } : Room).slots (Q17 Z ss cs G1 h0 n0)) (s₁.setTop (entryFrame m #[(.ref ss)] 1))
  refine own_cast (ef_17 m ss) ?_
  obtain ⟨tb, kt, lo1, lo2, Es, Vs, Cs, Kt, hlat, hlen⟩ := id hS
  refine own_go (b := s₁.setTop (mkF m 1 #[rv ss] [(.ref ss)])) (fun t k => XS.aloadN X0.here hx rfl (hb hby d17_0) rfl rfl k) ?_
  obtain ⟨T1, X1, e1, st1⟩ := getF X0 hx hZ hown (host := "") (Or.inl (hw _ (List.mem_of_getElem? (i := 30) rfl))) Via.refl e0 Vs (g := (mkF m 1 #[rv ss] [(.ref ss)])) rfl rfl (hb hby d17_1)
  refine own_go (b := T1.setTop (mkF m 4 #[rv ss] [(.ref tb)])) st1 ?_
  obtain ⟨cl2, Ar2, qc2, Sz2, Ng2, Hs2, Ft2⟩ := id Kt
  refine own_go (b := T1.setTop (mkF m 5 #[rv ss] [(.int (cl2.slots.size.toInt32))])) (fun t k => X1.arraylength hx (by rw [e1]; exact Ar2.1) (State.isArrayOf_alike hZ.alike Ar2.2.1) (g := (mkF m 4 #[rv ss] [(.ref tb)])) rfl rfl (hb hby d17_4) t k) ?_
  rw [(len_of Sz2 Ng2)]
  refine own_go (b := T1.setTop (mkF m 6 #[rv ss] [(.ref ss), (.int (Int32.ofNat cs.length))])) (fun t k => XS.aloadN X1.here hx rfl (hb hby d17_5) rfl rfl k) ?_
  obtain ⟨cq3, kq3, q3a, q3b, q3c⟩ := isOf hZ e1 Es
  obtain ⟨_, _, ⟨T3, L3, k3, n3⟩, -, X3, ⟨Lc3, hQ3, l3, y3, z3⟩, st3⟩ := X1.virtualBack hx (y := (⟨"java/lang/String", "coder", "()B"⟩ : MethodName)) (z := (⟨"java/lang/String", "coder", "()B"⟩ : MethodName)) hown (mvT hZ (hw _ (List.mem_of_getElem? (i := 90) rfl))) (mvT hZ (hw _ (List.mem_of_getElem? (i := 91) rfl))) (notFace_of_selects (args := #[]) (mvT hZ (hw _ (List.mem_of_getElem? (i := 93) rfl)))) (mvT hZ (hw _ (List.mem_of_getElem? (i := 93) rfl))) (mvT hZ (hw _ (List.mem_of_getElem? (i := 92) rfl))) (by decide) (backOf (W := 1) (rm18 l Z a0 hw [] ss G1 h0 n0 Z0 Cs O2 P5 Od) hZ (hw _ (List.mem_of_getElem? (i := 94) rfl)) (hw _ (List.mem_of_getElem? (i := 15) rfl)) (by decide) (by decide)) q3a q3c (g := (mkF m 6 #[rv ss] [(.ref ss), (.int (Int32.ofNat cs.length))])) rfl (by rw [hml]; rfl) (Steps.refl _) (argsL := []) (rest := [(.int (Int32.ofNat cs.length))]) (lenOf pd_7 rfl) rfl (by show 2 * 0 + _ ≤ _; exact Nat.le_of_eq rfl) (hb hby d17_6) (fun _ _ => ⟨rfl, e1, (by decide : 0 + 0 ≤ _), (by decide : 0 + 0 ≤ _)⟩)
  dsimp only [Pt.U, Pt.locs, Pt.cells, Pt.slots] at X3 l3 y3 z3 st3 hQ3
  subst l3 y3 z3
  obtain ⟨rfl, N3q, e3⟩ := hQ3
  have N3 := Fr.app N0 N3q
  refine own_tr (b := T3.setTop (mkF m 9 #[rv ss] [(.int 0), (.int (Int32.ofNat cs.length))])) st3 ?_
  refine own_go (b := T3.setTop (mkF m 10 #[rv ss] [(.int ((Int32.ofNat cs.length) >>> ((0 : Int32) &&& 31)))])) (fun t k => XS.ishr X3.here hx rfl (hb hby d17_9) rfl k) ?_
  exact own_retI X3 hx hlk hrt (hb hby d17_10) (Nat.le_of_ble_eq_true rfl) (Nat.le_of_ble_eq_true rfl) (⟨congrArg (fun q => some (Value.int q)) (own_sh0 _), N3, e3⟩)
theorem d24_0 : decode jdk_41_method_11_code 0 = .ok (.iload_n 0, 1) := by decide +kernel
theorem d24_1 : decode jdk_41_method_11_code 1 = .ok (.ifCond .lt 8, 3) := by decide +kernel
theorem d24_4 : decode jdk_41_method_11_code 4 = .ok (.iload_n 0, 1) := by decide +kernel
theorem d24_5 : decode jdk_41_method_11_code 5 = .ok (.iload_n 1, 1) := by decide +kernel
theorem d24_6 : decode jdk_41_method_11_code 6 = .ok (.if_icmp .lt 10, 3) := by decide +kernel
theorem d24_9 : decode jdk_41_method_11_code 9 = .ok (.aload_n 2, 1) := by decide +kernel
theorem d24_10 : decode jdk_41_method_11_code 10 = .ok (.iload_n 0, 1) := by decide +kernel
theorem d24_11 : decode jdk_41_method_11_code 11 = .ok (.iload_n 1, 1) := by decide +kernel
theorem d24_12 : decode jdk_41_method_11_code 12 = .ok (.invokestatic 95, 3) := by decide +kernel
theorem d24_15 : decode jdk_41_method_11_code 15 = .ok (.athrow, 1) := by decide +kernel
theorem d24_16 : decode jdk_41_method_11_code 16 = .ok (.iload_n 0, 1) := by decide +kernel
theorem d24_17 : decode jdk_41_method_11_code 17 = .ok (.ireturn, 1) := by decide +kernel
theorem pn_4 : plainName "jdk/internal/util/Preconditions" = true := by first | (simp [plainName, overriddenIn]; done) | decide +kernel
theorem ef_24 (m : MethodId) (ia : Int32) (ib : Int32) (fm : Value) (h_fm : fm.isRef = true) : entryFrame m #[(.int ia), (.int ib), fm] 3 = mkF m 0 #[iv ia, iv ib, .val fm] [] := by
  rcases ref_cases h_fm with rfl | ⟨z, rfl⟩ <;> (first | (simp [entryFrame, mkF, argsToLocals, Value.category]; done) | rfl)
def Q24 (Z : State) (ia : Int32) (ib : Int32) (fm : Value) (h0 : Heap) (n0 : Nat) (v : Option Value) (h : Heap) (L : List Loc) : Prop := v = some (.int ia) ∧ Fr n0 L ∧ h = h0
set_option maxRecDepth 65536 in
set_option maxHeartbeats 40000000 in
theorem rm24 (l : Launch) (Z : State) (a0 : Array Value) (hw : ∀ d ∈ tables_1, d.before a0 Z = true) (ws : List Jvm.Cond) (ia : Int32) (ib : Int32) (fm : Value) (h0 : Heap) (n0 : Nat) (Z0 : n0 ≤ h0.size) (rfm : fm.isRef = true) (hnn : ¬ ia < (0 : Int32)) (hlt : ia < ib) :
    MetFree l (⟨"jdk/internal/util/Preconditions", "checkIndex", "(IILjava/util/function/BiFunction;)I"⟩ : MethodName) (head1 (Jvm.Cond.code (⟨"jdk/internal/util/Preconditions", "checkIndex", "(IILjava/util/function/BiFunction;)I"⟩ : MethodName) jdk_41_method_11_code 3 (some .int) :: ws) ({ frames := 0, cells := 0, slots := 0, locals := 0 } : Room)) (fun a U => a = #[(.int ia), (.int ib), fm] ∧ Z.Warmed39 U.vm ∧ U.heap = h0) (fun _ _ _ _ _ => True) (fun _ U o U' => ∃ v L, o = .returned v ∧ Q24 Z ia ib fm h0 n0 v U'.heap L ∧ FrameEnd U o U' L ({ frames := 0, cells := 0, slots := 0, locals := 0 } : Room).cells ({ frames := 0, cells := 0, slots := 0, locals := 0 } : Room).slots) := by
  refine MetFree.of_bodySF (plainFor_of_name pn_4) hisR ?_
  intro p e s m args below meth c s₁ Bd hml0 hP hK
  obtain ⟨rfl, hZ, hh⟩ := hP
  have hx := Bd.exec
  have hby := Bd.bytes
  have hml : c.maxLocals = 3 := hml0
  have hown : s.vm.findClass "jdk/internal/util/Preconditions" = some m.cls := findClass_of_methodNamed Bd.named
  have hnm := (name_of_methodNamed Bd.named Bd.method).1
  have hlk : meth.locks = false := Bd.notSynchronized
  have hrt := Bd.returns
  have X0 : Stand p l e ({ frames := 0, cells := 0, slots := 0, locals := 0 } : Room) s m #[(.int ia), (.int ib), fm] below meth c s₁ [] 0 0 := Stand.of_body Bd
  have e0 : s₁.heap = h0 := by rw [← hh, Bd.state]; rfl
  have N0 := Fr.nil n0
  show own_Endz p.tables e below (own_EndQ s ({ frames := 0, cells := 0, slots := 0, locals := 0 } : Room).cells ({ frames := 0, cells := 0, slots := 0, locals := 0 } : Room).slots (Q24 Z ia ib fm h0 n0)) (s₁.setTop (entryFrame m #[(.int ia), (.int ib), fm] 3))
  refine own_cast (ef_24 m ia ib fm rfm) ?_
  refine own_go (b := s₁.setTop (mkF m 1 #[iv ia, iv ib, .val fm] [(.int ia)])) (fun t k => XS.iloadN X0.here hx rfl (hb hby d24_0) rfl  k) ?_
  refine own_go (b := s₁.setTop (mkF m 4 #[iv ia, iv ib, .val fm] [])) (fun t k => XS.ifNo X0.here hx rfl (hb hby d24_1) rfl ((if0 _ _).trans (flt hnn).1) k) ?_
  refine own_go (b := s₁.setTop (mkF m 5 #[iv ia, iv ib, .val fm] [(.int ia)])) (fun t k => XS.iloadN X0.here hx rfl (hb hby d24_4) rfl  k) ?_
  refine own_go (b := s₁.setTop (mkF m 6 #[iv ia, iv ib, .val fm] [(.int ib), (.int ia)])) (fun t k => XS.iloadN X0.here hx rfl (hb hby d24_5) rfl  k) ?_
  refine own_go (b := s₁.setTop (mkF m 16 #[iv ia, iv ib, .val fm] [])) (fun t k => XS.icmpYes X0.here hx rfl (pc0 := 6) (pc' := 16) rfl (hb hby d24_6) rfl (tlt hlt).1 (by decide) (by decide) k) ?_
  refine own_go (b := s₁.setTop (mkF m 17 #[iv ia, iv ib, .val fm] [(.int ia)])) (fun t k => XS.iloadN X0.here hx rfl (hb hby d24_16) rfl  k) ?_
  exact own_retI X0 hx hlk hrt (hb hby d24_17) (Nat.le_of_ble_eq_true rfl) (Nat.le_of_ble_eq_true rfl) (⟨by first | rfl | (simp only [if_true, if_true, if_false]; done) | (simp only [if_true, if_true, if_false]; rfl) | (simp []; done) | (simp []; rfl), N0, e0⟩)
theorem d23_0 : decode jdk_42_method_155_code 0 = .ok (.iload_n 0, 1) := by decide +kernel
theorem d23_1 : decode jdk_42_method_155_code 1 = .ok (.iload_n 1, 1) := by decide +kernel
theorem d23_2 : decode jdk_42_method_155_code 2 = .ok (.getstatic 1053, 3) := by decide +kernel
theorem d23_5 : decode jdk_42_method_155_code 5 = .ok (.invokestatic 1059, 3) := by decide +kernel
theorem d23_8 : decode jdk_42_method_155_code 8 = .ok (.pop, 1) := by decide +kernel
theorem d23_9 : decode jdk_42_method_155_code 9 = .ok (.return_, 1) := by decide +kernel
theorem pd_8 : parseMethodDescriptor "(IILjava/util/function/BiFunction;)I" = some ⟨[.int, .int, (.object "java/util/function/BiFunction")], some .int⟩ := by decide +kernel
theorem ef_23 (m : MethodId) (ia : Int32) (ib : Int32) : entryFrame m #[(.int ia), (.int ib)] 2 = mkF m 0 #[iv ia, iv ib] [] := by first | (simp [entryFrame, mkF, argsToLocals, Value.category]; done) | rfl
def Q23 (Z : State) (ia : Int32) (ib : Int32) (G3 : Value) (h0 : Heap) (n0 : Nat) (v : Option Value) (h : Heap) (L : List Loc) : Prop := v = none ∧ Fr n0 L ∧ h = h0
set_option maxRecDepth 65536 in
set_option maxHeartbeats 40000000 in
theorem rm23 (l : Launch) (Z : State) (a0 : Array Value) (hw : ∀ d ∈ tables_1, d.before a0 Z = true) (ws : List Jvm.Cond) (ia : Int32) (ib : Int32) (G3 : Value) (h0 : Heap) (n0 : Nat) (Z0 : n0 ≤ h0.size) (hnn : ¬ ia < (0 : Int32)) (hlt : ia < ib) (O4 : Sta Z Z.heap "jdk/internal/util/Preconditions" "SIOOBE_FORMATTER" "Ljava/util/function/BiFunction;" G3) (rG3 : G3.isRef = true) (Od : Old Z n0 h0) :
    MetFree l (⟨"java/lang/String", "checkIndex", "(II)V"⟩ : MethodName) (head1 (Jvm.Cond.code (⟨"java/lang/String", "checkIndex", "(II)V"⟩ : MethodName) jdk_42_method_155_code 2 none :: ws) ({ frames := 1, cells := 0, slots := 0, locals := 14 } : Room)) (fun a U => a = #[(.int ia), (.int ib)] ∧ Z.Warmed39 U.vm ∧ U.heap = h0) (fun _ _ _ _ _ => True) (fun _ U o U' => ∃ v L, o = .returned v ∧ Q23 Z ia ib G3 h0 n0 v U'.heap L ∧ FrameEnd U o U' L ({ frames := 1, cells := 0, slots := 0, locals := 14 } : Room).cells ({ frames := 1, cells := 0, slots := 0, locals := 14 } : Room).slots) := by
  refine MetFree.of_bodySF (plainFor_of_name pn_1) hisR ?_
  intro p e s m args below meth c s₁ Bd hml0 hP hK
  obtain ⟨rfl, hZ, hh⟩ := hP
  have hx := Bd.exec
  have hby := Bd.bytes
  have hml : c.maxLocals = 2 := hml0
  have hown : s.vm.findClass "java/lang/String" = some m.cls := findClass_of_methodNamed Bd.named
  have hnm := (name_of_methodNamed Bd.named Bd.method).1
  have hlk : meth.locks = false := Bd.notSynchronized
  have hrt := Bd.returns
  have X0 : Stand p l e ({ frames := 1, cells := 0, slots := 0, locals := 14 } : Room) s m #[(.int ia), (.int ib)] below meth c s₁ [] 0 0 := Stand.of_body Bd
  have e0 : s₁.heap = h0 := by rw [← hh, Bd.state]; rfl
  have N0 := Fr.nil n0
  show own_Endz p.tables e below (own_EndQ s ({ frames := 1, cells := 0, slots := 0, locals := 14 } : Room).cells ({ frames := 1, cells := 0, slots := 0, locals := 14 } : Room).slots (Q23 Z ia ib G3 h0 n0)) (s₁.setTop (entryFrame m #[(.int ia), (.int ib)] 2))
  refine own_cast (ef_23 m ia ib) ?_
  refine own_go (b := s₁.setTop (mkF m 1 #[iv ia, iv ib] [(.int ia)])) (fun t k => XS.iloadN X0.here hx rfl (hb hby d23_0) rfl  k) ?_
  refine own_go (b := s₁.setTop (mkF m 2 #[iv ia, iv ib] [(.int ib), (.int ia)])) (fun t k => XS.iloadN X0.here hx rfl (hb hby d23_1) rfl  k) ?_
  obtain ⟨T1, X1, e1, st1⟩ := getS2 X0 hx hZ hown (host := "") (Or.inl (hw _ (List.mem_of_getElem? (i := 116) rfl))) Via.refl e0 (O4.ext Od.2) (g := (mkF m 2 #[iv ia, iv ib] [(.int ib), (.int ia)])) rfl (hb hby d23_2)
  refine own_go (b := T1.setTop (mkF m 5 #[iv ia, iv ib] [G3, (.int ib), (.int ia)])) st1 ?_
  obtain ⟨_, _, ⟨T2, L2, k2, n2⟩, -, X2, ⟨Lc2, hQ2, l2, y2, z2⟩, st2⟩ := Jvm.LawKit.callS X1 hx (y := (⟨"jdk/internal/util/Preconditions", "checkIndex", "(IILjava/util/function/BiFunction;)I"⟩ : MethodName)) hown (mvT hZ (hw _ (List.mem_of_getElem? (i := 118) rfl))) (mvT hZ (hw _ (List.mem_of_getElem? (i := 119) rfl))) (mvT hZ (hw _ (List.mem_of_getElem? (i := 117) rfl))) (mvT hZ (hw _ (List.mem_of_getElem? (i := 120) rfl))) (by decide) (backOf (W := 0) (rm24 l Z a0 hw [] ia ib G3  h0 n0 Z0 rG3 hnn hlt) hZ (hw _ (List.mem_of_getElem? (i := 120) rfl)) (hw _ (List.mem_of_getElem? (i := 117) rfl)) (by decide) (by decide)) (g := (mkF m 5 #[iv ia, iv ib] [G3, (.int ib), (.int ia)])) rfl (by rw [hml]; rfl) (argsL := [(.int ia), (.int ib), G3]) (rest := []) (lenOf pd_8 rfl) rfl (by show 2 * 0 + _ ≤ _; exact Nat.le_of_eq rfl) (hb hby d23_5) (fun _ _ => ⟨rfl, e1, (by decide : 0 + 0 ≤ _), (by decide : 0 + 0 ≤ _)⟩)
  dsimp only [Pt.U, Pt.locs, Pt.cells, Pt.slots] at X2 l2 y2 z2 st2 hQ2
  subst l2 y2 z2
  obtain ⟨rfl, N2q, e2⟩ := hQ2
  have N2 := Fr.app N0 N2q
  refine own_go (b := T2.setTop (mkF m 8 #[iv ia, iv ib] [(.int ia)])) st2 ?_
  refine own_go (b := T2.setTop (mkF m 9 #[iv ia, iv ib] [])) (fun t k => XS.pop X2.here hx rfl (hb hby d23_8) rfl rfl k) ?_
  exact own_retV X2 hx hlk hrt (hb hby d23_9) (Nat.le_of_ble_eq_true rfl) (Nat.le_of_ble_eq_true rfl) (⟨by first | rfl | (simp only [if_true, if_true, if_false]; done) | (simp only [if_true, if_true, if_false]; rfl) | (simp []; done) | (simp []; rfl), N2, e2⟩)
theorem d22_0 : decode jdk_43_method_2_code 0 = .ok (.iload_n 1, 1) := by decide +kernel
theorem d22_1 : decode jdk_43_method_2_code 1 = .ok (.aload_n 0, 1) := by decide +kernel
theorem d22_2 : decode jdk_43_method_2_code 2 = .ok (.arraylength, 1) := by decide +kernel
theorem d22_3 : decode jdk_43_method_2_code 3 = .ok (.invokestatic 9, 3) := by decide +kernel
theorem d22_6 : decode jdk_43_method_2_code 6 = .ok (.aload_n 0, 1) := by decide +kernel
theorem d22_7 : decode jdk_43_method_2_code 7 = .ok (.iload_n 1, 1) := by decide +kernel
theorem d22_8 : decode jdk_43_method_2_code 8 = .ok (.baload, 1) := by decide +kernel
theorem d22_9 : decode jdk_43_method_2_code 9 = .ok (.sipush 255, 3) := by decide +kernel
theorem d22_12 : decode jdk_43_method_2_code 12 = .ok (.iand, 1) := by decide +kernel
theorem d22_13 : decode jdk_43_method_2_code 13 = .ok (.i2c, 1) := by decide +kernel
theorem d22_14 : decode jdk_43_method_2_code 14 = .ok (.ireturn, 1) := by decide +kernel
theorem pn_5 : plainName "java/lang/StringLatin1" = true := by first | (simp [plainName, overriddenIn]; done) | decide +kernel
theorem pd_9 : parseMethodDescriptor "(II)V" = some ⟨[.int, .int], none⟩ := by decide +kernel
theorem ef_22 (m : MethodId) (tb : Addr) (ii : Int32) : entryFrame m #[(.ref tb), (.int ii)] 2 = mkF m 0 #[rv tb, iv ii] [] := by first | (simp [entryFrame, mkF, argsToLocals, Value.category]; done) | rfl
def Q22 (Z : State) (tb : Addr) (ii : Int32) (kt : ClassId) (cs : List Int32) (i : Nat) (G3 : Value) (h0 : Heap) (n0 : Nat) (v : Option Value) (h : Heap) (L : List Loc) : Prop := v = some (.int (cs.getD i 0)) ∧ Fr n0 L ∧ h = h0
set_option maxRecDepth 65536 in
set_option maxHeartbeats 40000000 in
theorem rm22 (l : Launch) (Z : State) (a0 : Array Value) (hw : ∀ d ∈ tables_1, d.before a0 Z = true) (ws : List Jvm.Cond) (tb : Addr) (ii : Int32) (kt : ClassId) (cs : List Int32) (i : Nat) (G3 : Value) (h0 : Heap) (n0 : Nat) (Z0 : n0 ≤ h0.size) (hii : ii = i.toInt32) (Kt : Arv Z h0 tb kt .byte (Int32.ofNat cs.length) ((cs.map own_lo).map Value.int) (.int (0 : Int32))) (hlat : own_lat cs) (hlen : cs.length ≤ 4000) (hi : i < cs.length) (O4 : Sta Z Z.heap "jdk/internal/util/Preconditions" "SIOOBE_FORMATTER" "Ljava/util/function/BiFunction;" G3) (rG3 : G3.isRef = true) (Od : Old Z n0 h0) :
    MetFree l (⟨"java/lang/StringLatin1", "charAt", "([BI)C"⟩ : MethodName) (head1 (Jvm.Cond.code (⟨"java/lang/StringLatin1", "charAt", "([BI)C"⟩ : MethodName) jdk_43_method_2_code 2 (some .char) :: ws) ({ frames := 2, cells := 0, slots := 0, locals := 27 } : Room)) (fun a U => a = #[(.ref tb), (.int ii)] ∧ Z.Warmed39 U.vm ∧ U.heap = h0) (fun _ _ _ _ _ => True) (fun _ U o U' => ∃ v L, o = .returned v ∧ Q22 Z tb ii kt cs i G3 h0 n0 v U'.heap L ∧ FrameEnd U o U' L ({ frames := 2, cells := 0, slots := 0, locals := 27 } : Room).cells ({ frames := 2, cells := 0, slots := 0, locals := 27 } : Room).slots) := by
  refine MetFree.of_bodySF (plainFor_of_name pn_5) hisR ?_
  intro p e s m args below meth c s₁ Bd hml0 hP hK
  obtain ⟨rfl, hZ, hh⟩ := hP
  have hx := Bd.exec
  have hby := Bd.bytes
  have hml : c.maxLocals = 2 := hml0
  have hown : s.vm.findClass "java/lang/StringLatin1" = some m.cls := findClass_of_methodNamed Bd.named
  have hnm := (name_of_methodNamed Bd.named Bd.method).1
  have hlk : meth.locks = false := Bd.notSynchronized
  have hrt := Bd.returns
  have X0 : Stand p l e ({ frames := 2, cells := 0, slots := 0, locals := 27 } : Room) s m #[(.ref tb), (.int ii)] below meth c s₁ [] 0 0 := Stand.of_body Bd
  have e0 : s₁.heap = h0 := by rw [← hh, Bd.state]; rfl
  have N0 := Fr.nil n0
  show own_Endz p.tables e below (own_EndQ s ({ frames := 2, cells := 0, slots := 0, locals := 27 } : Room).cells ({ frames := 2, cells := 0, slots := 0, locals := 27 } : Room).slots (Q22 Z tb ii kt cs i G3 h0 n0)) (s₁.setTop (entryFrame m #[(.ref tb), (.int ii)] 2))
  refine own_cast (ef_22 m tb ii) ?_
  subst hii
  refine own_go (b := s₁.setTop (mkF m 1 #[rv tb, iv (i.toInt32)] [(.int (i.toInt32))])) (fun t k => XS.iloadN X0.here hx rfl (hb hby d22_0) rfl  k) ?_
  refine own_go (b := s₁.setTop (mkF m 2 #[rv tb, iv (i.toInt32)] [(.ref tb), (.int (i.toInt32))])) (fun t k => XS.aloadN X0.here hx rfl (hb hby d22_1) rfl rfl k) ?_
  obtain ⟨cl1, Ar1, qc1, Sz1, Ng1, Hs1, Ft1⟩ := id Kt
  refine own_go (b := s₁.setTop (mkF m 3 #[rv tb, iv (i.toInt32)] [(.int (cl1.slots.size.toInt32)), (.int (i.toInt32))])) (fun t k => X0.arraylength hx (by rw [e0]; exact Ar1.1) (State.isArrayOf_alike hZ.alike Ar1.2.1) (g := (mkF m 2 #[rv tb, iv (i.toInt32)] [(.ref tb), (.int (i.toInt32))])) rfl rfl (hb hby d22_2) t k) ?_
  rw [(len_of Sz1 Ng1)]
  obtain ⟨_, _, ⟨T2, L2, k2, n2⟩, -, X2, ⟨Lc2, hQ2, l2, y2, z2⟩, st2⟩ := Jvm.LawKit.callS X0 hx (y := (⟨"java/lang/String", "checkIndex", "(II)V"⟩ : MethodName)) hown (mvT hZ (hw _ (List.mem_of_getElem? (i := 113) rfl))) (mvT hZ (hw _ (List.mem_of_getElem? (i := 114) rfl))) (mvT hZ (hw _ (List.mem_of_getElem? (i := 15) rfl))) (mvT hZ (hw _ (List.mem_of_getElem? (i := 115) rfl))) (by decide) (backOf (W := 0) (rm23 l Z a0 hw [] (i.toInt32) (Int32.ofNat cs.length) G3 h0 n0 Z0 (own_i32n (by omega)) (own_i32l hlen hi) O4 rG3 Od) hZ (hw _ (List.mem_of_getElem? (i := 115) rfl)) (hw _ (List.mem_of_getElem? (i := 15) rfl)) (by decide) (by decide)) (g := (mkF m 3 #[rv tb, iv (i.toInt32)] [(.int (Int32.ofNat cs.length)), (.int (i.toInt32))])) rfl (by rw [hml]; rfl) (argsL := [(.int (i.toInt32)), (.int (Int32.ofNat cs.length))]) (rest := []) (lenOf pd_9 rfl) rfl (by show 2 * 0 + _ ≤ _; exact Nat.le_of_eq rfl) (hb hby d22_3) (fun _ _ => ⟨rfl, e0, (by decide : 0 + 0 ≤ _), (by decide : 0 + 0 ≤ _)⟩)
  dsimp only [Pt.U, Pt.locs, Pt.cells, Pt.slots] at X2 l2 y2 z2 st2 hQ2
  subst l2 y2 z2
  obtain ⟨rfl, N2q, e2⟩ := hQ2
  have N2 := Fr.app N0 N2q
  refine own_go (b := T2.setTop (mkF m 6 #[rv tb, iv (i.toInt32)] [])) st2 ?_
  refine own_go (b := T2.setTop (mkF m 7 #[rv tb, iv (i.toInt32)] [(.ref tb)])) (fun t k => XS.aloadN X2.here hx rfl (hb hby d22_6) rfl rfl k) ?_
  refine own_go (b := T2.setTop (mkF m 8 #[rv tb, iv (i.toInt32)] [(.int (i.toInt32)), (.ref tb)])) (fun t k => XS.iloadN X2.here hx rfl (hb hby d22_7) rfl  k) ?_
  obtain ⟨cl3, Ar3, qc3, Sz3, Ng3, Hs3, Ft3⟩ := id Kt
  have hb3 := own_bat hlen hi Sz3 Hs3
  refine own_go (b := T2.setTop (mkF m 9 #[rv tb, iv (i.toInt32)] [(.int (own_lo (cs.getD i 0)))])) (fun t k => X2.baloadBytes hx (j := (i.toInt32)) (v := (.int (own_lo (cs.getD i 0)))) (by rw [e2]; exact Ar3.1) (State.isArrayOf_alike hZ.alike Ar3.2.1) Ar3.2.2 hb3.1 hb3.2 (g := (mkF m 8 #[rv tb, iv (i.toInt32)] [(.int (i.toInt32)), (.ref tb)])) rfl rfl (hb hby d22_8) t k) ?_
  refine own_go (b := T2.setTop (mkF m 12 #[rv tb, iv (i.toInt32)] [(.int 255), (.int (own_lo (cs.getD i 0)))])) (fun t k => XS.sipush X2.here hx rfl (hb hby d22_9) k) ?_
  refine own_go (b := T2.setTop (mkF m 13 #[rv tb, iv (i.toInt32)] [(.int ((own_lo (cs.getD i 0)) &&& (255 : Int32)))])) (fun t k => XS.iand X2.here hx rfl (hb hby d22_12) rfl k) ?_
  refine own_go (b := T2.setTop (mkF m 14 #[rv tb, iv (i.toInt32)] [(.int (((own_lo (cs.getD i 0)) &&& (255 : Int32)).toUInt32.toUInt16.toUInt32.toInt32))])) (fun t k => XS.i2c X2.here hx rfl (hb hby d22_13) rfl k) ?_
  exact own_retN X2 hx hlk (t := .char) hrt (by simp) (hb hby d22_14) (Nat.le_of_ble_eq_true rfl) (Nat.le_of_ble_eq_true rfl) (⟨congrArg (fun q => some (Value.int q)) (own_ch (own_latD hlat i)), N2, e2⟩)
theorem d21_0 : decode jdk_42_method_154_code 0 = .ok (.getstatic 38, 3) := by decide +kernel
theorem d21_3 : decode jdk_42_method_154_code 3 = .ok (.ifCond .eq 14, 3) := by decide +kernel
theorem d21_6 : decode jdk_42_method_154_code 6 = .ok (.aload_n 0, 1) := by decide +kernel
theorem d21_7 : decode jdk_42_method_154_code 7 = .ok (.getfield 15, 3) := by decide +kernel
theorem d21_10 : decode jdk_42_method_154_code 10 = .ok (.ifCond .ne 7, 3) := by decide +kernel
theorem d21_13 : decode jdk_42_method_154_code 13 = .ok (.iconst 1, 1) := by decide +kernel
theorem d21_14 : decode jdk_42_method_154_code 14 = .ok (.goto 4, 3) := by decide +kernel
theorem d21_17 : decode jdk_42_method_154_code 17 = .ok (.iconst 0, 1) := by decide +kernel
theorem d21_18 : decode jdk_42_method_154_code 18 = .ok (.ireturn, 1) := by decide +kernel
theorem ef_21 (m : MethodId) (ss : Addr) : entryFrame m #[(.ref ss)] 1 = mkF m 0 #[rv ss] [] := by first | (simp [entryFrame, mkF, argsToLocals, Value.category]; done) | rfl
def Q21 (Z : State) (ss : Addr) (G1 : Int32) (h0 : Heap) (n0 : Nat) (v : Option Value) (h : Heap) (L : List Loc) : Prop := v = some (.int 1) ∧ Fr n0 L ∧ h = h0
set_option maxRecDepth 65536 in
set_option maxHeartbeats 40000000 in
theorem rm21 (l : Launch) (Z : State) (a0 : Array Value) (hw : ∀ d ∈ tables_1, d.before a0 Z = true) (ws : List Jvm.Cond) (ss : Addr) (G1 : Int32) (h0 : Heap) (n0 : Nat) (Z0 : n0 ≤ h0.size) (Cs : Fld Z h0 ss "java/lang/String" "coder" "B" (.int (0 : Int32))) (O2 : Sta Z Z.heap "java/lang/String" "COMPACT_STRINGS" "Z" (.int G1)) (P5 : ¬ (G1 = (0 : Int32))) (Od : Old Z n0 h0) :
    MetFree l (⟨"java/lang/String", "isLatin1", "()Z"⟩ : MethodName) (head1 (Jvm.Cond.code (⟨"java/lang/String", "isLatin1", "()Z"⟩ : MethodName) jdk_42_method_154_code 1 (some .boolean) :: ws) ({ frames := 0, cells := 0, slots := 0, locals := 0 } : Room)) (fun a U => a = #[(.ref ss)] ∧ Z.Warmed39 U.vm ∧ U.heap = h0) (fun _ _ _ _ _ => True) (fun _ U o U' => ∃ v L, o = .returned v ∧ Q21 Z ss G1 h0 n0 v U'.heap L ∧ FrameEnd U o U' L ({ frames := 0, cells := 0, slots := 0, locals := 0 } : Room).cells ({ frames := 0, cells := 0, slots := 0, locals := 0 } : Room).slots) := by
  refine MetFree.of_bodySF (plainFor_of_name pn_1) hisR ?_
  intro p e s m args below meth c s₁ Bd hml0 hP hK
  obtain ⟨rfl, hZ, hh⟩ := hP
  have hx := Bd.exec
  have hby := Bd.bytes
  have hml : c.maxLocals = 1 := hml0
  have hown : s.vm.findClass "java/lang/String" = some m.cls := findClass_of_methodNamed Bd.named
  have hnm := (name_of_methodNamed Bd.named Bd.method).1
  have hlk : meth.locks = false := Bd.notSynchronized
  have hrt := Bd.returns
  have X0 : Stand p l e ({ frames := 0, cells := 0, slots := 0, locals := 0 } : Room) s m #[(.ref ss)] below meth c s₁ [] 0 0 := Stand.of_body Bd
  have e0 : s₁.heap = h0 := by rw [← hh, Bd.state]; rfl
  have N0 := Fr.nil n0
  show own_Endz p.tables e below (own_EndQ s ({ frames := 0, cells := 0, slots := 0, locals := 0 } : Room).cells ({ frames := 0, cells := 0, slots := 0, locals := 0 } : Room).slots (Q21 Z ss G1 h0 n0)) (s₁.setTop (entryFrame m #[(.ref ss)] 1))
  refine own_cast (ef_21 m ss) ?_
  obtain ⟨T1, X1, e1, st1⟩ := getS2 X0 hx hZ hown (host := "") (Or.inl (hw _ (List.mem_of_getElem? (i := 95) rfl))) Via.refl e0 (O2.ext Od.2) (g := (mkF m 0 #[rv ss] [])) rfl (hb hby d21_0)
  refine own_go (b := T1.setTop (mkF m 3 #[rv ss] [(.int G1)])) st1 ?_
  refine own_go (b := T1.setTop (mkF m 6 #[rv ss] [])) (fun t k => XS.ifNo X1.here hx rfl (hb hby d21_3) rfl ((if0 _ _).trans (feq P5).1) k) ?_
  refine own_go (b := T1.setTop (mkF m 7 #[rv ss] [(.ref ss)])) (fun t k => XS.aloadN X1.here hx rfl (hb hby d21_6) rfl rfl k) ?_
  obtain ⟨T2, X2, e2, st2⟩ := getF X1 hx hZ hown (host := "") (Or.inl (hw _ (List.mem_of_getElem? (i := 32) rfl))) Via.refl e1 Cs (g := (mkF m 7 #[rv ss] [(.ref ss)])) rfl rfl (hb hby d21_7)
  refine own_go (b := T2.setTop (mkF m 10 #[rv ss] [(.int 0)])) st2 ?_
  refine own_go (b := T2.setTop (mkF m 13 #[rv ss] [])) (fun t k => XS.ifNo X2.here hx rfl (hb hby d21_10) rfl ((if0 _ _).trans (teq (rfl : (0 : Int32) = (0 : Int32))).2) k) ?_
  refine own_go (b := T2.setTop (mkF m 14 #[rv ss] [(.int 1)])) (fun t k => XS.iconst X2.here hx rfl (hb hby d21_13) k) ?_
  refine own_go (b := T2.setTop (mkF m 18 #[rv ss] [(.int 1)])) (fun t k => XS.goto X2.here hx rfl (pc0 := 14) (pc' := 18) rfl (hb hby d21_14) (by decide) (by decide) k) ?_
  exact own_retN X2 hx hlk (t := .boolean) hrt (by simp) (hb hby d21_18) (Nat.le_of_ble_eq_true rfl) (Nat.le_of_ble_eq_true rfl) (⟨by first | rfl | (simp only [nar, if_true, if_false]; done) | (simp only [nar, if_true, if_false]; rfl) | (simp [nar]; done) | (simp [nar]; rfl), N0, e2⟩)
theorem d20_0 : decode jdk_42_method_56_code 0 = .ok (.aload_n 0, 1) := by decide +kernel
theorem d20_1 : decode jdk_42_method_56_code 1 = .ok (.invokevirtual 492, 3) := by decide +kernel
theorem d20_4 : decode jdk_42_method_56_code 4 = .ok (.ifCond .eq 12, 3) := by decide +kernel
theorem d20_7 : decode jdk_42_method_56_code 7 = .ok (.aload_n 0, 1) := by decide +kernel
theorem d20_8 : decode jdk_42_method_56_code 8 = .ok (.getfield 9, 3) := by decide +kernel
theorem d20_11 : decode jdk_42_method_56_code 11 = .ok (.iload_n 1, 1) := by decide +kernel
theorem d20_12 : decode jdk_42_method_56_code 12 = .ok (.invokestatic 495, 3) := by decide +kernel
theorem d20_15 : decode jdk_42_method_56_code 15 = .ok (.ireturn, 1) := by decide +kernel
theorem d20_16 : decode jdk_42_method_56_code 16 = .ok (.aload_n 0, 1) := by decide +kernel
theorem d20_17 : decode jdk_42_method_56_code 17 = .ok (.getfield 9, 3) := by decide +kernel
theorem d20_20 : decode jdk_42_method_56_code 20 = .ok (.iload_n 1, 1) := by decide +kernel
theorem d20_21 : decode jdk_42_method_56_code 21 = .ok (.invokestatic 498, 3) := by decide +kernel
theorem d20_24 : decode jdk_42_method_56_code 24 = .ok (.ireturn, 1) := by decide +kernel
theorem pd_10 : parseMethodDescriptor "()Z" = some ⟨[], some .boolean⟩ := by decide +kernel
theorem pd_11 : parseMethodDescriptor "([BI)C" = some ⟨[(.array .byte), .int], some .char⟩ := by decide +kernel
theorem ef_20 (m : MethodId) (ss : Addr) (ii : Int32) : entryFrame m #[(.ref ss), (.int ii)] 2 = mkF m 0 #[rv ss, iv ii] [] := by first | (simp [entryFrame, mkF, argsToLocals, Value.category]; done) | rfl
def Q20 (Z : State) (ss : Addr) (ii : Int32) (cs : List Int32) (i : Nat) (G1 : Int32) (G3 : Value) (h0 : Heap) (n0 : Nat) (v : Option Value) (h : Heap) (L : List Loc) : Prop := v = some (.int (cs.getD i 0)) ∧ Fr n0 L ∧ h = h0
set_option maxRecDepth 65536 in
set_option maxHeartbeats 40000000 in
theorem rm20 (l : Launch) (Z : State) (a0 : Array Value) (hw : ∀ d ∈ tables_1, d.before a0 Z = true) (ws : List Jvm.Cond) (ss : Addr) (ii : Int32) (cs : List Int32) (i : Nat) (G1 : Int32) (G3 : Value) (h0 : Heap) (n0 : Nat) (Z0 : n0 ≤ h0.size) (hii : ii = i.toInt32) (hS : own_Str Z h0 0 ss cs) (hi : i < cs.length) (O2 : Sta Z Z.heap "java/lang/String" "COMPACT_STRINGS" "Z" (.int G1)) (P5 : ¬ (G1 = (0 : Int32))) (O4 : Sta Z Z.heap "jdk/internal/util/Preconditions" "SIOOBE_FORMATTER" "Ljava/util/function/BiFunction;" G3) (rG3 : G3.isRef = true) (Od : Old Z n0 h0) :
    MetFree l (⟨"java/lang/String", "charAt", "(I)C"⟩ : MethodName) (head1 (Jvm.Cond.code (⟨"java/lang/String", "charAt", "(I)C"⟩ : MethodName) jdk_42_method_56_code 2 (some .char) :: ws) ({ frames := 3, cells := 0, slots := 0, locals := 40 } : Room)) (fun a U => a = #[(.ref ss), (.int ii)] ∧ Z.Warmed39 U.vm ∧ U.heap = h0) (fun _ _ _ _ _ => True) (fun _ U o U' => ∃ v L, o = .returned v ∧ Q20 Z ss ii cs i G1 G3 h0 n0 v U'.heap L ∧ FrameEnd U o U' L ({ frames := 3, cells := 0, slots := 0, locals := 40 } : Room).cells ({ frames := 3, cells := 0, slots := 0, locals := 40 } : Room).slots) := by
  refine MetFree.of_bodySF (plainFor_of_name pn_1) hisR ?_
  intro p e s m args below meth c s₁ Bd hml0 hP hK
  obtain ⟨rfl, hZ, hh⟩ := hP
  have hx := Bd.exec
  have hby := Bd.bytes
  have hml : c.maxLocals = 2 := hml0
  have hown : s.vm.findClass "java/lang/String" = some m.cls := findClass_of_methodNamed Bd.named
  have hnm := (name_of_methodNamed Bd.named Bd.method).1
  have hlk : meth.locks = false := Bd.notSynchronized
  have hrt := Bd.returns
  have X0 : Stand p l e ({ frames := 3, cells := 0, slots := 0, locals := 40 } : Room) s m #[(.ref ss), (.int ii)] below meth c s₁ [] 0 0 := Stand.of_body Bd
  have e0 : s₁.heap = h0 := by rw [← hh, Bd.state]; rfl
  have N0 := Fr.nil n0
  show own_Endz p.tables e below (own_EndQ s ({ frames := 3, cells := 0, slots := 0, locals := 40 } : Room).cells ({ frames := 3, cells := 0, slots := 0, locals := 40 } : Room).slots (Q20 Z ss ii cs i G1 G3 h0 n0)) (s₁.setTop (entryFrame m #[(.ref ss), (.int ii)] 2))
  refine own_cast (ef_20 m ss ii) ?_
  subst hii
  obtain ⟨tb, kt, lo1, lo2, Es, Vs, Cs, Kt, hlat, hlen⟩ := id hS
  refine own_go (b := s₁.setTop (mkF m 1 #[rv ss, iv (i.toInt32)] [(.ref ss)])) (fun t k => XS.aloadN X0.here hx rfl (hb hby d20_0) rfl rfl k) ?_
  obtain ⟨cq1, kq1, q1a, q1b, q1c⟩ := isOf hZ e0 Es
  obtain ⟨_, _, ⟨T1, L1, k1, n1⟩, -, X1, ⟨Lc1, hQ1, l1, y1, z1⟩, st1⟩ := X0.virtualBack hx (y := (⟨"java/lang/String", "isLatin1", "()Z"⟩ : MethodName)) (z := (⟨"java/lang/String", "isLatin1", "()Z"⟩ : MethodName)) hown (mvT hZ (hw _ (List.mem_of_getElem? (i := 104) rfl))) (mvT hZ (hw _ (List.mem_of_getElem? (i := 105) rfl))) (notFace_of_selects (args := #[]) (mvT hZ (hw _ (List.mem_of_getElem? (i := 107) rfl)))) (mvT hZ (hw _ (List.mem_of_getElem? (i := 107) rfl))) (mvT hZ (hw _ (List.mem_of_getElem? (i := 106) rfl))) (by decide) (backOf (W := 0) (rm21 l Z a0 hw [] ss G1 h0 n0 Z0 Cs O2 P5 Od) hZ (hw _ (List.mem_of_getElem? (i := 108) rfl)) (hw _ (List.mem_of_getElem? (i := 15) rfl)) (by decide) (by decide)) q1a q1c (g := (mkF m 1 #[rv ss, iv (i.toInt32)] [(.ref ss)])) rfl (by rw [hml]; rfl) (Steps.refl _) (argsL := []) (rest := []) (lenOf pd_10 rfl) rfl (by show 2 * 0 + _ ≤ _; exact Nat.le_of_eq rfl) (hb hby d20_1) (fun _ _ => ⟨rfl, e0, (by decide : 0 + 0 ≤ _), (by decide : 0 + 0 ≤ _)⟩)
  dsimp only [Pt.U, Pt.locs, Pt.cells, Pt.slots] at X1 l1 y1 z1 st1 hQ1
  subst l1 y1 z1
  obtain ⟨rfl, N1q, e1⟩ := hQ1
  have N1 := Fr.app N0 N1q
  refine own_tr (b := T1.setTop (mkF m 4 #[rv ss, iv (i.toInt32)] [(.int 1)])) st1 ?_
  refine own_go (b := T1.setTop (mkF m 7 #[rv ss, iv (i.toInt32)] [])) (fun t k => XS.ifNo X1.here hx rfl (hb hby d20_4) rfl ((if0 _ _).trans (feq (by decide : ¬ ((1 : Int32) = (0 : Int32)))).1) k) ?_
  refine own_go (b := T1.setTop (mkF m 8 #[rv ss, iv (i.toInt32)] [(.ref ss)])) (fun t k => XS.aloadN X1.here hx rfl (hb hby d20_7) rfl rfl k) ?_
  obtain ⟨T2, X2, e2, st2⟩ := getF X1 hx hZ hown (host := "") (Or.inl (hw _ (List.mem_of_getElem? (i := 30) rfl))) Via.refl e1 Vs (g := (mkF m 8 #[rv ss, iv (i.toInt32)] [(.ref ss)])) rfl rfl (hb hby d20_8)
  refine own_go (b := T2.setTop (mkF m 11 #[rv ss, iv (i.toInt32)] [(.ref tb)])) st2 ?_
  refine own_go (b := T2.setTop (mkF m 12 #[rv ss, iv (i.toInt32)] [(.int (i.toInt32)), (.ref tb)])) (fun t k => XS.iloadN X2.here hx rfl (hb hby d20_11) rfl  k) ?_
  obtain ⟨_, _, ⟨T3, L3, k3, n3⟩, -, X3, ⟨Lc3, hQ3, l3, y3, z3⟩, st3⟩ := Jvm.LawKit.callS X2 hx (y := (⟨"java/lang/StringLatin1", "charAt", "([BI)C"⟩ : MethodName)) hown (mvT hZ (hw _ (List.mem_of_getElem? (i := 109) rfl))) (mvT hZ (hw _ (List.mem_of_getElem? (i := 110) rfl))) (mvT hZ (hw _ (List.mem_of_getElem? (i := 111) rfl))) (mvT hZ (hw _ (List.mem_of_getElem? (i := 112) rfl))) (by decide) (backOf (W := 0) (rm22 l Z a0 hw [] tb (i.toInt32) kt cs i G3 h0 n0 Z0 rfl Kt hlat hlen hi O4 rG3 Od) hZ (hw _ (List.mem_of_getElem? (i := 112) rfl)) (hw _ (List.mem_of_getElem? (i := 111) rfl)) (by decide) (by decide)) (g := (mkF m 12 #[rv ss, iv (i.toInt32)] [(.int (i.toInt32)), (.ref tb)])) rfl (by rw [hml]; rfl) (argsL := [(.ref tb), (.int (i.toInt32))]) (rest := []) (lenOf pd_11 rfl) rfl (by show 2 * 0 + _ ≤ _; exact Nat.le_of_eq rfl) (hb hby d20_12) (fun _ _ => ⟨rfl, e2, (by decide : 0 + 0 ≤ _), (by decide : 0 + 0 ≤ _)⟩)
  dsimp only [Pt.U, Pt.locs, Pt.cells, Pt.slots] at X3 l3 y3 z3 st3 hQ3
  subst l3 y3 z3
  obtain ⟨rfl, N3q, e3⟩ := hQ3
  have N3 := Fr.app N1 N3q
  refine own_go (b := T3.setTop (mkF m 15 #[rv ss, iv (i.toInt32)] [(.int (cs.getD i 0))])) st3 ?_
  exact own_retN X3 hx hlk (t := .char) hrt (by simp) (hb hby d20_15) (Nat.le_of_ble_eq_true rfl) (Nat.le_of_ble_eq_true rfl) (⟨congrArg (fun q => some (Value.int q)) (own_chn (own_latD hlat i)), N3, e3⟩)
theorem d16_0 : decode method_4_code 0 = .ok (.iload_n 0, 1) := by decide +kernel
theorem d16_1 : decode method_4_code 1 = .ok (.bipush 10, 2) := by decide +kernel
theorem d16_3 : decode method_4_code 3 = .ok (.if_icmp .ge 5, 3) := by decide +kernel
theorem d16_6 : decode method_4_code 6 = .ok (.iconst 1, 1) := by decide +kernel
theorem d16_7 : decode method_4_code 7 = .ok (.ireturn, 1) := by decide +kernel
theorem d16_8 : decode method_4_code 8 = .ok (.iload_n 0, 1) := by decide +kernel
theorem d16_9 : decode method_4_code 9 = .ok (.bipush 100, 2) := by decide +kernel
theorem d16_11 : decode method_4_code 11 = .ok (.if_icmp .ge 5, 3) := by decide +kernel
theorem d16_14 : decode method_4_code 14 = .ok (.iconst 2, 1) := by decide +kernel
theorem d16_15 : decode method_4_code 15 = .ok (.ireturn, 1) := by decide +kernel
theorem d16_16 : decode method_4_code 16 = .ok (.iload_n 0, 1) := by decide +kernel
theorem d16_17 : decode method_4_code 17 = .ok (.sipush 1000, 3) := by decide +kernel
theorem d16_20 : decode method_4_code 20 = .ok (.if_icmp .ge 5, 3) := by decide +kernel
theorem d16_23 : decode method_4_code 23 = .ok (.iconst 3, 1) := by decide +kernel
theorem d16_24 : decode method_4_code 24 = .ok (.ireturn, 1) := by decide +kernel
theorem d16_25 : decode method_4_code 25 = .ok (.iload_n 0, 1) := by decide +kernel
theorem d16_26 : decode method_4_code 26 = .ok (.sipush 10000, 3) := by decide +kernel
theorem d16_29 : decode method_4_code 29 = .ok (.if_icmp .ge 5, 3) := by decide +kernel
theorem d16_32 : decode method_4_code 32 = .ok (.iconst 4, 1) := by decide +kernel
theorem d16_33 : decode method_4_code 33 = .ok (.ireturn, 1) := by decide +kernel
theorem d16_34 : decode method_4_code 34 = .ok (.iload_n 0, 1) := by decide +kernel
theorem d16_35 : decode method_4_code 35 = .ok (.ldc 45, 2) := by decide +kernel
theorem d16_37 : decode method_4_code 37 = .ok (.if_icmp .ge 5, 3) := by decide +kernel
theorem d16_40 : decode method_4_code 40 = .ok (.iconst 5, 1) := by decide +kernel
theorem d16_41 : decode method_4_code 41 = .ok (.ireturn, 1) := by decide +kernel
theorem d16_42 : decode method_4_code 42 = .ok (.iload_n 0, 1) := by decide +kernel
theorem d16_43 : decode method_4_code 43 = .ok (.ldc 46, 2) := by decide +kernel
theorem d16_45 : decode method_4_code 45 = .ok (.if_icmp .ge 6, 3) := by decide +kernel
theorem d16_48 : decode method_4_code 48 = .ok (.bipush 6, 2) := by decide +kernel
theorem d16_50 : decode method_4_code 50 = .ok (.ireturn, 1) := by decide +kernel
theorem d16_51 : decode method_4_code 51 = .ok (.iload_n 0, 1) := by decide +kernel
theorem d16_52 : decode method_4_code 52 = .ok (.ldc 47, 2) := by decide +kernel
theorem d16_54 : decode method_4_code 54 = .ok (.if_icmp .ge 6, 3) := by decide +kernel
theorem d16_57 : decode method_4_code 57 = .ok (.bipush 7, 2) := by decide +kernel
theorem d16_59 : decode method_4_code 59 = .ok (.ireturn, 1) := by decide +kernel
theorem d16_60 : decode method_4_code 60 = .ok (.iload_n 0, 1) := by decide +kernel
theorem d16_61 : decode method_4_code 61 = .ok (.ldc 48, 2) := by decide +kernel
theorem d16_63 : decode method_4_code 63 = .ok (.if_icmp .ge 6, 3) := by decide +kernel
theorem d16_66 : decode method_4_code 66 = .ok (.bipush 8, 2) := by decide +kernel
theorem d16_68 : decode method_4_code 68 = .ok (.ireturn, 1) := by decide +kernel
theorem d16_69 : decode method_4_code 69 = .ok (.iload_n 0, 1) := by decide +kernel
theorem d16_70 : decode method_4_code 70 = .ok (.ldc 49, 2) := by decide +kernel
theorem d16_72 : decode method_4_code 72 = .ok (.if_icmp .ge 6, 3) := by decide +kernel
theorem d16_75 : decode method_4_code 75 = .ok (.bipush 9, 2) := by decide +kernel
theorem d16_77 : decode method_4_code 77 = .ok (.ireturn, 1) := by decide +kernel
theorem d16_78 : decode method_4_code 78 = .ok (.bipush 10, 2) := by decide +kernel
theorem d16_80 : decode method_4_code 80 = .ok (.ireturn, 1) := by decide +kernel
theorem ef_16 (m : MethodId) (ct : Int32) : entryFrame m #[(.int ct)] 1 = mkF m 0 #[iv ct] [] := by first | (simp [entryFrame, mkF, argsToLocals, Value.category]; done) | rfl
def Q16 (Z : State) (ct : Int32) (h0 : Heap) (n0 : Nat) (v : Option Value) (h : Heap) (L : List Loc) : Prop := v = some (.int (own_dgz ct)) ∧ Fr n0 L ∧ h = h0
set_option maxRecDepth 65536 in
set_option maxHeartbeats 40000000 in
theorem rm16 (l : Launch) (Z : State) (a0 : Array Value) (hw : ∀ d ∈ tables_1, d.before a0 Z = true) (ws : List Jvm.Cond) (ct : Int32) (h0 : Heap) (n0 : Nat) (Z0 : n0 ≤ h0.size) :
    MetFree l (⟨"com/example/vertumnus/vertumnus/interactions/CardinalityExactlyPinLaw", "digits", "(I)I"⟩ : MethodName) (head1 (Jvm.Cond.code (⟨"com/example/vertumnus/vertumnus/interactions/CardinalityExactlyPinLaw", "digits", "(I)I"⟩ : MethodName) method_4_code 1 (some .int) :: ws) ({ frames := 0, cells := 0, slots := 0, locals := 0 } : Room)) (fun a U => a = #[(.int ct)] ∧ Z.Warmed39 U.vm ∧ U.heap = h0) (fun _ _ _ _ _ => True) (fun _ U o U' => ∃ v L, o = .returned v ∧ Q16 Z ct h0 n0 v U'.heap L ∧ FrameEnd U o U' L ({ frames := 0, cells := 0, slots := 0, locals := 0 } : Room).cells ({ frames := 0, cells := 0, slots := 0, locals := 0 } : Room).slots) := by
  refine MetFree.of_bodySF (plainFor_of_name pn_3) hisR ?_
  intro p e s m args below meth c s₁ Bd hml0 hP hK
  obtain ⟨rfl, hZ, hh⟩ := hP
  have hx := Bd.exec
  have hby := Bd.bytes
  have hml : c.maxLocals = 1 := hml0
  have hown : s.vm.findClass "com/example/vertumnus/vertumnus/interactions/CardinalityExactlyPinLaw" = some m.cls := findClass_of_methodNamed Bd.named
  have hnm := (name_of_methodNamed Bd.named Bd.method).1
  have hlk : meth.locks = false := Bd.notSynchronized
  have hrt := Bd.returns
  have X0 : Stand p l e ({ frames := 0, cells := 0, slots := 0, locals := 0 } : Room) s m #[(.int ct)] below meth c s₁ [] 0 0 := Stand.of_body Bd
  have e0 : s₁.heap = h0 := by rw [← hh, Bd.state]; rfl
  have N0 := Fr.nil n0
  show own_Endz p.tables e below (own_EndQ s ({ frames := 0, cells := 0, slots := 0, locals := 0 } : Room).cells ({ frames := 0, cells := 0, slots := 0, locals := 0 } : Room).slots (Q16 Z ct h0 n0)) (s₁.setTop (entryFrame m #[(.int ct)] 1))
  refine own_cast (ef_16 m ct) ?_
  refine own_go (b := s₁.setTop (mkF m 1 #[iv ct] [(.int ct)])) (fun t k => XS.iloadN X0.here hx rfl (hb hby d16_0) rfl  k) ?_
  refine own_go (b := s₁.setTop (mkF m 3 #[iv ct] [(.int 10), (.int ct)])) (fun t k => XS.bipush X0.here hx rfl (hb hby d16_1) k) ?_
  by_cases hc1 : ct < (10 : Int32)
  · refine own_go (b := s₁.setTop (mkF m 6 #[iv ct] [])) (fun t k => XS.icmpNo X0.here hx rfl (hb hby d16_3) rfl (tlt hc1).2.1 k) ?_
    refine own_go (b := s₁.setTop (mkF m 7 #[iv ct] [(.int 1)])) (fun t k => XS.iconst X0.here hx rfl (hb hby d16_6) k) ?_
    exact own_retI X0 hx hlk hrt (hb hby d16_7) (Nat.le_of_ble_eq_true rfl) (Nat.le_of_ble_eq_true rfl) (⟨by first | rfl | (simp only [own_dgz, eq_true hc1, if_true, if_false]; done) | (simp only [own_dgz, eq_true hc1, if_true, if_false]; rfl) | (simp [own_dgz, eq_true hc1]; done) | (simp [own_dgz, eq_true hc1]; rfl), N0, e0⟩)
  · refine own_go (b := s₁.setTop (mkF m 8 #[iv ct] [])) (fun t k => XS.icmpYes X0.here hx rfl (pc0 := 3) (pc' := 8) rfl (hb hby d16_3) rfl (flt hc1).2.1 (by decide) (by decide) k) ?_
    refine own_go (b := s₁.setTop (mkF m 9 #[iv ct] [(.int ct)])) (fun t k => XS.iloadN X0.here hx rfl (hb hby d16_8) rfl  k) ?_
    refine own_go (b := s₁.setTop (mkF m 11 #[iv ct] [(.int 100), (.int ct)])) (fun t k => XS.bipush X0.here hx rfl (hb hby d16_9) k) ?_
    by_cases hc2 : ct < (100 : Int32)
    · refine own_go (b := s₁.setTop (mkF m 14 #[iv ct] [])) (fun t k => XS.icmpNo X0.here hx rfl (hb hby d16_11) rfl (tlt hc2).2.1 k) ?_
      refine own_go (b := s₁.setTop (mkF m 15 #[iv ct] [(.int 2)])) (fun t k => XS.iconst X0.here hx rfl (hb hby d16_14) k) ?_
      exact own_retI X0 hx hlk hrt (hb hby d16_15) (Nat.le_of_ble_eq_true rfl) (Nat.le_of_ble_eq_true rfl) (⟨by first | rfl | (simp only [own_dgz, eq_false hc1, eq_true hc2, if_true, if_false]; done) | (simp only [own_dgz, eq_false hc1, eq_true hc2, if_true, if_false]; rfl) | (simp [own_dgz, eq_false hc1, eq_true hc2]; done) | (simp [own_dgz, eq_false hc1, eq_true hc2]; rfl), N0, e0⟩)
    · refine own_go (b := s₁.setTop (mkF m 16 #[iv ct] [])) (fun t k => XS.icmpYes X0.here hx rfl (pc0 := 11) (pc' := 16) rfl (hb hby d16_11) rfl (flt hc2).2.1 (by decide) (by decide) k) ?_
      refine own_go (b := s₁.setTop (mkF m 17 #[iv ct] [(.int ct)])) (fun t k => XS.iloadN X0.here hx rfl (hb hby d16_16) rfl  k) ?_
      refine own_go (b := s₁.setTop (mkF m 20 #[iv ct] [(.int 1000), (.int ct)])) (fun t k => XS.sipush X0.here hx rfl (hb hby d16_17) k) ?_
      by_cases hc3 : ct < (1000 : Int32)
      · refine own_go (b := s₁.setTop (mkF m 23 #[iv ct] [])) (fun t k => XS.icmpNo X0.here hx rfl (hb hby d16_20) rfl (tlt hc3).2.1 k) ?_
        refine own_go (b := s₁.setTop (mkF m 24 #[iv ct] [(.int 3)])) (fun t k => XS.iconst X0.here hx rfl (hb hby d16_23) k) ?_
        exact own_retI X0 hx hlk hrt (hb hby d16_24) (Nat.le_of_ble_eq_true rfl) (Nat.le_of_ble_eq_true rfl) (⟨by first | rfl | (simp only [own_dgz, eq_false hc1, eq_false hc2, eq_true hc3, if_true, if_false]; done) | (simp only [own_dgz, eq_false hc1, eq_false hc2, eq_true hc3, if_true, if_false]; rfl) | (simp [own_dgz, eq_false hc1, eq_false hc2, eq_true hc3]; done) | (simp [own_dgz, eq_false hc1, eq_false hc2, eq_true hc3]; rfl), N0, e0⟩)
      · refine own_go (b := s₁.setTop (mkF m 25 #[iv ct] [])) (fun t k => XS.icmpYes X0.here hx rfl (pc0 := 20) (pc' := 25) rfl (hb hby d16_20) rfl (flt hc3).2.1 (by decide) (by decide) k) ?_
        refine own_go (b := s₁.setTop (mkF m 26 #[iv ct] [(.int ct)])) (fun t k => XS.iloadN X0.here hx rfl (hb hby d16_25) rfl  k) ?_
        refine own_go (b := s₁.setTop (mkF m 29 #[iv ct] [(.int 10000), (.int ct)])) (fun t k => XS.sipush X0.here hx rfl (hb hby d16_26) k) ?_
        by_cases hc4 : ct < (10000 : Int32)
        · refine own_go (b := s₁.setTop (mkF m 32 #[iv ct] [])) (fun t k => XS.icmpNo X0.here hx rfl (hb hby d16_29) rfl (tlt hc4).2.1 k) ?_
          refine own_go (b := s₁.setTop (mkF m 33 #[iv ct] [(.int 4)])) (fun t k => XS.iconst X0.here hx rfl (hb hby d16_32) k) ?_
          exact own_retI X0 hx hlk hrt (hb hby d16_33) (Nat.le_of_ble_eq_true rfl) (Nat.le_of_ble_eq_true rfl) (⟨by first | rfl | (simp only [own_dgz, eq_false hc1, eq_false hc2, eq_false hc3, eq_true hc4, if_true, if_false]; done) | (simp only [own_dgz, eq_false hc1, eq_false hc2, eq_false hc3, eq_true hc4, if_true, if_false]; rfl) | (simp [own_dgz, eq_false hc1, eq_false hc2, eq_false hc3, eq_true hc4]; done) | (simp [own_dgz, eq_false hc1, eq_false hc2, eq_false hc3, eq_true hc4]; rfl), N0, e0⟩)
        · refine own_go (b := s₁.setTop (mkF m 34 #[iv ct] [])) (fun t k => XS.icmpYes X0.here hx rfl (pc0 := 29) (pc' := 34) rfl (hb hby d16_29) rfl (flt hc4).2.1 (by decide) (by decide) k) ?_
          refine own_go (b := s₁.setTop (mkF m 35 #[iv ct] [(.int ct)])) (fun t k => XS.iloadN X0.here hx rfl (hb hby d16_34) rfl  k) ?_
          refine own_go (b := s₁.setTop (mkF m 37 #[iv ct] [(.int 100000), (.int ct)])) (fun t k => X0.ldcInt hx hown (mvT hZ (hw _ (List.mem_of_getElem? (i := 121) rfl))) (g := (mkF m 35 #[iv ct] [(.int ct)])) rfl (hb hby d16_35) t k) ?_
          by_cases hc5 : ct < (100000 : Int32)
          · refine own_go (b := s₁.setTop (mkF m 40 #[iv ct] [])) (fun t k => XS.icmpNo X0.here hx rfl (hb hby d16_37) rfl (tlt hc5).2.1 k) ?_
            refine own_go (b := s₁.setTop (mkF m 41 #[iv ct] [(.int 5)])) (fun t k => XS.iconst X0.here hx rfl (hb hby d16_40) k) ?_
            exact own_retI X0 hx hlk hrt (hb hby d16_41) (Nat.le_of_ble_eq_true rfl) (Nat.le_of_ble_eq_true rfl) (⟨by first | rfl | (simp only [own_dgz, eq_false hc1, eq_false hc2, eq_false hc3, eq_false hc4, eq_true hc5, if_true, if_false]; done) | (simp only [own_dgz, eq_false hc1, eq_false hc2, eq_false hc3, eq_false hc4, eq_true hc5, if_true, if_false]; rfl) | (simp [own_dgz, eq_false hc1, eq_false hc2, eq_false hc3, eq_false hc4, eq_true hc5]; done) | (simp [own_dgz, eq_false hc1, eq_false hc2, eq_false hc3, eq_false hc4, eq_true hc5]; rfl), N0, e0⟩)
          · refine own_go (b := s₁.setTop (mkF m 42 #[iv ct] [])) (fun t k => XS.icmpYes X0.here hx rfl (pc0 := 37) (pc' := 42) rfl (hb hby d16_37) rfl (flt hc5).2.1 (by decide) (by decide) k) ?_
            refine own_go (b := s₁.setTop (mkF m 43 #[iv ct] [(.int ct)])) (fun t k => XS.iloadN X0.here hx rfl (hb hby d16_42) rfl  k) ?_
            refine own_go (b := s₁.setTop (mkF m 45 #[iv ct] [(.int 1000000), (.int ct)])) (fun t k => X0.ldcInt hx hown (mvT hZ (hw _ (List.mem_of_getElem? (i := 122) rfl))) (g := (mkF m 43 #[iv ct] [(.int ct)])) rfl (hb hby d16_43) t k) ?_
            by_cases hc6 : ct < (1000000 : Int32)
            · refine own_go (b := s₁.setTop (mkF m 48 #[iv ct] [])) (fun t k => XS.icmpNo X0.here hx rfl (hb hby d16_45) rfl (tlt hc6).2.1 k) ?_
              refine own_go (b := s₁.setTop (mkF m 50 #[iv ct] [(.int 6)])) (fun t k => XS.bipush X0.here hx rfl (hb hby d16_48) k) ?_
              exact own_retI X0 hx hlk hrt (hb hby d16_50) (Nat.le_of_ble_eq_true rfl) (Nat.le_of_ble_eq_true rfl) (⟨by first | rfl | (simp only [own_dgz, eq_false hc1, eq_false hc2, eq_false hc3, eq_false hc4, eq_false hc5, eq_true hc6, if_true, if_false]; done) | (simp only [own_dgz, eq_false hc1, eq_false hc2, eq_false hc3, eq_false hc4, eq_false hc5, eq_true hc6, if_true, if_false]; rfl) | (simp [own_dgz, eq_false hc1, eq_false hc2, eq_false hc3, eq_false hc4, eq_false hc5, eq_true hc6]; done) | (simp [own_dgz, eq_false hc1, eq_false hc2, eq_false hc3, eq_false hc4, eq_false hc5, eq_true hc6]; rfl), N0, e0⟩)
            · refine own_go (b := s₁.setTop (mkF m 51 #[iv ct] [])) (fun t k => XS.icmpYes X0.here hx rfl (pc0 := 45) (pc' := 51) rfl (hb hby d16_45) rfl (flt hc6).2.1 (by decide) (by decide) k) ?_
              refine own_go (b := s₁.setTop (mkF m 52 #[iv ct] [(.int ct)])) (fun t k => XS.iloadN X0.here hx rfl (hb hby d16_51) rfl  k) ?_
              refine own_go (b := s₁.setTop (mkF m 54 #[iv ct] [(.int 10000000), (.int ct)])) (fun t k => X0.ldcInt hx hown (mvT hZ (hw _ (List.mem_of_getElem? (i := 123) rfl))) (g := (mkF m 52 #[iv ct] [(.int ct)])) rfl (hb hby d16_52) t k) ?_
              by_cases hc7 : ct < (10000000 : Int32)
              · refine own_go (b := s₁.setTop (mkF m 57 #[iv ct] [])) (fun t k => XS.icmpNo X0.here hx rfl (hb hby d16_54) rfl (tlt hc7).2.1 k) ?_
                refine own_go (b := s₁.setTop (mkF m 59 #[iv ct] [(.int 7)])) (fun t k => XS.bipush X0.here hx rfl (hb hby d16_57) k) ?_
                exact own_retI X0 hx hlk hrt (hb hby d16_59) (Nat.le_of_ble_eq_true rfl) (Nat.le_of_ble_eq_true rfl) (⟨by first | rfl | (simp only [own_dgz, eq_false hc1, eq_false hc2, eq_false hc3, eq_false hc4, eq_false hc5, eq_false hc6, eq_true hc7, if_true, if_false]; done) | (simp only [own_dgz, eq_false hc1, eq_false hc2, eq_false hc3, eq_false hc4, eq_false hc5, eq_false hc6, eq_true hc7, if_true, if_false]; rfl) | (simp [own_dgz, eq_false hc1, eq_false hc2, eq_false hc3, eq_false hc4, eq_false hc5, eq_false hc6, eq_true hc7]; done) | (simp [own_dgz, eq_false hc1, eq_false hc2, eq_false hc3, eq_false hc4, eq_false hc5, eq_false hc6, eq_true hc7]; rfl), N0, e0⟩)
              · refine own_go (b := s₁.setTop (mkF m 60 #[iv ct] [])) (fun t k => XS.icmpYes X0.here hx rfl (pc0 := 54) (pc' := 60) rfl (hb hby d16_54) rfl (flt hc7).2.1 (by decide) (by decide) k) ?_
                refine own_go (b := s₁.setTop (mkF m 61 #[iv ct] [(.int ct)])) (fun t k => XS.iloadN X0.here hx rfl (hb hby d16_60) rfl  k) ?_
                refine own_go (b := s₁.setTop (mkF m 63 #[iv ct] [(.int 100000000), (.int ct)])) (fun t k => X0.ldcInt hx hown (mvT hZ (hw _ (List.mem_of_getElem? (i := 124) rfl))) (g := (mkF m 61 #[iv ct] [(.int ct)])) rfl (hb hby d16_61) t k) ?_
                by_cases hc8 : ct < (100000000 : Int32)
                · refine own_go (b := s₁.setTop (mkF m 66 #[iv ct] [])) (fun t k => XS.icmpNo X0.here hx rfl (hb hby d16_63) rfl (tlt hc8).2.1 k) ?_
                  refine own_go (b := s₁.setTop (mkF m 68 #[iv ct] [(.int 8)])) (fun t k => XS.bipush X0.here hx rfl (hb hby d16_66) k) ?_
                  exact own_retI X0 hx hlk hrt (hb hby d16_68) (Nat.le_of_ble_eq_true rfl) (Nat.le_of_ble_eq_true rfl) (⟨by first | rfl | (simp only [own_dgz, eq_false hc1, eq_false hc2, eq_false hc3, eq_false hc4, eq_false hc5, eq_false hc6, eq_false hc7, eq_true hc8, if_true, if_false]; done) | (simp only [own_dgz, eq_false hc1, eq_false hc2, eq_false hc3, eq_false hc4, eq_false hc5, eq_false hc6, eq_false hc7, eq_true hc8, if_true, if_false]; rfl) | (simp [own_dgz, eq_false hc1, eq_false hc2, eq_false hc3, eq_false hc4, eq_false hc5, eq_false hc6, eq_false hc7, eq_true hc8]; done) | (simp [own_dgz, eq_false hc1, eq_false hc2, eq_false hc3, eq_false hc4, eq_false hc5, eq_false hc6, eq_false hc7, eq_true hc8]; rfl), N0, e0⟩)
                · refine own_go (b := s₁.setTop (mkF m 69 #[iv ct] [])) (fun t k => XS.icmpYes X0.here hx rfl (pc0 := 63) (pc' := 69) rfl (hb hby d16_63) rfl (flt hc8).2.1 (by decide) (by decide) k) ?_
                  refine own_go (b := s₁.setTop (mkF m 70 #[iv ct] [(.int ct)])) (fun t k => XS.iloadN X0.here hx rfl (hb hby d16_69) rfl  k) ?_
                  refine own_go (b := s₁.setTop (mkF m 72 #[iv ct] [(.int 1000000000), (.int ct)])) (fun t k => X0.ldcInt hx hown (mvT hZ (hw _ (List.mem_of_getElem? (i := 125) rfl))) (g := (mkF m 70 #[iv ct] [(.int ct)])) rfl (hb hby d16_70) t k) ?_
                  by_cases hc9 : ct < (1000000000 : Int32)
                  · refine own_go (b := s₁.setTop (mkF m 75 #[iv ct] [])) (fun t k => XS.icmpNo X0.here hx rfl (hb hby d16_72) rfl (tlt hc9).2.1 k) ?_
                    refine own_go (b := s₁.setTop (mkF m 77 #[iv ct] [(.int 9)])) (fun t k => XS.bipush X0.here hx rfl (hb hby d16_75) k) ?_
                    exact own_retI X0 hx hlk hrt (hb hby d16_77) (Nat.le_of_ble_eq_true rfl) (Nat.le_of_ble_eq_true rfl) (⟨by first | rfl | (simp only [own_dgz, eq_false hc1, eq_false hc2, eq_false hc3, eq_false hc4, eq_false hc5, eq_false hc6, eq_false hc7, eq_false hc8, eq_true hc9, if_true, if_false]; done) | (simp only [own_dgz, eq_false hc1, eq_false hc2, eq_false hc3, eq_false hc4, eq_false hc5, eq_false hc6, eq_false hc7, eq_false hc8, eq_true hc9, if_true, if_false]; rfl) | (simp [own_dgz, eq_false hc1, eq_false hc2, eq_false hc3, eq_false hc4, eq_false hc5, eq_false hc6, eq_false hc7, eq_false hc8, eq_true hc9]; done) | (simp [own_dgz, eq_false hc1, eq_false hc2, eq_false hc3, eq_false hc4, eq_false hc5, eq_false hc6, eq_false hc7, eq_false hc8, eq_true hc9]; rfl), N0, e0⟩)
                  · refine own_go (b := s₁.setTop (mkF m 78 #[iv ct] [])) (fun t k => XS.icmpYes X0.here hx rfl (pc0 := 72) (pc' := 78) rfl (hb hby d16_72) rfl (flt hc9).2.1 (by decide) (by decide) k) ?_
                    refine own_go (b := s₁.setTop (mkF m 80 #[iv ct] [(.int 10)])) (fun t k => XS.bipush X0.here hx rfl (hb hby d16_78) k) ?_
                    exact own_retI X0 hx hlk hrt (hb hby d16_80) (Nat.le_of_ble_eq_true rfl) (Nat.le_of_ble_eq_true rfl) (⟨by first | rfl | (simp only [own_dgz, eq_false hc1, eq_false hc2, eq_false hc3, eq_false hc4, eq_false hc5, eq_false hc6, eq_false hc7, eq_false hc8, eq_false hc9, if_true, if_false]; done) | (simp only [own_dgz, eq_false hc1, eq_false hc2, eq_false hc3, eq_false hc4, eq_false hc5, eq_false hc6, eq_false hc7, eq_false hc8, eq_false hc9, if_true, if_false]; rfl) | (simp [own_dgz, eq_false hc1, eq_false hc2, eq_false hc3, eq_false hc4, eq_false hc5, eq_false hc6, eq_false hc7, eq_false hc8, eq_false hc9]; done) | (simp [own_dgz, eq_false hc1, eq_false hc2, eq_false hc3, eq_false hc4, eq_false hc5, eq_false hc6, eq_false hc7, eq_false hc8, eq_false hc9]; rfl), N0, e0⟩)
theorem d19_0 : decode method_6_code 0 = .ok (.iload_n 3, 1) := by decide +kernel
theorem d19_1 : decode method_6_code 1 = .ok (.iload_n 1, 1) := by decide +kernel
theorem d19_2 : decode method_6_code 2 = .ok (.if_icmp .lt 5, 3) := by decide +kernel
theorem d19_5 : decode method_6_code 5 = .ok (.iconst 1, 1) := by decide +kernel
theorem d19_6 : decode method_6_code 6 = .ok (.ireturn, 1) := by decide +kernel
theorem d19_7 : decode method_6_code 7 = .ok (.aload_n 0, 1) := by decide +kernel
theorem d19_8 : decode method_6_code 8 = .ok (.iload_n 1, 1) := by decide +kernel
theorem d19_9 : decode method_6_code 9 = .ok (.iconst 1, 1) := by decide +kernel
theorem d19_10 : decode method_6_code 10 = .ok (.isub, 1) := by decide +kernel
theorem d19_11 : decode method_6_code 11 = .ok (.iload_n 3, 1) := by decide +kernel
theorem d19_12 : decode method_6_code 12 = .ok (.isub, 1) := by decide +kernel
theorem d19_13 : decode method_6_code 13 = .ok (.invokevirtual 64, 3) := by decide +kernel
theorem d19_16 : decode method_6_code 16 = .ok (.bipush 48, 2) := by decide +kernel
theorem d19_18 : decode method_6_code 18 = .ok (.iload_n 2, 1) := by decide +kernel
theorem d19_19 : decode method_6_code 19 = .ok (.iload 4, 2) := by decide +kernel
theorem d19_21 : decode method_6_code 21 = .ok (.idiv, 1) := by decide +kernel
theorem d19_22 : decode method_6_code 22 = .ok (.bipush 10, 2) := by decide +kernel
theorem d19_24 : decode method_6_code 24 = .ok (.irem, 1) := by decide +kernel
theorem d19_25 : decode method_6_code 25 = .ok (.iadd, 1) := by decide +kernel
theorem d19_26 : decode method_6_code 26 = .ok (.i2c, 1) := by decide +kernel
theorem d19_27 : decode method_6_code 27 = .ok (.if_icmp .ne 7, 3) := by decide +kernel
theorem d19_30 : decode method_6_code 30 = .ok (.iconst 1, 1) := by decide +kernel
theorem d19_31 : decode method_6_code 31 = .ok (.goto 4, 3) := by decide +kernel
theorem d19_34 : decode method_6_code 34 = .ok (.iconst 0, 1) := by decide +kernel
theorem d19_35 : decode method_6_code 35 = .ok (.ireturn, 1) := by decide +kernel
theorem pd_12 : parseMethodDescriptor "(I)C" = some ⟨[.int], some .char⟩ := by decide +kernel
theorem ef_19 (m : MethodId) (ss : Addr) (ln : Int32) (ct : Int32) (kk : Int32) (pw : Int32) : entryFrame m #[(.ref ss), (.int ln), (.int ct), (.int kk), (.int pw)] 5 = mkF m 0 #[rv ss, iv ln, iv ct, iv kk, iv pw] [] := by first | (simp [entryFrame, mkF, argsToLocals, Value.category]; done) | rfl
def Q19 (Z : State) (ss : Addr) (ln : Int32) (ct : Int32) (kk : Int32) (pw : Int32) (N : Nat) (n : Nat) (k : Nat) (G1 : Int32) (G3 : Value) (h0 : Heap) (n0 : Nat) (v : Option Value) (h : Heap) (L : List Loc) : Prop := v = some (.int 1) ∧ Fr n0 L ∧ h = h0
set_option maxRecDepth 65536 in
set_option maxHeartbeats 40000000 in
theorem rm19 (l : Launch) (Z : State) (a0 : Array Value) (hw : ∀ d ∈ tables_1, d.before a0 Z = true) (ws : List Jvm.Cond) (ss : Addr) (ln : Int32) (ct : Int32) (kk : Int32) (pw : Int32) (N : Nat) (n : Nat) (k : Nat) (G1 : Int32) (G3 : Value) (h0 : Heap) (n0 : Nat) (Z0 : n0 ≤ h0.size) (hS : own_Str Z h0 0 ss (own_digs N n)) (hln : ln = n.toInt32) (hct : ct = N.toInt32) (hkk : kk = k.toInt32) (hpw : pw = (10 ^ k : Nat).toInt32) (hN : N < 2147483648) (hn : n ≤ 10) (hk : k ≤ 9) (O2 : Sta Z Z.heap "java/lang/String" "COMPACT_STRINGS" "Z" (.int G1)) (P5 : ¬ (G1 = (0 : Int32))) (O4 : Sta Z Z.heap "jdk/internal/util/Preconditions" "SIOOBE_FORMATTER" "Ljava/util/function/BiFunction;" G3) (rG3 : G3.isRef = true) (Od : Old Z n0 h0) :
    MetFree l (⟨"com/example/vertumnus/vertumnus/interactions/CardinalityExactlyPinLaw", "digitOk", "(Ljava/lang/String;IIII)Z"⟩ : MethodName) (head1 (Jvm.Cond.code (⟨"com/example/vertumnus/vertumnus/interactions/CardinalityExactlyPinLaw", "digitOk", "(Ljava/lang/String;IIII)Z"⟩ : MethodName) method_6_code 5 (some .boolean) :: ws) ({ frames := 4, cells := 0, slots := 0, locals := 53 } : Room)) (fun a U => a = #[(.ref ss), (.int ln), (.int ct), (.int kk), (.int pw)] ∧ Z.Warmed39 U.vm ∧ U.heap = h0) (fun _ _ _ _ _ => True) (fun _ U o U' => ∃ v L, o = .returned v ∧ Q19 Z ss ln ct kk pw N n k G1 G3 h0 n0 v U'.heap L ∧ FrameEnd U o U' L ({ frames := 4, cells := 0, slots := 0, locals := 53 } : Room).cells ({ frames := 4, cells := 0, slots := 0, locals := 53 } : Room).slots) := by
  refine MetFree.of_bodySF (plainFor_of_name pn_3) hisR ?_
  intro p e s m args below meth c s₁ Bd hml0 hP hK
  obtain ⟨rfl, hZ, hh⟩ := hP
  have hx := Bd.exec
  have hby := Bd.bytes
  have hml : c.maxLocals = 5 := hml0
  have hown : s.vm.findClass "com/example/vertumnus/vertumnus/interactions/CardinalityExactlyPinLaw" = some m.cls := findClass_of_methodNamed Bd.named
  have hnm := (name_of_methodNamed Bd.named Bd.method).1
  have hlk : meth.locks = false := Bd.notSynchronized
  have hrt := Bd.returns
  have X0 : Stand p l e ({ frames := 4, cells := 0, slots := 0, locals := 53 } : Room) s m #[(.ref ss), (.int ln), (.int ct), (.int kk), (.int pw)] below meth c s₁ [] 0 0 := Stand.of_body Bd
  have e0 : s₁.heap = h0 := by rw [← hh, Bd.state]; rfl
  have N0 := Fr.nil n0
  show own_Endz p.tables e below (own_EndQ s ({ frames := 4, cells := 0, slots := 0, locals := 53 } : Room).cells ({ frames := 4, cells := 0, slots := 0, locals := 53 } : Room).slots (Q19 Z ss ln ct kk pw N n k G1 G3 h0 n0)) (s₁.setTop (entryFrame m #[(.ref ss), (.int ln), (.int ct), (.int kk), (.int pw)] 5))
  refine own_cast (ef_19 m ss ln ct kk pw) ?_
  subst hln hct hkk hpw
  refine own_go (b := s₁.setTop (mkF m 1 #[rv ss, iv (n.toInt32), iv (N.toInt32), iv (k.toInt32), iv ((10 ^ k : Nat).toInt32)] [(.int (k.toInt32))])) (fun t k => XS.iloadN X0.here hx rfl (hb hby d19_0) rfl  k) ?_
  refine own_go (b := s₁.setTop (mkF m 2 #[rv ss, iv (n.toInt32), iv (N.toInt32), iv (k.toInt32), iv ((10 ^ k : Nat).toInt32)] [(.int (n.toInt32)), (.int (k.toInt32))])) (fun t k => XS.iloadN X0.here hx rfl (hb hby d19_1) rfl  k) ?_
  by_cases hc1 : (k.toInt32) < (n.toInt32)
  · refine own_go (b := s₁.setTop (mkF m 7 #[rv ss, iv (n.toInt32), iv (N.toInt32), iv (k.toInt32), iv ((10 ^ k : Nat).toInt32)] [])) (fun t k => XS.icmpYes X0.here hx rfl (pc0 := 2) (pc' := 7) rfl (hb hby d19_2) rfl (tlt hc1).1 (by decide) (by decide) k) ?_
    refine own_go (b := s₁.setTop (mkF m 8 #[rv ss, iv (n.toInt32), iv (N.toInt32), iv (k.toInt32), iv ((10 ^ k : Nat).toInt32)] [(.ref ss)])) (fun t k => XS.aloadN X0.here hx rfl (hb hby d19_7) rfl rfl k) ?_
    refine own_go (b := s₁.setTop (mkF m 9 #[rv ss, iv (n.toInt32), iv (N.toInt32), iv (k.toInt32), iv ((10 ^ k : Nat).toInt32)] [(.int (n.toInt32)), (.ref ss)])) (fun t k => XS.iloadN X0.here hx rfl (hb hby d19_8) rfl  k) ?_
    refine own_go (b := s₁.setTop (mkF m 10 #[rv ss, iv (n.toInt32), iv (N.toInt32), iv (k.toInt32), iv ((10 ^ k : Nat).toInt32)] [(.int 1), (.int (n.toInt32)), (.ref ss)])) (fun t k => XS.iconst X0.here hx rfl (hb hby d19_9) k) ?_
    refine own_go (b := s₁.setTop (mkF m 11 #[rv ss, iv (n.toInt32), iv (N.toInt32), iv (k.toInt32), iv ((10 ^ k : Nat).toInt32)] [(.int ((n.toInt32) - (1 : Int32))), (.ref ss)])) (fun t k => XS.isub X0.here hx rfl (hb hby d19_10) rfl k) ?_
    refine own_go (b := s₁.setTop (mkF m 12 #[rv ss, iv (n.toInt32), iv (N.toInt32), iv (k.toInt32), iv ((10 ^ k : Nat).toInt32)] [(.int (k.toInt32)), (.int ((n.toInt32) - (1 : Int32))), (.ref ss)])) (fun t k => XS.iloadN X0.here hx rfl (hb hby d19_11) rfl  k) ?_
    refine own_go (b := s₁.setTop (mkF m 13 #[rv ss, iv (n.toInt32), iv (N.toInt32), iv (k.toInt32), iv ((10 ^ k : Nat).toInt32)] [(.int (((n.toInt32) - (1 : Int32)) - (k.toInt32))), (.ref ss)])) (fun t k => XS.isub X0.here hx rfl (hb hby d19_12) rfl k) ?_
    have hlt := own_klt hk hn hc1
    obtain ⟨cq2, kq2, q2a, q2b, q2c⟩ := isOf hZ e0 (own_StrE hS)
    obtain ⟨_, _, ⟨T2, L2, k2, n2⟩, -, X2, ⟨Lc2, hQ2, l2, y2, z2⟩, st2⟩ := X0.virtualBack hx (y := (⟨"java/lang/String", "charAt", "(I)C"⟩ : MethodName)) (z := (⟨"java/lang/String", "charAt", "(I)C"⟩ : MethodName)) hown (mvT hZ (hw _ (List.mem_of_getElem? (i := 99) rfl))) (mvT hZ (hw _ (List.mem_of_getElem? (i := 100) rfl))) (notFace_of_selects (args := #[]) (mvT hZ (hw _ (List.mem_of_getElem? (i := 102) rfl)))) (mvT hZ (hw _ (List.mem_of_getElem? (i := 102) rfl))) (mvT hZ (hw _ (List.mem_of_getElem? (i := 101) rfl))) (by decide) (backOf (W := 0) (rm20 l Z a0 hw [] ss (((n.toInt32) - (1 : Int32)) - (k.toInt32)) (own_digs N n) (n - 1 - k) G1 G3 h0 n0 Z0 (own_idx hn hlt) hS (by rw [own_digs_len]; omega) O2 P5 O4 rG3 Od) hZ (hw _ (List.mem_of_getElem? (i := 103) rfl)) (hw _ (List.mem_of_getElem? (i := 15) rfl)) (by decide) (by decide)) q2a q2c (g := (mkF m 13 #[rv ss, iv (n.toInt32), iv (N.toInt32), iv (k.toInt32), iv ((10 ^ k : Nat).toInt32)] [(.int (((n.toInt32) - (1 : Int32)) - (k.toInt32))), (.ref ss)])) rfl (by rw [hml]; rfl) (Steps.refl _) (argsL := [(.int (((n.toInt32) - (1 : Int32)) - (k.toInt32)))]) (rest := []) (lenOf pd_12 rfl) rfl (by show 2 * 0 + _ ≤ _; exact Nat.le_of_eq rfl) (hb hby d19_13) (fun _ _ => ⟨rfl, e0, (by decide : 0 + 0 ≤ _), (by decide : 0 + 0 ≤ _)⟩)
    dsimp only [Pt.U, Pt.locs, Pt.cells, Pt.slots] at X2 l2 y2 z2 st2 hQ2
    subst l2 y2 z2
    obtain ⟨rfl, N2q, e2⟩ := hQ2
    have N2 := Fr.app N0 N2q
    refine own_tr (b := T2.setTop (mkF m 16 #[rv ss, iv (n.toInt32), iv (N.toInt32), iv (k.toInt32), iv ((10 ^ k : Nat).toInt32)] [(.int ((own_digs N n).getD (n - 1 - k) 0))])) st2 ?_
    refine own_go (b := T2.setTop (mkF m 18 #[rv ss, iv (n.toInt32), iv (N.toInt32), iv (k.toInt32), iv ((10 ^ k : Nat).toInt32)] [(.int 48), (.int ((own_digs N n).getD (n - 1 - k) 0))])) (fun t k => XS.bipush X2.here hx rfl (hb hby d19_16) k) ?_
    refine own_go (b := T2.setTop (mkF m 19 #[rv ss, iv (n.toInt32), iv (N.toInt32), iv (k.toInt32), iv ((10 ^ k : Nat).toInt32)] [(.int (N.toInt32)), (.int 48), (.int ((own_digs N n).getD (n - 1 - k) 0))])) (fun t k => XS.iloadN X2.here hx rfl (hb hby d19_18) rfl  k) ?_
    refine own_go (b := T2.setTop (mkF m 21 #[rv ss, iv (n.toInt32), iv (N.toInt32), iv (k.toInt32), iv ((10 ^ k : Nat).toInt32)] [(.int ((10 ^ k : Nat).toInt32)), (.int (N.toInt32)), (.int 48), (.int ((own_digs N n).getD (n - 1 - k) 0))])) (fun t k => XS.iload X2.here hx rfl (hb hby d19_19) rfl  k) ?_
    refine own_go (b := T2.setTop (mkF m 22 #[rv ss, iv (n.toInt32), iv (N.toInt32), iv (k.toInt32), iv ((10 ^ k : Nat).toInt32)] [(.int ((N.toInt32) / ((10 ^ k : Nat).toInt32))), (.int 48), (.int ((own_digs N n).getD (n - 1 - k) 0))])) (fun t k => XS.idiv X2.here hx rfl (hb hby d19_21) rfl (own_pow_nz hk) k) ?_
    refine own_go (b := T2.setTop (mkF m 24 #[rv ss, iv (n.toInt32), iv (N.toInt32), iv (k.toInt32), iv ((10 ^ k : Nat).toInt32)] [(.int 10), (.int ((N.toInt32) / ((10 ^ k : Nat).toInt32))), (.int 48), (.int ((own_digs N n).getD (n - 1 - k) 0))])) (fun t k => XS.bipush X2.here hx rfl (hb hby d19_22) k) ?_
    refine own_go (b := T2.setTop (mkF m 25 #[rv ss, iv (n.toInt32), iv (N.toInt32), iv (k.toInt32), iv ((10 ^ k : Nat).toInt32)] [(.int (((N.toInt32) / ((10 ^ k : Nat).toInt32)) % (10 : Int32))), (.int 48), (.int ((own_digs N n).getD (n - 1 - k) 0))])) (fun t k => iremM X2 hx rfl (hb hby d19_24) rfl (by decide) k) ?_
    refine own_go (b := T2.setTop (mkF m 26 #[rv ss, iv (n.toInt32), iv (N.toInt32), iv (k.toInt32), iv ((10 ^ k : Nat).toInt32)] [(.int ((48 : Int32) + (((N.toInt32) / ((10 ^ k : Nat).toInt32)) % (10 : Int32)))), (.int ((own_digs N n).getD (n - 1 - k) 0))])) (fun t k => XS.iadd X2.here hx rfl (hb hby d19_25) rfl k) ?_
    refine own_go (b := T2.setTop (mkF m 27 #[rv ss, iv (n.toInt32), iv (N.toInt32), iv (k.toInt32), iv ((10 ^ k : Nat).toInt32)] [(.int (((48 : Int32) + (((N.toInt32) / ((10 ^ k : Nat).toInt32)) % (10 : Int32))).toUInt32.toUInt16.toUInt32.toInt32)), (.int ((own_digs N n).getD (n - 1 - k) 0))])) (fun t k => XS.i2c X2.here hx rfl (hb hby d19_26) rfl k) ?_
    have hq27 : ((own_digs N n).getD (n - 1 - k) 0) = (((48 : Int32) + (((N.toInt32) / ((10 ^ k : Nat).toInt32)) % (10 : Int32))).toUInt32.toUInt16.toUInt32.toInt32) := (own_digs_at N n k hlt).trans (own_char hN hk).symm
    refine own_go (b := T2.setTop (mkF m 30 #[rv ss, iv (n.toInt32), iv (N.toInt32), iv (k.toInt32), iv ((10 ^ k : Nat).toInt32)] [])) (fun t k => XS.icmpNo X2.here hx rfl (hb hby d19_27) rfl (teq hq27).2 k) ?_
    refine own_go (b := T2.setTop (mkF m 31 #[rv ss, iv (n.toInt32), iv (N.toInt32), iv (k.toInt32), iv ((10 ^ k : Nat).toInt32)] [(.int 1)])) (fun t k => XS.iconst X2.here hx rfl (hb hby d19_30) k) ?_
    refine own_go (b := T2.setTop (mkF m 35 #[rv ss, iv (n.toInt32), iv (N.toInt32), iv (k.toInt32), iv ((10 ^ k : Nat).toInt32)] [(.int 1)])) (fun t k => XS.goto X2.here hx rfl (pc0 := 31) (pc' := 35) rfl (hb hby d19_31) (by decide) (by decide) k) ?_
    exact own_retN X2 hx hlk (t := .boolean) hrt (by simp) (hb hby d19_35) (Nat.le_of_ble_eq_true rfl) (Nat.le_of_ble_eq_true rfl) (⟨by first | rfl | (simp only [eq_true hc1, if_true, if_false]; done) | (simp only [eq_true hc1, if_true, if_false]; rfl) | (simp [eq_true hc1]; done) | (simp [eq_true hc1]; rfl), N2, e2⟩)
  · refine own_go (b := s₁.setTop (mkF m 5 #[rv ss, iv (n.toInt32), iv (N.toInt32), iv (k.toInt32), iv ((10 ^ k : Nat).toInt32)] [])) (fun t k => XS.icmpNo X0.here hx rfl (hb hby d19_2) rfl (flt hc1).1 k) ?_
    refine own_go (b := s₁.setTop (mkF m 6 #[rv ss, iv (n.toInt32), iv (N.toInt32), iv (k.toInt32), iv ((10 ^ k : Nat).toInt32)] [(.int 1)])) (fun t k => XS.iconst X0.here hx rfl (hb hby d19_5) k) ?_
    exact own_retN X0 hx hlk (t := .boolean) hrt (by simp) (hb hby d19_6) (Nat.le_of_ble_eq_true rfl) (Nat.le_of_ble_eq_true rfl) (⟨by first | rfl | (simp only [eq_false hc1, if_true, if_false]; done) | (simp only [eq_false hc1, if_true, if_false]; rfl) | (simp [eq_false hc1]; done) | (simp [eq_false hc1]; rfl), N0, e0⟩)
theorem d15_0 : decode method_5_code 0 = .ok (.aload_n 0, 1) := by decide +kernel
theorem d15_1 : decode method_5_code 1 = .ok (.ifnonnull 5, 3) := by decide +kernel
theorem d15_4 : decode method_5_code 4 = .ok (.iconst 0, 1) := by decide +kernel
theorem d15_5 : decode method_5_code 5 = .ok (.ireturn, 1) := by decide +kernel
theorem d15_6 : decode method_5_code 6 = .ok (.iload_n 1, 1) := by decide +kernel
theorem d15_7 : decode method_5_code 7 = .ok (.invokestatic 50, 3) := by decide +kernel
theorem d15_10 : decode method_5_code 10 = .ok (.istore_n 2, 1) := by decide +kernel
theorem d15_11 : decode method_5_code 11 = .ok (.aload_n 0, 1) := by decide +kernel
theorem d15_12 : decode method_5_code 12 = .ok (.invokevirtual 54, 3) := by decide +kernel
theorem d15_15 : decode method_5_code 15 = .ok (.iload_n 2, 1) := by decide +kernel
theorem d15_16 : decode method_5_code 16 = .ok (.if_icmp .eq 5, 3) := by decide +kernel
theorem d15_19 : decode method_5_code 19 = .ok (.iconst 0, 1) := by decide +kernel
theorem d15_20 : decode method_5_code 20 = .ok (.ireturn, 1) := by decide +kernel
theorem d15_21 : decode method_5_code 21 = .ok (.aload_n 0, 1) := by decide +kernel
theorem d15_22 : decode method_5_code 22 = .ok (.iload_n 2, 1) := by decide +kernel
theorem d15_23 : decode method_5_code 23 = .ok (.iload_n 1, 1) := by decide +kernel
theorem d15_24 : decode method_5_code 24 = .ok (.iconst 0, 1) := by decide +kernel
theorem d15_25 : decode method_5_code 25 = .ok (.iconst 1, 1) := by decide +kernel
theorem d15_26 : decode method_5_code 26 = .ok (.invokestatic 60, 3) := by decide +kernel
theorem d15_29 : decode method_5_code 29 = .ok (.ifCond .eq 121, 3) := by decide +kernel
theorem d15_32 : decode method_5_code 32 = .ok (.aload_n 0, 1) := by decide +kernel
theorem d15_33 : decode method_5_code 33 = .ok (.iload_n 2, 1) := by decide +kernel
theorem d15_34 : decode method_5_code 34 = .ok (.iload_n 1, 1) := by decide +kernel
theorem d15_35 : decode method_5_code 35 = .ok (.iconst 1, 1) := by decide +kernel
theorem d15_36 : decode method_5_code 36 = .ok (.bipush 10, 2) := by decide +kernel
theorem d15_38 : decode method_5_code 38 = .ok (.invokestatic 60, 3) := by decide +kernel
theorem d15_41 : decode method_5_code 41 = .ok (.ifCond .eq 109, 3) := by decide +kernel
theorem d15_44 : decode method_5_code 44 = .ok (.aload_n 0, 1) := by decide +kernel
theorem d15_45 : decode method_5_code 45 = .ok (.iload_n 2, 1) := by decide +kernel
theorem d15_46 : decode method_5_code 46 = .ok (.iload_n 1, 1) := by decide +kernel
theorem d15_47 : decode method_5_code 47 = .ok (.iconst 2, 1) := by decide +kernel
theorem d15_48 : decode method_5_code 48 = .ok (.bipush 100, 2) := by decide +kernel
theorem d15_50 : decode method_5_code 50 = .ok (.invokestatic 60, 3) := by decide +kernel
theorem d15_53 : decode method_5_code 53 = .ok (.ifCond .eq 97, 3) := by decide +kernel
theorem d15_56 : decode method_5_code 56 = .ok (.aload_n 0, 1) := by decide +kernel
theorem d15_57 : decode method_5_code 57 = .ok (.iload_n 2, 1) := by decide +kernel
theorem d15_58 : decode method_5_code 58 = .ok (.iload_n 1, 1) := by decide +kernel
theorem d15_59 : decode method_5_code 59 = .ok (.iconst 3, 1) := by decide +kernel
theorem d15_60 : decode method_5_code 60 = .ok (.sipush 1000, 3) := by decide +kernel
theorem d15_63 : decode method_5_code 63 = .ok (.invokestatic 60, 3) := by decide +kernel
theorem d15_66 : decode method_5_code 66 = .ok (.ifCond .eq 84, 3) := by decide +kernel
theorem d15_69 : decode method_5_code 69 = .ok (.aload_n 0, 1) := by decide +kernel
theorem d15_70 : decode method_5_code 70 = .ok (.iload_n 2, 1) := by decide +kernel
theorem d15_71 : decode method_5_code 71 = .ok (.iload_n 1, 1) := by decide +kernel
theorem d15_72 : decode method_5_code 72 = .ok (.iconst 4, 1) := by decide +kernel
theorem d15_73 : decode method_5_code 73 = .ok (.sipush 10000, 3) := by decide +kernel
theorem d15_76 : decode method_5_code 76 = .ok (.invokestatic 60, 3) := by decide +kernel
theorem d15_79 : decode method_5_code 79 = .ok (.ifCond .eq 71, 3) := by decide +kernel
theorem d15_82 : decode method_5_code 82 = .ok (.aload_n 0, 1) := by decide +kernel
theorem d15_83 : decode method_5_code 83 = .ok (.iload_n 2, 1) := by decide +kernel
theorem d15_84 : decode method_5_code 84 = .ok (.iload_n 1, 1) := by decide +kernel
theorem d15_85 : decode method_5_code 85 = .ok (.iconst 5, 1) := by decide +kernel
theorem d15_86 : decode method_5_code 86 = .ok (.ldc 45, 2) := by decide +kernel
theorem d15_88 : decode method_5_code 88 = .ok (.invokestatic 60, 3) := by decide +kernel
theorem d15_91 : decode method_5_code 91 = .ok (.ifCond .eq 59, 3) := by decide +kernel
theorem d15_94 : decode method_5_code 94 = .ok (.aload_n 0, 1) := by decide +kernel
theorem d15_95 : decode method_5_code 95 = .ok (.iload_n 2, 1) := by decide +kernel
theorem d15_96 : decode method_5_code 96 = .ok (.iload_n 1, 1) := by decide +kernel
theorem d15_97 : decode method_5_code 97 = .ok (.bipush 6, 2) := by decide +kernel
theorem d15_99 : decode method_5_code 99 = .ok (.ldc 46, 2) := by decide +kernel
theorem d15_101 : decode method_5_code 101 = .ok (.invokestatic 60, 3) := by decide +kernel
theorem d15_104 : decode method_5_code 104 = .ok (.ifCond .eq 46, 3) := by decide +kernel
theorem d15_107 : decode method_5_code 107 = .ok (.aload_n 0, 1) := by decide +kernel
theorem d15_108 : decode method_5_code 108 = .ok (.iload_n 2, 1) := by decide +kernel
theorem d15_109 : decode method_5_code 109 = .ok (.iload_n 1, 1) := by decide +kernel
theorem d15_110 : decode method_5_code 110 = .ok (.bipush 7, 2) := by decide +kernel
theorem d15_112 : decode method_5_code 112 = .ok (.ldc 47, 2) := by decide +kernel
theorem d15_114 : decode method_5_code 114 = .ok (.invokestatic 60, 3) := by decide +kernel
theorem d15_117 : decode method_5_code 117 = .ok (.ifCond .eq 33, 3) := by decide +kernel
theorem d15_120 : decode method_5_code 120 = .ok (.aload_n 0, 1) := by decide +kernel
theorem d15_121 : decode method_5_code 121 = .ok (.iload_n 2, 1) := by decide +kernel
theorem d15_122 : decode method_5_code 122 = .ok (.iload_n 1, 1) := by decide +kernel
theorem d15_123 : decode method_5_code 123 = .ok (.bipush 8, 2) := by decide +kernel
theorem d15_125 : decode method_5_code 125 = .ok (.ldc 48, 2) := by decide +kernel
theorem d15_127 : decode method_5_code 127 = .ok (.invokestatic 60, 3) := by decide +kernel
theorem d15_130 : decode method_5_code 130 = .ok (.ifCond .eq 20, 3) := by decide +kernel
theorem d15_133 : decode method_5_code 133 = .ok (.aload_n 0, 1) := by decide +kernel
theorem d15_134 : decode method_5_code 134 = .ok (.iload_n 2, 1) := by decide +kernel
theorem d15_135 : decode method_5_code 135 = .ok (.iload_n 1, 1) := by decide +kernel
theorem d15_136 : decode method_5_code 136 = .ok (.bipush 9, 2) := by decide +kernel
theorem d15_138 : decode method_5_code 138 = .ok (.ldc 49, 2) := by decide +kernel
theorem d15_140 : decode method_5_code 140 = .ok (.invokestatic 60, 3) := by decide +kernel
theorem d15_143 : decode method_5_code 143 = .ok (.ifCond .eq 7, 3) := by decide +kernel
theorem d15_146 : decode method_5_code 146 = .ok (.iconst 1, 1) := by decide +kernel
theorem d15_147 : decode method_5_code 147 = .ok (.goto 4, 3) := by decide +kernel
theorem d15_150 : decode method_5_code 150 = .ok (.iconst 0, 1) := by decide +kernel
theorem d15_151 : decode method_5_code 151 = .ok (.ireturn, 1) := by decide +kernel
theorem pd_13 : parseMethodDescriptor "()I" = some ⟨[], some .int⟩ := by decide +kernel
theorem pd_14 : parseMethodDescriptor "(Ljava/lang/String;IIII)Z" = some ⟨[(.object "java/lang/String"), .int, .int, .int, .int], some .boolean⟩ := by decide +kernel
theorem ef_15 (m : MethodId) (ss : Addr) (ct : Int32) : entryFrame m #[(.ref ss), (.int ct)] 3 = mkF m 0 #[rv ss, iv ct, .unset] [] := by first | (simp [entryFrame, mkF, argsToLocals, Value.category]; done) | rfl
def Q15 (Z : State) (ss : Addr) (ct : Int32) (N : Nat) (G1 : Int32) (G3 : Value) (h0 : Heap) (n0 : Nat) (v : Option Value) (h : Heap) (L : List Loc) : Prop := v = some (.int 1) ∧ Fr n0 L ∧ h = h0
set_option maxRecDepth 65536 in
set_option maxHeartbeats 40000000 in
theorem rm15 (l : Launch) (Z : State) (a0 : Array Value) (hw : ∀ d ∈ tables_1, d.before a0 Z = true) (ws : List Jvm.Cond) (ss : Addr) (ct : Int32) (N : Nat) (G1 : Int32) (G3 : Value) (h0 : Heap) (n0 : Nat) (Z0 : n0 ≤ h0.size) (hS : own_Str Z h0 0 ss (own_digs N (own_ln N))) (hct : ct = N.toInt32) (hN : N < 2147483648) (O2 : Sta Z Z.heap "java/lang/String" "COMPACT_STRINGS" "Z" (.int G1)) (P5 : ¬ (G1 = (0 : Int32))) (O4 : Sta Z Z.heap "jdk/internal/util/Preconditions" "SIOOBE_FORMATTER" "Ljava/util/function/BiFunction;" G3) (rG3 : G3.isRef = true) (Od : Old Z n0 h0) :
    MetFree l (⟨"com/example/vertumnus/vertumnus/interactions/CardinalityExactlyPinLaw", "textOk", "(Ljava/lang/String;I)Z"⟩ : MethodName) (head1 (Jvm.Cond.code (⟨"com/example/vertumnus/vertumnus/interactions/CardinalityExactlyPinLaw", "textOk", "(Ljava/lang/String;I)Z"⟩ : MethodName) method_5_code 3 (some .boolean) :: ws) ({ frames := 5, cells := 0, slots := 0, locals := 69 } : Room)) (fun a U => a = #[(.ref ss), (.int ct)] ∧ Z.Warmed39 U.vm ∧ U.heap = h0) (fun _ _ _ _ _ => True) (fun _ U o U' => ∃ v L, o = .returned v ∧ Q15 Z ss ct N G1 G3 h0 n0 v U'.heap L ∧ FrameEnd U o U' L ({ frames := 5, cells := 0, slots := 0, locals := 69 } : Room).cells ({ frames := 5, cells := 0, slots := 0, locals := 69 } : Room).slots) := by
  refine MetFree.of_bodySF (plainFor_of_name pn_3) hisR ?_
  intro p e s m args below meth c s₁ Bd hml0 hP hK
  obtain ⟨rfl, hZ, hh⟩ := hP
  have hx := Bd.exec
  have hby := Bd.bytes
  have hml : c.maxLocals = 3 := hml0
  have hown : s.vm.findClass "com/example/vertumnus/vertumnus/interactions/CardinalityExactlyPinLaw" = some m.cls := findClass_of_methodNamed Bd.named
  have hnm := (name_of_methodNamed Bd.named Bd.method).1
  have hlk : meth.locks = false := Bd.notSynchronized
  have hrt := Bd.returns
  have X0 : Stand p l e ({ frames := 5, cells := 0, slots := 0, locals := 69 } : Room) s m #[(.ref ss), (.int ct)] below meth c s₁ [] 0 0 := Stand.of_body Bd
  have e0 : s₁.heap = h0 := by rw [← hh, Bd.state]; rfl
  have N0 := Fr.nil n0
  show own_Endz p.tables e below (own_EndQ s ({ frames := 5, cells := 0, slots := 0, locals := 69 } : Room).cells ({ frames := 5, cells := 0, slots := 0, locals := 69 } : Room).slots (Q15 Z ss ct N G1 G3 h0 n0)) (s₁.setTop (entryFrame m #[(.ref ss), (.int ct)] 3))
  refine own_cast (ef_15 m ss ct) ?_
  subst hct
  have hln := own_ln_le N
  refine own_go (b := s₁.setTop (mkF m 1 #[rv ss, iv (N.toInt32), .unset] [(.ref ss)])) (fun t k => XS.aloadN X0.here hx rfl (hb hby d15_0) rfl rfl k) ?_
  refine own_go (b := s₁.setTop (mkF m 6 #[rv ss, iv (N.toInt32), .unset] [])) (fun t k => XS.ifnonnullYes X0.here hx rfl (pc0 := 1) (pc' := 6) rfl (hb hby d15_1) rfl (by decide) (by decide) k) ?_
  refine own_go (b := s₁.setTop (mkF m 7 #[rv ss, iv (N.toInt32), .unset] [(.int (N.toInt32))])) (fun t k => XS.iloadN X0.here hx rfl (hb hby d15_6) rfl  k) ?_
  obtain ⟨_, _, ⟨T1, L1, k1, n1⟩, -, X1, ⟨Lc1, hQ1, l1, y1, z1⟩, st1⟩ := Jvm.LawKit.callS X0 hx (y := (⟨"com/example/vertumnus/vertumnus/interactions/CardinalityExactlyPinLaw", "digits", "(I)I"⟩ : MethodName)) hown (mvT hZ (hw _ (List.mem_of_getElem? (i := 82) rfl))) (mvT hZ (hw _ (List.mem_of_getElem? (i := 83) rfl))) (mvT hZ (hw _ (List.mem_of_getElem? (i := 57) rfl))) (mvT hZ (hw _ (List.mem_of_getElem? (i := 84) rfl))) (by decide) (backOf (W := 0) (rm16 l Z a0 hw [] (N.toInt32)  h0 n0 Z0 ) hZ (hw _ (List.mem_of_getElem? (i := 84) rfl)) (hw _ (List.mem_of_getElem? (i := 57) rfl)) (by decide) (by decide)) (g := (mkF m 7 #[rv ss, iv (N.toInt32), .unset] [(.int (N.toInt32))])) rfl (by rw [hml]; rfl) (argsL := [(.int (N.toInt32))]) (rest := []) (lenOf pd_1 rfl) rfl (by show 2 * 0 + _ ≤ _; exact Nat.le_of_eq rfl) (hb hby d15_7) (fun _ _ => ⟨rfl, e0, (by decide : 0 + 0 ≤ _), (by decide : 0 + 0 ≤ _)⟩)
  dsimp only [Pt.U, Pt.locs, Pt.cells, Pt.slots] at X1 l1 y1 z1 st1 hQ1
  subst l1 y1 z1
  obtain ⟨rfl, N1q, e1⟩ := hQ1
  have N1 := Fr.app N0 N1q
  refine own_go (b := T1.setTop (mkF m 10 #[rv ss, iv (N.toInt32), .unset] [(.int (own_dgz (N.toInt32)))])) st1 ?_
  rw [own_dgz_eq hN]
  refine own_go (b := T1.setTop (mkF m 11 #[rv ss, iv (N.toInt32), iv ((own_ln N).toInt32)] [])) (fun t k => XS.istoreN X1.here hx rfl (hb hby d15_10) rfl (l' := #[rv ss, iv (N.toInt32), iv ((own_ln N).toInt32)]) rfl k) ?_
  refine own_go (b := T1.setTop (mkF m 12 #[rv ss, iv (N.toInt32), iv ((own_ln N).toInt32)] [(.ref ss)])) (fun t k => XS.aloadN X1.here hx rfl (hb hby d15_11) rfl rfl k) ?_
  obtain ⟨cq2, kq2, q2a, q2b, q2c⟩ := isOf hZ e1 (own_StrE hS)
  obtain ⟨_, _, ⟨T2, L2, k2, n2⟩, -, X2, ⟨Lc2, hQ2, l2, y2, z2⟩, st2⟩ := X1.virtualBack hx (y := (⟨"java/lang/String", "length", "()I"⟩ : MethodName)) (z := (⟨"java/lang/String", "length", "()I"⟩ : MethodName)) hown (mvT hZ (hw _ (List.mem_of_getElem? (i := 85) rfl))) (mvT hZ (hw _ (List.mem_of_getElem? (i := 86) rfl))) (notFace_of_selects (args := #[]) (mvT hZ (hw _ (List.mem_of_getElem? (i := 88) rfl)))) (mvT hZ (hw _ (List.mem_of_getElem? (i := 88) rfl))) (mvT hZ (hw _ (List.mem_of_getElem? (i := 87) rfl))) (by decide) (backOf (W := 0) (rm17 l Z a0 hw [] ss (own_digs N (own_ln N)) G1 h0 n0 Z0 hS O2 P5 Od) hZ (hw _ (List.mem_of_getElem? (i := 89) rfl)) (hw _ (List.mem_of_getElem? (i := 15) rfl)) (by decide) (by decide)) q2a q2c (g := (mkF m 12 #[rv ss, iv (N.toInt32), iv ((own_ln N).toInt32)] [(.ref ss)])) rfl (by rw [hml]; rfl) (Steps.refl _) (argsL := []) (rest := []) (lenOf pd_13 rfl) rfl (by show 2 * 0 + _ ≤ _; exact Nat.le_of_eq rfl) (hb hby d15_12) (fun _ _ => ⟨rfl, e1, (by decide : 0 + 0 ≤ _), (by decide : 0 + 0 ≤ _)⟩)
  dsimp only [Pt.U, Pt.locs, Pt.cells, Pt.slots] at X2 l2 y2 z2 st2 hQ2
  subst l2 y2 z2
  obtain ⟨rfl, N2q, e2⟩ := hQ2
  have N2 := Fr.app N1 N2q
  refine own_tr (b := T2.setTop (mkF m 15 #[rv ss, iv (N.toInt32), iv ((own_ln N).toInt32)] [(.int (Int32.ofNat (own_digs N (own_ln N)).length))])) st2 ?_
  refine own_go (b := T2.setTop (mkF m 16 #[rv ss, iv (N.toInt32), iv ((own_ln N).toInt32)] [(.int ((own_ln N).toInt32)), (.int (Int32.ofNat (own_digs N (own_ln N)).length))])) (fun t k => XS.iloadN X2.here hx rfl (hb hby d15_15) rfl  k) ?_
  have hq16 : (Int32.ofNat (own_digs N (own_ln N)).length) = ((own_ln N).toInt32) := by rw [own_digs_len]
  refine own_go (b := T2.setTop (mkF m 21 #[rv ss, iv (N.toInt32), iv ((own_ln N).toInt32)] [])) (fun t k => XS.icmpYes X2.here hx rfl (pc0 := 16) (pc' := 21) rfl (hb hby d15_16) rfl (teq hq16).1 (by decide) (by decide) k) ?_
  refine own_go (b := T2.setTop (mkF m 22 #[rv ss, iv (N.toInt32), iv ((own_ln N).toInt32)] [(.ref ss)])) (fun t k => XS.aloadN X2.here hx rfl (hb hby d15_21) rfl rfl k) ?_
  refine own_go (b := T2.setTop (mkF m 23 #[rv ss, iv (N.toInt32), iv ((own_ln N).toInt32)] [(.int ((own_ln N).toInt32)), (.ref ss)])) (fun t k => XS.iloadN X2.here hx rfl (hb hby d15_22) rfl  k) ?_
  refine own_go (b := T2.setTop (mkF m 24 #[rv ss, iv (N.toInt32), iv ((own_ln N).toInt32)] [(.int (N.toInt32)), (.int ((own_ln N).toInt32)), (.ref ss)])) (fun t k => XS.iloadN X2.here hx rfl (hb hby d15_23) rfl  k) ?_
  refine own_go (b := T2.setTop (mkF m 25 #[rv ss, iv (N.toInt32), iv ((own_ln N).toInt32)] [(.int 0), (.int (N.toInt32)), (.int ((own_ln N).toInt32)), (.ref ss)])) (fun t k => XS.iconst X2.here hx rfl (hb hby d15_24) k) ?_
  refine own_go (b := T2.setTop (mkF m 26 #[rv ss, iv (N.toInt32), iv ((own_ln N).toInt32)] [(.int 1), (.int 0), (.int (N.toInt32)), (.int ((own_ln N).toInt32)), (.ref ss)])) (fun t k => XS.iconst X2.here hx rfl (hb hby d15_25) k) ?_
  obtain ⟨_, _, ⟨T3, L3, k3, n3⟩, -, X3, ⟨Lc3, hQ3, l3, y3, z3⟩, st3⟩ := Jvm.LawKit.callS X2 hx (y := (⟨"com/example/vertumnus/vertumnus/interactions/CardinalityExactlyPinLaw", "digitOk", "(Ljava/lang/String;IIII)Z"⟩ : MethodName)) hown (mvT hZ (hw _ (List.mem_of_getElem? (i := 96) rfl))) (mvT hZ (hw _ (List.mem_of_getElem? (i := 97) rfl))) (mvT hZ (hw _ (List.mem_of_getElem? (i := 57) rfl))) (mvT hZ (hw _ (List.mem_of_getElem? (i := 98) rfl))) (by decide) (backOf (W := 0) (rm19 l Z a0 hw [] ss ((own_ln N).toInt32) (N.toInt32) (0 : Int32) (1 : Int32) N (own_ln N) 0 G1 G3 h0 n0 Z0 hS rfl rfl rfl (by decide) hN hln.2 (by decide) O2 P5 O4 rG3 Od) hZ (hw _ (List.mem_of_getElem? (i := 98) rfl)) (hw _ (List.mem_of_getElem? (i := 57) rfl)) (by decide) (by decide)) (g := (mkF m 26 #[rv ss, iv (N.toInt32), iv ((own_ln N).toInt32)] [(.int 1), (.int 0), (.int (N.toInt32)), (.int ((own_ln N).toInt32)), (.ref ss)])) rfl (by rw [hml]; rfl) (argsL := [(.ref ss), (.int ((own_ln N).toInt32)), (.int (N.toInt32)), (.int 0), (.int 1)]) (rest := []) (lenOf pd_14 rfl) rfl (by show 2 * 0 + _ ≤ _; exact Nat.le_of_eq rfl) (hb hby d15_26) (fun _ _ => ⟨rfl, e2, (by decide : 0 + 0 ≤ _), (by decide : 0 + 0 ≤ _)⟩)
  dsimp only [Pt.U, Pt.locs, Pt.cells, Pt.slots] at X3 l3 y3 z3 st3 hQ3
  subst l3 y3 z3
  obtain ⟨rfl, N3q, e3⟩ := hQ3
  have N3 := Fr.app N2 N3q
  refine own_go (b := T3.setTop (mkF m 29 #[rv ss, iv (N.toInt32), iv ((own_ln N).toInt32)] [(.int 1)])) st3 ?_
  refine own_go (b := T3.setTop (mkF m 32 #[rv ss, iv (N.toInt32), iv ((own_ln N).toInt32)] [])) (fun t k => XS.ifNo X3.here hx rfl (hb hby d15_29) rfl ((if0 _ _).trans (feq (by decide : ¬ ((1 : Int32) = (0 : Int32)))).1) k) ?_
  refine own_go (b := T3.setTop (mkF m 33 #[rv ss, iv (N.toInt32), iv ((own_ln N).toInt32)] [(.ref ss)])) (fun t k => XS.aloadN X3.here hx rfl (hb hby d15_32) rfl rfl k) ?_
  refine own_go (b := T3.setTop (mkF m 34 #[rv ss, iv (N.toInt32), iv ((own_ln N).toInt32)] [(.int ((own_ln N).toInt32)), (.ref ss)])) (fun t k => XS.iloadN X3.here hx rfl (hb hby d15_33) rfl  k) ?_
  refine own_go (b := T3.setTop (mkF m 35 #[rv ss, iv (N.toInt32), iv ((own_ln N).toInt32)] [(.int (N.toInt32)), (.int ((own_ln N).toInt32)), (.ref ss)])) (fun t k => XS.iloadN X3.here hx rfl (hb hby d15_34) rfl  k) ?_
  refine own_go (b := T3.setTop (mkF m 36 #[rv ss, iv (N.toInt32), iv ((own_ln N).toInt32)] [(.int 1), (.int (N.toInt32)), (.int ((own_ln N).toInt32)), (.ref ss)])) (fun t k => XS.iconst X3.here hx rfl (hb hby d15_35) k) ?_
  refine own_go (b := T3.setTop (mkF m 38 #[rv ss, iv (N.toInt32), iv ((own_ln N).toInt32)] [(.int 10), (.int 1), (.int (N.toInt32)), (.int ((own_ln N).toInt32)), (.ref ss)])) (fun t k => XS.bipush X3.here hx rfl (hb hby d15_36) k) ?_
  obtain ⟨_, _, ⟨T4, L4, k4, n4⟩, -, X4, ⟨Lc4, hQ4, l4, y4, z4⟩, st4⟩ := Jvm.LawKit.callS X3 hx (y := (⟨"com/example/vertumnus/vertumnus/interactions/CardinalityExactlyPinLaw", "digitOk", "(Ljava/lang/String;IIII)Z"⟩ : MethodName)) hown (mvT hZ (hw _ (List.mem_of_getElem? (i := 96) rfl))) (mvT hZ (hw _ (List.mem_of_getElem? (i := 97) rfl))) (mvT hZ (hw _ (List.mem_of_getElem? (i := 57) rfl))) (mvT hZ (hw _ (List.mem_of_getElem? (i := 98) rfl))) (by decide) (backOf (W := 0) (rm19 l Z a0 hw [] ss ((own_ln N).toInt32) (N.toInt32) (1 : Int32) (10 : Int32) N (own_ln N) 1 G1 G3 h0 n0 Z0 hS rfl rfl rfl (by decide) hN hln.2 (by decide) O2 P5 O4 rG3 Od) hZ (hw _ (List.mem_of_getElem? (i := 98) rfl)) (hw _ (List.mem_of_getElem? (i := 57) rfl)) (by decide) (by decide)) (g := (mkF m 38 #[rv ss, iv (N.toInt32), iv ((own_ln N).toInt32)] [(.int 10), (.int 1), (.int (N.toInt32)), (.int ((own_ln N).toInt32)), (.ref ss)])) rfl (by rw [hml]; rfl) (argsL := [(.ref ss), (.int ((own_ln N).toInt32)), (.int (N.toInt32)), (.int 1), (.int 10)]) (rest := []) (lenOf pd_14 rfl) rfl (by show 2 * 0 + _ ≤ _; exact Nat.le_of_eq rfl) (hb hby d15_38) (fun _ _ => ⟨rfl, e3, (by decide : 0 + 0 ≤ _), (by decide : 0 + 0 ≤ _)⟩)
  dsimp only [Pt.U, Pt.locs, Pt.cells, Pt.slots] at X4 l4 y4 z4 st4 hQ4
  subst l4 y4 z4
  obtain ⟨rfl, N4q, e4⟩ := hQ4
  have N4 := Fr.app N3 N4q
  refine own_go (b := T4.setTop (mkF m 41 #[rv ss, iv (N.toInt32), iv ((own_ln N).toInt32)] [(.int 1)])) st4 ?_
  refine own_go (b := T4.setTop (mkF m 44 #[rv ss, iv (N.toInt32), iv ((own_ln N).toInt32)] [])) (fun t k => XS.ifNo X4.here hx rfl (hb hby d15_41) rfl ((if0 _ _).trans (feq (by decide : ¬ ((1 : Int32) = (0 : Int32)))).1) k) ?_
  refine own_go (b := T4.setTop (mkF m 45 #[rv ss, iv (N.toInt32), iv ((own_ln N).toInt32)] [(.ref ss)])) (fun t k => XS.aloadN X4.here hx rfl (hb hby d15_44) rfl rfl k) ?_
  refine own_go (b := T4.setTop (mkF m 46 #[rv ss, iv (N.toInt32), iv ((own_ln N).toInt32)] [(.int ((own_ln N).toInt32)), (.ref ss)])) (fun t k => XS.iloadN X4.here hx rfl (hb hby d15_45) rfl  k) ?_
  refine own_go (b := T4.setTop (mkF m 47 #[rv ss, iv (N.toInt32), iv ((own_ln N).toInt32)] [(.int (N.toInt32)), (.int ((own_ln N).toInt32)), (.ref ss)])) (fun t k => XS.iloadN X4.here hx rfl (hb hby d15_46) rfl  k) ?_
  refine own_go (b := T4.setTop (mkF m 48 #[rv ss, iv (N.toInt32), iv ((own_ln N).toInt32)] [(.int 2), (.int (N.toInt32)), (.int ((own_ln N).toInt32)), (.ref ss)])) (fun t k => XS.iconst X4.here hx rfl (hb hby d15_47) k) ?_
  refine own_go (b := T4.setTop (mkF m 50 #[rv ss, iv (N.toInt32), iv ((own_ln N).toInt32)] [(.int 100), (.int 2), (.int (N.toInt32)), (.int ((own_ln N).toInt32)), (.ref ss)])) (fun t k => XS.bipush X4.here hx rfl (hb hby d15_48) k) ?_
  obtain ⟨_, _, ⟨T5, L5, k5, n5⟩, -, X5, ⟨Lc5, hQ5, l5, y5, z5⟩, st5⟩ := Jvm.LawKit.callS X4 hx (y := (⟨"com/example/vertumnus/vertumnus/interactions/CardinalityExactlyPinLaw", "digitOk", "(Ljava/lang/String;IIII)Z"⟩ : MethodName)) hown (mvT hZ (hw _ (List.mem_of_getElem? (i := 96) rfl))) (mvT hZ (hw _ (List.mem_of_getElem? (i := 97) rfl))) (mvT hZ (hw _ (List.mem_of_getElem? (i := 57) rfl))) (mvT hZ (hw _ (List.mem_of_getElem? (i := 98) rfl))) (by decide) (backOf (W := 0) (rm19 l Z a0 hw [] ss ((own_ln N).toInt32) (N.toInt32) (2 : Int32) (100 : Int32) N (own_ln N) 2 G1 G3 h0 n0 Z0 hS rfl rfl rfl (by decide) hN hln.2 (by decide) O2 P5 O4 rG3 Od) hZ (hw _ (List.mem_of_getElem? (i := 98) rfl)) (hw _ (List.mem_of_getElem? (i := 57) rfl)) (by decide) (by decide)) (g := (mkF m 50 #[rv ss, iv (N.toInt32), iv ((own_ln N).toInt32)] [(.int 100), (.int 2), (.int (N.toInt32)), (.int ((own_ln N).toInt32)), (.ref ss)])) rfl (by rw [hml]; rfl) (argsL := [(.ref ss), (.int ((own_ln N).toInt32)), (.int (N.toInt32)), (.int 2), (.int 100)]) (rest := []) (lenOf pd_14 rfl) rfl (by show 2 * 0 + _ ≤ _; exact Nat.le_of_eq rfl) (hb hby d15_50) (fun _ _ => ⟨rfl, e4, (by decide : 0 + 0 ≤ _), (by decide : 0 + 0 ≤ _)⟩)
  dsimp only [Pt.U, Pt.locs, Pt.cells, Pt.slots] at X5 l5 y5 z5 st5 hQ5
  subst l5 y5 z5
  obtain ⟨rfl, N5q, e5⟩ := hQ5
  have N5 := Fr.app N4 N5q
  refine own_go (b := T5.setTop (mkF m 53 #[rv ss, iv (N.toInt32), iv ((own_ln N).toInt32)] [(.int 1)])) st5 ?_
  refine own_go (b := T5.setTop (mkF m 56 #[rv ss, iv (N.toInt32), iv ((own_ln N).toInt32)] [])) (fun t k => XS.ifNo X5.here hx rfl (hb hby d15_53) rfl ((if0 _ _).trans (feq (by decide : ¬ ((1 : Int32) = (0 : Int32)))).1) k) ?_
  refine own_go (b := T5.setTop (mkF m 57 #[rv ss, iv (N.toInt32), iv ((own_ln N).toInt32)] [(.ref ss)])) (fun t k => XS.aloadN X5.here hx rfl (hb hby d15_56) rfl rfl k) ?_
  refine own_go (b := T5.setTop (mkF m 58 #[rv ss, iv (N.toInt32), iv ((own_ln N).toInt32)] [(.int ((own_ln N).toInt32)), (.ref ss)])) (fun t k => XS.iloadN X5.here hx rfl (hb hby d15_57) rfl  k) ?_
  refine own_go (b := T5.setTop (mkF m 59 #[rv ss, iv (N.toInt32), iv ((own_ln N).toInt32)] [(.int (N.toInt32)), (.int ((own_ln N).toInt32)), (.ref ss)])) (fun t k => XS.iloadN X5.here hx rfl (hb hby d15_58) rfl  k) ?_
  refine own_go (b := T5.setTop (mkF m 60 #[rv ss, iv (N.toInt32), iv ((own_ln N).toInt32)] [(.int 3), (.int (N.toInt32)), (.int ((own_ln N).toInt32)), (.ref ss)])) (fun t k => XS.iconst X5.here hx rfl (hb hby d15_59) k) ?_
  refine own_go (b := T5.setTop (mkF m 63 #[rv ss, iv (N.toInt32), iv ((own_ln N).toInt32)] [(.int 1000), (.int 3), (.int (N.toInt32)), (.int ((own_ln N).toInt32)), (.ref ss)])) (fun t k => XS.sipush X5.here hx rfl (hb hby d15_60) k) ?_
  obtain ⟨_, _, ⟨T6, L6, k6, n6⟩, -, X6, ⟨Lc6, hQ6, l6, y6, z6⟩, st6⟩ := Jvm.LawKit.callS X5 hx (y := (⟨"com/example/vertumnus/vertumnus/interactions/CardinalityExactlyPinLaw", "digitOk", "(Ljava/lang/String;IIII)Z"⟩ : MethodName)) hown (mvT hZ (hw _ (List.mem_of_getElem? (i := 96) rfl))) (mvT hZ (hw _ (List.mem_of_getElem? (i := 97) rfl))) (mvT hZ (hw _ (List.mem_of_getElem? (i := 57) rfl))) (mvT hZ (hw _ (List.mem_of_getElem? (i := 98) rfl))) (by decide) (backOf (W := 0) (rm19 l Z a0 hw [] ss ((own_ln N).toInt32) (N.toInt32) (3 : Int32) (1000 : Int32) N (own_ln N) 3 G1 G3 h0 n0 Z0 hS rfl rfl rfl (by decide) hN hln.2 (by decide) O2 P5 O4 rG3 Od) hZ (hw _ (List.mem_of_getElem? (i := 98) rfl)) (hw _ (List.mem_of_getElem? (i := 57) rfl)) (by decide) (by decide)) (g := (mkF m 63 #[rv ss, iv (N.toInt32), iv ((own_ln N).toInt32)] [(.int 1000), (.int 3), (.int (N.toInt32)), (.int ((own_ln N).toInt32)), (.ref ss)])) rfl (by rw [hml]; rfl) (argsL := [(.ref ss), (.int ((own_ln N).toInt32)), (.int (N.toInt32)), (.int 3), (.int 1000)]) (rest := []) (lenOf pd_14 rfl) rfl (by show 2 * 0 + _ ≤ _; exact Nat.le_of_eq rfl) (hb hby d15_63) (fun _ _ => ⟨rfl, e5, (by decide : 0 + 0 ≤ _), (by decide : 0 + 0 ≤ _)⟩)
  dsimp only [Pt.U, Pt.locs, Pt.cells, Pt.slots] at X6 l6 y6 z6 st6 hQ6
  subst l6 y6 z6
  obtain ⟨rfl, N6q, e6⟩ := hQ6
  have N6 := Fr.app N5 N6q
  refine own_go (b := T6.setTop (mkF m 66 #[rv ss, iv (N.toInt32), iv ((own_ln N).toInt32)] [(.int 1)])) st6 ?_
  refine own_go (b := T6.setTop (mkF m 69 #[rv ss, iv (N.toInt32), iv ((own_ln N).toInt32)] [])) (fun t k => XS.ifNo X6.here hx rfl (hb hby d15_66) rfl ((if0 _ _).trans (feq (by decide : ¬ ((1 : Int32) = (0 : Int32)))).1) k) ?_
  refine own_go (b := T6.setTop (mkF m 70 #[rv ss, iv (N.toInt32), iv ((own_ln N).toInt32)] [(.ref ss)])) (fun t k => XS.aloadN X6.here hx rfl (hb hby d15_69) rfl rfl k) ?_
  refine own_go (b := T6.setTop (mkF m 71 #[rv ss, iv (N.toInt32), iv ((own_ln N).toInt32)] [(.int ((own_ln N).toInt32)), (.ref ss)])) (fun t k => XS.iloadN X6.here hx rfl (hb hby d15_70) rfl  k) ?_
  refine own_go (b := T6.setTop (mkF m 72 #[rv ss, iv (N.toInt32), iv ((own_ln N).toInt32)] [(.int (N.toInt32)), (.int ((own_ln N).toInt32)), (.ref ss)])) (fun t k => XS.iloadN X6.here hx rfl (hb hby d15_71) rfl  k) ?_
  refine own_go (b := T6.setTop (mkF m 73 #[rv ss, iv (N.toInt32), iv ((own_ln N).toInt32)] [(.int 4), (.int (N.toInt32)), (.int ((own_ln N).toInt32)), (.ref ss)])) (fun t k => XS.iconst X6.here hx rfl (hb hby d15_72) k) ?_
  refine own_go (b := T6.setTop (mkF m 76 #[rv ss, iv (N.toInt32), iv ((own_ln N).toInt32)] [(.int 10000), (.int 4), (.int (N.toInt32)), (.int ((own_ln N).toInt32)), (.ref ss)])) (fun t k => XS.sipush X6.here hx rfl (hb hby d15_73) k) ?_
  obtain ⟨_, _, ⟨T7, L7, k7, n7⟩, -, X7, ⟨Lc7, hQ7, l7, y7, z7⟩, st7⟩ := Jvm.LawKit.callS X6 hx (y := (⟨"com/example/vertumnus/vertumnus/interactions/CardinalityExactlyPinLaw", "digitOk", "(Ljava/lang/String;IIII)Z"⟩ : MethodName)) hown (mvT hZ (hw _ (List.mem_of_getElem? (i := 96) rfl))) (mvT hZ (hw _ (List.mem_of_getElem? (i := 97) rfl))) (mvT hZ (hw _ (List.mem_of_getElem? (i := 57) rfl))) (mvT hZ (hw _ (List.mem_of_getElem? (i := 98) rfl))) (by decide) (backOf (W := 0) (rm19 l Z a0 hw [] ss ((own_ln N).toInt32) (N.toInt32) (4 : Int32) (10000 : Int32) N (own_ln N) 4 G1 G3 h0 n0 Z0 hS rfl rfl rfl (by decide) hN hln.2 (by decide) O2 P5 O4 rG3 Od) hZ (hw _ (List.mem_of_getElem? (i := 98) rfl)) (hw _ (List.mem_of_getElem? (i := 57) rfl)) (by decide) (by decide)) (g := (mkF m 76 #[rv ss, iv (N.toInt32), iv ((own_ln N).toInt32)] [(.int 10000), (.int 4), (.int (N.toInt32)), (.int ((own_ln N).toInt32)), (.ref ss)])) rfl (by rw [hml]; rfl) (argsL := [(.ref ss), (.int ((own_ln N).toInt32)), (.int (N.toInt32)), (.int 4), (.int 10000)]) (rest := []) (lenOf pd_14 rfl) rfl (by show 2 * 0 + _ ≤ _; exact Nat.le_of_eq rfl) (hb hby d15_76) (fun _ _ => ⟨rfl, e6, (by decide : 0 + 0 ≤ _), (by decide : 0 + 0 ≤ _)⟩)
  dsimp only [Pt.U, Pt.locs, Pt.cells, Pt.slots] at X7 l7 y7 z7 st7 hQ7
  subst l7 y7 z7
  obtain ⟨rfl, N7q, e7⟩ := hQ7
  have N7 := Fr.app N6 N7q
  refine own_go (b := T7.setTop (mkF m 79 #[rv ss, iv (N.toInt32), iv ((own_ln N).toInt32)] [(.int 1)])) st7 ?_
  refine own_go (b := T7.setTop (mkF m 82 #[rv ss, iv (N.toInt32), iv ((own_ln N).toInt32)] [])) (fun t k => XS.ifNo X7.here hx rfl (hb hby d15_79) rfl ((if0 _ _).trans (feq (by decide : ¬ ((1 : Int32) = (0 : Int32)))).1) k) ?_
  refine own_go (b := T7.setTop (mkF m 83 #[rv ss, iv (N.toInt32), iv ((own_ln N).toInt32)] [(.ref ss)])) (fun t k => XS.aloadN X7.here hx rfl (hb hby d15_82) rfl rfl k) ?_
  refine own_go (b := T7.setTop (mkF m 84 #[rv ss, iv (N.toInt32), iv ((own_ln N).toInt32)] [(.int ((own_ln N).toInt32)), (.ref ss)])) (fun t k => XS.iloadN X7.here hx rfl (hb hby d15_83) rfl  k) ?_
  refine own_go (b := T7.setTop (mkF m 85 #[rv ss, iv (N.toInt32), iv ((own_ln N).toInt32)] [(.int (N.toInt32)), (.int ((own_ln N).toInt32)), (.ref ss)])) (fun t k => XS.iloadN X7.here hx rfl (hb hby d15_84) rfl  k) ?_
  refine own_go (b := T7.setTop (mkF m 86 #[rv ss, iv (N.toInt32), iv ((own_ln N).toInt32)] [(.int 5), (.int (N.toInt32)), (.int ((own_ln N).toInt32)), (.ref ss)])) (fun t k => XS.iconst X7.here hx rfl (hb hby d15_85) k) ?_
  refine own_go (b := T7.setTop (mkF m 88 #[rv ss, iv (N.toInt32), iv ((own_ln N).toInt32)] [(.int 100000), (.int 5), (.int (N.toInt32)), (.int ((own_ln N).toInt32)), (.ref ss)])) (fun t k => X7.ldcInt hx hown (mvT hZ (hw _ (List.mem_of_getElem? (i := 121) rfl))) (g := (mkF m 86 #[rv ss, iv (N.toInt32), iv ((own_ln N).toInt32)] [(.int 5), (.int (N.toInt32)), (.int ((own_ln N).toInt32)), (.ref ss)])) rfl (hb hby d15_86) t k) ?_
  obtain ⟨_, _, ⟨T8, L8, k8, n8⟩, -, X8, ⟨Lc8, hQ8, l8, y8, z8⟩, st8⟩ := Jvm.LawKit.callS X7 hx (y := (⟨"com/example/vertumnus/vertumnus/interactions/CardinalityExactlyPinLaw", "digitOk", "(Ljava/lang/String;IIII)Z"⟩ : MethodName)) hown (mvT hZ (hw _ (List.mem_of_getElem? (i := 96) rfl))) (mvT hZ (hw _ (List.mem_of_getElem? (i := 97) rfl))) (mvT hZ (hw _ (List.mem_of_getElem? (i := 57) rfl))) (mvT hZ (hw _ (List.mem_of_getElem? (i := 98) rfl))) (by decide) (backOf (W := 0) (rm19 l Z a0 hw [] ss ((own_ln N).toInt32) (N.toInt32) (5 : Int32) (100000 : Int32) N (own_ln N) 5 G1 G3 h0 n0 Z0 hS rfl rfl rfl (by decide) hN hln.2 (by decide) O2 P5 O4 rG3 Od) hZ (hw _ (List.mem_of_getElem? (i := 98) rfl)) (hw _ (List.mem_of_getElem? (i := 57) rfl)) (by decide) (by decide)) (g := (mkF m 88 #[rv ss, iv (N.toInt32), iv ((own_ln N).toInt32)] [(.int 100000), (.int 5), (.int (N.toInt32)), (.int ((own_ln N).toInt32)), (.ref ss)])) rfl (by rw [hml]; rfl) (argsL := [(.ref ss), (.int ((own_ln N).toInt32)), (.int (N.toInt32)), (.int 5), (.int 100000)]) (rest := []) (lenOf pd_14 rfl) rfl (by show 2 * 0 + _ ≤ _; exact Nat.le_of_eq rfl) (hb hby d15_88) (fun _ _ => ⟨rfl, e7, (by decide : 0 + 0 ≤ _), (by decide : 0 + 0 ≤ _)⟩)
  dsimp only [Pt.U, Pt.locs, Pt.cells, Pt.slots] at X8 l8 y8 z8 st8 hQ8
  subst l8 y8 z8
  obtain ⟨rfl, N8q, e8⟩ := hQ8
  have N8 := Fr.app N7 N8q
  refine own_go (b := T8.setTop (mkF m 91 #[rv ss, iv (N.toInt32), iv ((own_ln N).toInt32)] [(.int 1)])) st8 ?_
  refine own_go (b := T8.setTop (mkF m 94 #[rv ss, iv (N.toInt32), iv ((own_ln N).toInt32)] [])) (fun t k => XS.ifNo X8.here hx rfl (hb hby d15_91) rfl ((if0 _ _).trans (feq (by decide : ¬ ((1 : Int32) = (0 : Int32)))).1) k) ?_
  refine own_go (b := T8.setTop (mkF m 95 #[rv ss, iv (N.toInt32), iv ((own_ln N).toInt32)] [(.ref ss)])) (fun t k => XS.aloadN X8.here hx rfl (hb hby d15_94) rfl rfl k) ?_
  refine own_go (b := T8.setTop (mkF m 96 #[rv ss, iv (N.toInt32), iv ((own_ln N).toInt32)] [(.int ((own_ln N).toInt32)), (.ref ss)])) (fun t k => XS.iloadN X8.here hx rfl (hb hby d15_95) rfl  k) ?_
  refine own_go (b := T8.setTop (mkF m 97 #[rv ss, iv (N.toInt32), iv ((own_ln N).toInt32)] [(.int (N.toInt32)), (.int ((own_ln N).toInt32)), (.ref ss)])) (fun t k => XS.iloadN X8.here hx rfl (hb hby d15_96) rfl  k) ?_
  refine own_go (b := T8.setTop (mkF m 99 #[rv ss, iv (N.toInt32), iv ((own_ln N).toInt32)] [(.int 6), (.int (N.toInt32)), (.int ((own_ln N).toInt32)), (.ref ss)])) (fun t k => XS.bipush X8.here hx rfl (hb hby d15_97) k) ?_
  refine own_go (b := T8.setTop (mkF m 101 #[rv ss, iv (N.toInt32), iv ((own_ln N).toInt32)] [(.int 1000000), (.int 6), (.int (N.toInt32)), (.int ((own_ln N).toInt32)), (.ref ss)])) (fun t k => X8.ldcInt hx hown (mvT hZ (hw _ (List.mem_of_getElem? (i := 122) rfl))) (g := (mkF m 99 #[rv ss, iv (N.toInt32), iv ((own_ln N).toInt32)] [(.int 6), (.int (N.toInt32)), (.int ((own_ln N).toInt32)), (.ref ss)])) rfl (hb hby d15_99) t k) ?_
  obtain ⟨_, _, ⟨T9, L9, k9, n9⟩, -, X9, ⟨Lc9, hQ9, l9, y9, z9⟩, st9⟩ := Jvm.LawKit.callS X8 hx (y := (⟨"com/example/vertumnus/vertumnus/interactions/CardinalityExactlyPinLaw", "digitOk", "(Ljava/lang/String;IIII)Z"⟩ : MethodName)) hown (mvT hZ (hw _ (List.mem_of_getElem? (i := 96) rfl))) (mvT hZ (hw _ (List.mem_of_getElem? (i := 97) rfl))) (mvT hZ (hw _ (List.mem_of_getElem? (i := 57) rfl))) (mvT hZ (hw _ (List.mem_of_getElem? (i := 98) rfl))) (by decide) (backOf (W := 0) (rm19 l Z a0 hw [] ss ((own_ln N).toInt32) (N.toInt32) (6 : Int32) (1000000 : Int32) N (own_ln N) 6 G1 G3 h0 n0 Z0 hS rfl rfl rfl (by decide) hN hln.2 (by decide) O2 P5 O4 rG3 Od) hZ (hw _ (List.mem_of_getElem? (i := 98) rfl)) (hw _ (List.mem_of_getElem? (i := 57) rfl)) (by decide) (by decide)) (g := (mkF m 101 #[rv ss, iv (N.toInt32), iv ((own_ln N).toInt32)] [(.int 1000000), (.int 6), (.int (N.toInt32)), (.int ((own_ln N).toInt32)), (.ref ss)])) rfl (by rw [hml]; rfl) (argsL := [(.ref ss), (.int ((own_ln N).toInt32)), (.int (N.toInt32)), (.int 6), (.int 1000000)]) (rest := []) (lenOf pd_14 rfl) rfl (by show 2 * 0 + _ ≤ _; exact Nat.le_of_eq rfl) (hb hby d15_101) (fun _ _ => ⟨rfl, e8, (by decide : 0 + 0 ≤ _), (by decide : 0 + 0 ≤ _)⟩)
  dsimp only [Pt.U, Pt.locs, Pt.cells, Pt.slots] at X9 l9 y9 z9 st9 hQ9
  subst l9 y9 z9
  obtain ⟨rfl, N9q, e9⟩ := hQ9
  have N9 := Fr.app N8 N9q
  refine own_go (b := T9.setTop (mkF m 104 #[rv ss, iv (N.toInt32), iv ((own_ln N).toInt32)] [(.int 1)])) st9 ?_
  refine own_go (b := T9.setTop (mkF m 107 #[rv ss, iv (N.toInt32), iv ((own_ln N).toInt32)] [])) (fun t k => XS.ifNo X9.here hx rfl (hb hby d15_104) rfl ((if0 _ _).trans (feq (by decide : ¬ ((1 : Int32) = (0 : Int32)))).1) k) ?_
  refine own_go (b := T9.setTop (mkF m 108 #[rv ss, iv (N.toInt32), iv ((own_ln N).toInt32)] [(.ref ss)])) (fun t k => XS.aloadN X9.here hx rfl (hb hby d15_107) rfl rfl k) ?_
  refine own_go (b := T9.setTop (mkF m 109 #[rv ss, iv (N.toInt32), iv ((own_ln N).toInt32)] [(.int ((own_ln N).toInt32)), (.ref ss)])) (fun t k => XS.iloadN X9.here hx rfl (hb hby d15_108) rfl  k) ?_
  refine own_go (b := T9.setTop (mkF m 110 #[rv ss, iv (N.toInt32), iv ((own_ln N).toInt32)] [(.int (N.toInt32)), (.int ((own_ln N).toInt32)), (.ref ss)])) (fun t k => XS.iloadN X9.here hx rfl (hb hby d15_109) rfl  k) ?_
  refine own_go (b := T9.setTop (mkF m 112 #[rv ss, iv (N.toInt32), iv ((own_ln N).toInt32)] [(.int 7), (.int (N.toInt32)), (.int ((own_ln N).toInt32)), (.ref ss)])) (fun t k => XS.bipush X9.here hx rfl (hb hby d15_110) k) ?_
  refine own_go (b := T9.setTop (mkF m 114 #[rv ss, iv (N.toInt32), iv ((own_ln N).toInt32)] [(.int 10000000), (.int 7), (.int (N.toInt32)), (.int ((own_ln N).toInt32)), (.ref ss)])) (fun t k => X9.ldcInt hx hown (mvT hZ (hw _ (List.mem_of_getElem? (i := 123) rfl))) (g := (mkF m 112 #[rv ss, iv (N.toInt32), iv ((own_ln N).toInt32)] [(.int 7), (.int (N.toInt32)), (.int ((own_ln N).toInt32)), (.ref ss)])) rfl (hb hby d15_112) t k) ?_
  obtain ⟨_, _, ⟨T10, L10, k10, n10⟩, -, X10, ⟨Lc10, hQ10, l10, y10, z10⟩, st10⟩ := Jvm.LawKit.callS X9 hx (y := (⟨"com/example/vertumnus/vertumnus/interactions/CardinalityExactlyPinLaw", "digitOk", "(Ljava/lang/String;IIII)Z"⟩ : MethodName)) hown (mvT hZ (hw _ (List.mem_of_getElem? (i := 96) rfl))) (mvT hZ (hw _ (List.mem_of_getElem? (i := 97) rfl))) (mvT hZ (hw _ (List.mem_of_getElem? (i := 57) rfl))) (mvT hZ (hw _ (List.mem_of_getElem? (i := 98) rfl))) (by decide) (backOf (W := 0) (rm19 l Z a0 hw [] ss ((own_ln N).toInt32) (N.toInt32) (7 : Int32) (10000000 : Int32) N (own_ln N) 7 G1 G3 h0 n0 Z0 hS rfl rfl rfl (by decide) hN hln.2 (by decide) O2 P5 O4 rG3 Od) hZ (hw _ (List.mem_of_getElem? (i := 98) rfl)) (hw _ (List.mem_of_getElem? (i := 57) rfl)) (by decide) (by decide)) (g := (mkF m 114 #[rv ss, iv (N.toInt32), iv ((own_ln N).toInt32)] [(.int 10000000), (.int 7), (.int (N.toInt32)), (.int ((own_ln N).toInt32)), (.ref ss)])) rfl (by rw [hml]; rfl) (argsL := [(.ref ss), (.int ((own_ln N).toInt32)), (.int (N.toInt32)), (.int 7), (.int 10000000)]) (rest := []) (lenOf pd_14 rfl) rfl (by show 2 * 0 + _ ≤ _; exact Nat.le_of_eq rfl) (hb hby d15_114) (fun _ _ => ⟨rfl, e9, (by decide : 0 + 0 ≤ _), (by decide : 0 + 0 ≤ _)⟩)
  dsimp only [Pt.U, Pt.locs, Pt.cells, Pt.slots] at X10 l10 y10 z10 st10 hQ10
  subst l10 y10 z10
  obtain ⟨rfl, N10q, e10⟩ := hQ10
  have N10 := Fr.app N9 N10q
  refine own_go (b := T10.setTop (mkF m 117 #[rv ss, iv (N.toInt32), iv ((own_ln N).toInt32)] [(.int 1)])) st10 ?_
  refine own_go (b := T10.setTop (mkF m 120 #[rv ss, iv (N.toInt32), iv ((own_ln N).toInt32)] [])) (fun t k => XS.ifNo X10.here hx rfl (hb hby d15_117) rfl ((if0 _ _).trans (feq (by decide : ¬ ((1 : Int32) = (0 : Int32)))).1) k) ?_
  refine own_go (b := T10.setTop (mkF m 121 #[rv ss, iv (N.toInt32), iv ((own_ln N).toInt32)] [(.ref ss)])) (fun t k => XS.aloadN X10.here hx rfl (hb hby d15_120) rfl rfl k) ?_
  refine own_go (b := T10.setTop (mkF m 122 #[rv ss, iv (N.toInt32), iv ((own_ln N).toInt32)] [(.int ((own_ln N).toInt32)), (.ref ss)])) (fun t k => XS.iloadN X10.here hx rfl (hb hby d15_121) rfl  k) ?_
  refine own_go (b := T10.setTop (mkF m 123 #[rv ss, iv (N.toInt32), iv ((own_ln N).toInt32)] [(.int (N.toInt32)), (.int ((own_ln N).toInt32)), (.ref ss)])) (fun t k => XS.iloadN X10.here hx rfl (hb hby d15_122) rfl  k) ?_
  refine own_go (b := T10.setTop (mkF m 125 #[rv ss, iv (N.toInt32), iv ((own_ln N).toInt32)] [(.int 8), (.int (N.toInt32)), (.int ((own_ln N).toInt32)), (.ref ss)])) (fun t k => XS.bipush X10.here hx rfl (hb hby d15_123) k) ?_
  refine own_go (b := T10.setTop (mkF m 127 #[rv ss, iv (N.toInt32), iv ((own_ln N).toInt32)] [(.int 100000000), (.int 8), (.int (N.toInt32)), (.int ((own_ln N).toInt32)), (.ref ss)])) (fun t k => X10.ldcInt hx hown (mvT hZ (hw _ (List.mem_of_getElem? (i := 124) rfl))) (g := (mkF m 125 #[rv ss, iv (N.toInt32), iv ((own_ln N).toInt32)] [(.int 8), (.int (N.toInt32)), (.int ((own_ln N).toInt32)), (.ref ss)])) rfl (hb hby d15_125) t k) ?_
  obtain ⟨_, _, ⟨T11, L11, k11, n11⟩, -, X11, ⟨Lc11, hQ11, l11, y11, z11⟩, st11⟩ := Jvm.LawKit.callS X10 hx (y := (⟨"com/example/vertumnus/vertumnus/interactions/CardinalityExactlyPinLaw", "digitOk", "(Ljava/lang/String;IIII)Z"⟩ : MethodName)) hown (mvT hZ (hw _ (List.mem_of_getElem? (i := 96) rfl))) (mvT hZ (hw _ (List.mem_of_getElem? (i := 97) rfl))) (mvT hZ (hw _ (List.mem_of_getElem? (i := 57) rfl))) (mvT hZ (hw _ (List.mem_of_getElem? (i := 98) rfl))) (by decide) (backOf (W := 0) (rm19 l Z a0 hw [] ss ((own_ln N).toInt32) (N.toInt32) (8 : Int32) (100000000 : Int32) N (own_ln N) 8 G1 G3 h0 n0 Z0 hS rfl rfl rfl (by decide) hN hln.2 (by decide) O2 P5 O4 rG3 Od) hZ (hw _ (List.mem_of_getElem? (i := 98) rfl)) (hw _ (List.mem_of_getElem? (i := 57) rfl)) (by decide) (by decide)) (g := (mkF m 127 #[rv ss, iv (N.toInt32), iv ((own_ln N).toInt32)] [(.int 100000000), (.int 8), (.int (N.toInt32)), (.int ((own_ln N).toInt32)), (.ref ss)])) rfl (by rw [hml]; rfl) (argsL := [(.ref ss), (.int ((own_ln N).toInt32)), (.int (N.toInt32)), (.int 8), (.int 100000000)]) (rest := []) (lenOf pd_14 rfl) rfl (by show 2 * 0 + _ ≤ _; exact Nat.le_of_eq rfl) (hb hby d15_127) (fun _ _ => ⟨rfl, e10, (by decide : 0 + 0 ≤ _), (by decide : 0 + 0 ≤ _)⟩)
  dsimp only [Pt.U, Pt.locs, Pt.cells, Pt.slots] at X11 l11 y11 z11 st11 hQ11
  subst l11 y11 z11
  obtain ⟨rfl, N11q, e11⟩ := hQ11
  have N11 := Fr.app N10 N11q
  refine own_go (b := T11.setTop (mkF m 130 #[rv ss, iv (N.toInt32), iv ((own_ln N).toInt32)] [(.int 1)])) st11 ?_
  refine own_go (b := T11.setTop (mkF m 133 #[rv ss, iv (N.toInt32), iv ((own_ln N).toInt32)] [])) (fun t k => XS.ifNo X11.here hx rfl (hb hby d15_130) rfl ((if0 _ _).trans (feq (by decide : ¬ ((1 : Int32) = (0 : Int32)))).1) k) ?_
  refine own_go (b := T11.setTop (mkF m 134 #[rv ss, iv (N.toInt32), iv ((own_ln N).toInt32)] [(.ref ss)])) (fun t k => XS.aloadN X11.here hx rfl (hb hby d15_133) rfl rfl k) ?_
  refine own_go (b := T11.setTop (mkF m 135 #[rv ss, iv (N.toInt32), iv ((own_ln N).toInt32)] [(.int ((own_ln N).toInt32)), (.ref ss)])) (fun t k => XS.iloadN X11.here hx rfl (hb hby d15_134) rfl  k) ?_
  refine own_go (b := T11.setTop (mkF m 136 #[rv ss, iv (N.toInt32), iv ((own_ln N).toInt32)] [(.int (N.toInt32)), (.int ((own_ln N).toInt32)), (.ref ss)])) (fun t k => XS.iloadN X11.here hx rfl (hb hby d15_135) rfl  k) ?_
  refine own_go (b := T11.setTop (mkF m 138 #[rv ss, iv (N.toInt32), iv ((own_ln N).toInt32)] [(.int 9), (.int (N.toInt32)), (.int ((own_ln N).toInt32)), (.ref ss)])) (fun t k => XS.bipush X11.here hx rfl (hb hby d15_136) k) ?_
  refine own_go (b := T11.setTop (mkF m 140 #[rv ss, iv (N.toInt32), iv ((own_ln N).toInt32)] [(.int 1000000000), (.int 9), (.int (N.toInt32)), (.int ((own_ln N).toInt32)), (.ref ss)])) (fun t k => X11.ldcInt hx hown (mvT hZ (hw _ (List.mem_of_getElem? (i := 125) rfl))) (g := (mkF m 138 #[rv ss, iv (N.toInt32), iv ((own_ln N).toInt32)] [(.int 9), (.int (N.toInt32)), (.int ((own_ln N).toInt32)), (.ref ss)])) rfl (hb hby d15_138) t k) ?_
  obtain ⟨_, _, ⟨T12, L12, k12, n12⟩, -, X12, ⟨Lc12, hQ12, l12, y12, z12⟩, st12⟩ := Jvm.LawKit.callS X11 hx (y := (⟨"com/example/vertumnus/vertumnus/interactions/CardinalityExactlyPinLaw", "digitOk", "(Ljava/lang/String;IIII)Z"⟩ : MethodName)) hown (mvT hZ (hw _ (List.mem_of_getElem? (i := 96) rfl))) (mvT hZ (hw _ (List.mem_of_getElem? (i := 97) rfl))) (mvT hZ (hw _ (List.mem_of_getElem? (i := 57) rfl))) (mvT hZ (hw _ (List.mem_of_getElem? (i := 98) rfl))) (by decide) (backOf (W := 0) (rm19 l Z a0 hw [] ss ((own_ln N).toInt32) (N.toInt32) (9 : Int32) (1000000000 : Int32) N (own_ln N) 9 G1 G3 h0 n0 Z0 hS rfl rfl rfl (by decide) hN hln.2 (by decide) O2 P5 O4 rG3 Od) hZ (hw _ (List.mem_of_getElem? (i := 98) rfl)) (hw _ (List.mem_of_getElem? (i := 57) rfl)) (by decide) (by decide)) (g := (mkF m 140 #[rv ss, iv (N.toInt32), iv ((own_ln N).toInt32)] [(.int 1000000000), (.int 9), (.int (N.toInt32)), (.int ((own_ln N).toInt32)), (.ref ss)])) rfl (by rw [hml]; rfl) (argsL := [(.ref ss), (.int ((own_ln N).toInt32)), (.int (N.toInt32)), (.int 9), (.int 1000000000)]) (rest := []) (lenOf pd_14 rfl) rfl (by show 2 * 0 + _ ≤ _; exact Nat.le_of_eq rfl) (hb hby d15_140) (fun _ _ => ⟨rfl, e11, (by decide : 0 + 0 ≤ _), (by decide : 0 + 0 ≤ _)⟩)
  dsimp only [Pt.U, Pt.locs, Pt.cells, Pt.slots] at X12 l12 y12 z12 st12 hQ12
  subst l12 y12 z12
  obtain ⟨rfl, N12q, e12⟩ := hQ12
  have N12 := Fr.app N11 N12q
  refine own_go (b := T12.setTop (mkF m 143 #[rv ss, iv (N.toInt32), iv ((own_ln N).toInt32)] [(.int 1)])) st12 ?_
  refine own_go (b := T12.setTop (mkF m 146 #[rv ss, iv (N.toInt32), iv ((own_ln N).toInt32)] [])) (fun t k => XS.ifNo X12.here hx rfl (hb hby d15_143) rfl ((if0 _ _).trans (feq (by decide : ¬ ((1 : Int32) = (0 : Int32)))).1) k) ?_
  refine own_go (b := T12.setTop (mkF m 147 #[rv ss, iv (N.toInt32), iv ((own_ln N).toInt32)] [(.int 1)])) (fun t k => XS.iconst X12.here hx rfl (hb hby d15_146) k) ?_
  refine own_go (b := T12.setTop (mkF m 151 #[rv ss, iv (N.toInt32), iv ((own_ln N).toInt32)] [(.int 1)])) (fun t k => XS.goto X12.here hx rfl (pc0 := 147) (pc' := 151) rfl (hb hby d15_147) (by decide) (by decide) k) ?_
  exact own_retN X12 hx hlk (t := .boolean) hrt (by simp) (hb hby d15_151) (Nat.le_of_ble_eq_true rfl) (Nat.le_of_ble_eq_true rfl) (⟨by first | rfl | (simp only [if_true, if_true, if_false]; done) | (simp only [if_true, if_true, if_false]; rfl) | (simp []; done) | (simp []; rfl), N12, e12⟩)
theorem pd_15 : parseMethodDescriptor "(I)Lcom/example/vertumnus/vertumnus/interactions/Cardinality;" = some ⟨[.int], some (.object "com/example/vertumnus/vertumnus/interactions/Cardinality")⟩ := by decide +kernel
theorem pd_16 : parseMethodDescriptor "(Lcom/example/vertumnus/vertumnus/interactions/Cardinality;IJ)Z" = some ⟨[(.object "com/example/vertumnus/vertumnus/interactions/Cardinality"), .int, .long], some .boolean⟩ := by decide +kernel
theorem pd_17 : parseMethodDescriptor "()Ljava/lang/String;" = some ⟨[], some (.object "java/lang/String")⟩ := by decide +kernel
theorem pd_18 : parseMethodDescriptor "(Ljava/lang/String;I)Z" = some ⟨[(.object "java/lang/String"), .int], some .boolean⟩ := by decide +kernel
theorem ef_0 (m : MethodId) (cr : Int32) (nr : Int64) (dr : Int32) : entryFrame m #[(.int cr), (.long nr), (.int dr)] maxLocals = mkF m 0 #[iv cr, .val (.long nr), .second, iv dr, .unset, .unset, .unset, .unset, .unset] [] := by first | (simp [entryFrame, mkF, argsToLocals, Value.category, maxLocals]; done) | rfl
def Q0 (Z : State) (cr : Int32) (nr : Int64) (dr : Int32) (G1 : Int32) (G3 : Value) (dO : Addr) (dT : Addr) (cO : Cell) (cT : Cell) (h0 : Heap) (n0 : Nat) (v : Option Value) (h : Heap) (L : List Loc) : Prop := v = some (.int 1) ∧ Fr n0 L
set_option maxRecDepth 65536 in
set_option maxHeartbeats 40000000 in
theorem rm0 (l : Launch) (Z : State) (a0 : Array Value) (hw : ∀ d ∈ tables_1, d.before a0 Z = true) (ws : List Jvm.Cond) (cr : Int32) (nr : Int64) (dr : Int32) (G1 : Int32) (G3 : Value) (dO : Addr) (dT : Addr) (cO : Cell) (cT : Cell) (h0 : Heap) (n0 : Nat) (Z0 : n0 ≤ h0.size) (O2 : Sta Z Z.heap "java/lang/String" "COMPACT_STRINGS" "Z" (.int G1)) (P5 : ¬ (G1 = (0 : Int32))) (O4 : Sta Z Z.heap "jdk/internal/util/Preconditions" "SIOOBE_FORMATTER" "Ljava/util/function/BiFunction;" G3) (rG3 : G3.isRef = true) (SO : Sta Z Z.heap "java/lang/Integer" "DigitOnes" "[B" (.ref dO)) (ST : Sta Z Z.heap "java/lang/Integer" "DigitTens" "[B" (.ref dT)) (AO : Arr Z Z.heap dO cO .byte) (AT : Arr Z Z.heap dT cT .byte) (hO : ∀ r : Nat, r < 100 → ¬ (r.toInt32 < 0 ∨ cO.slots.size ≤ r.toInt32.toNatClampNeg) ∧ cO.slots[r.toInt32.toNatClampNeg]? = some (.int (own_d r))) (hT : ∀ r : Nat, r < 100 → ¬ (r.toInt32 < 0 ∨ cT.slots.size ≤ r.toInt32.toNatClampNeg) ∧ cT.slots[r.toInt32.toNatClampNeg]? = some (.int (own_d (r / 10)))) (Od : Old Z n0 h0) :
    MetFree l x (head1 (Jvm.Cond.code x code maxLocals ret :: ws) room_1) (fun a U => a = #[(.int cr), (.long nr), (.int dr)] ∧ Z.Warmed39 U.vm ∧ U.heap = h0) (fun _ _ _ _ _ => True) (fun _ U o U' => ∃ v L, o = .returned v ∧ Q0 Z cr nr dr G1 G3 dO dT cO cT h0 n0 v U'.heap L ∧ FrameEnd U o U' L room_1.cells room_1.slots) := by
  refine MetFree.of_bodySF (plainFor_of_name pn_3) hisR ?_
  intro p e s m args below meth c s₁ Bd hml0 hP hK
  obtain ⟨rfl, hZ, hh⟩ := hP
  have hx := Bd.exec
  have hby := Bd.bytes
  have hml : c.maxLocals = 9 := hml0
  have hown : s.vm.findClass "com/example/vertumnus/vertumnus/interactions/CardinalityExactlyPinLaw" = some m.cls := findClass_of_methodNamed Bd.named
  have hnm := (name_of_methodNamed Bd.named Bd.method).1
  have hlk : meth.locks = false := Bd.notSynchronized
  have hrt := Bd.returns
  have X0 : Stand p l e room_1 s m #[(.int cr), (.long nr), (.int dr)] below meth c s₁ [] 0 0 := Stand.of_body Bd
  have e0 : s₁.heap = h0 := by rw [← hh, Bd.state]; rfl
  have N0 := Fr.nil n0
  show own_Endz p.tables e below (own_EndQ s room_1.cells room_1.slots (Q0 Z cr nr dr G1 G3 dO dT cO cT h0 n0)) (s₁.setTop (entryFrame m #[(.int cr), (.long nr), (.int dr)] maxLocals))
  refine own_cast (ef_0 m cr nr dr) ?_
  refine own_go (b := s₁.setTop (mkF m 1 #[iv cr, .val (.long nr), .second, iv dr, .unset, .unset, .unset, .unset, .unset] [(.int cr)])) (fun t k => XS.iloadN X0.here hx rfl (hb hby at_0) rfl  k) ?_
  refine own_go (b := s₁.setTop (mkF m 3 #[iv cr, .val (.long nr), .second, iv dr, .unset, .unset, .unset, .unset, .unset] [(.int 2147483647), (.int cr)])) (fun t k => X0.ldcInt hx hown (mvT hZ (hw _ (List.mem_of_getElem? (i := 0) rfl))) (g := (mkF m 1 #[iv cr, .val (.long nr), .second, iv dr, .unset, .unset, .unset, .unset, .unset] [(.int cr)])) rfl (hb hby at_1) t k) ?_
  refine own_go (b := s₁.setTop (mkF m 4 #[iv cr, .val (.long nr), .second, iv dr, .unset, .unset, .unset, .unset, .unset] [(.int (cr &&& (2147483647 : Int32)))])) (fun t k => XS.iand X0.here hx rfl (hb hby at_3) rfl k) ?_
  refine own_go (b := s₁.setTop (mkF m 6 #[iv cr, .val (.long nr), .second, iv dr, iv (cr &&& (2147483647 : Int32)), .unset, .unset, .unset, .unset] [])) (fun t k => XS.istore X0.here hx rfl (hb hby at_4) rfl (l' := #[iv cr, .val (.long nr), .second, iv dr, iv (cr &&& (2147483647 : Int32)), .unset, .unset, .unset, .unset]) rfl k) ?_
  obtain ⟨N, hN, hX⟩ := own_mask cr
  rw [hX]
  refine own_go (b := s₁.setTop (mkF m 8 #[iv cr, .val (.long nr), .second, iv dr, iv (N.toInt32), .unset, .unset, .unset, .unset] [(.int (N.toInt32))])) (fun t k => XS.iload X0.here hx rfl (hb hby at_6) rfl  k) ?_
  refine own_go (b := s₁.setTop (mkF m 9 #[iv cr, .val (.long nr), .second, iv dr, iv (N.toInt32), .unset, .unset, .unset, .unset] [(.long ((N.toInt32).toInt64))])) (fun t k => XS.i2l X0.here hx rfl (hb hby at_8) rfl k) ?_
  refine own_go (b := s₁.setTop (mkF m 10 #[iv cr, .val (.long nr), .second, iv dr, iv (N.toInt32), .unset, .unset, .unset, .unset] [(.int dr), (.long ((N.toInt32).toInt64))])) (fun t k => XS.iloadN X0.here hx rfl (hb hby at_9) rfl  k) ?_
  refine own_go (b := s₁.setTop (mkF m 11 #[iv cr, .val (.long nr), .second, iv dr, iv (N.toInt32), .unset, .unset, .unset, .unset] [(.int 3), (.int dr), (.long ((N.toInt32).toInt64))])) (fun t k => XS.iconst X0.here hx rfl (hb hby at_10) k) ?_
  refine own_go (b := s₁.setTop (mkF m 12 #[iv cr, .val (.long nr), .second, iv dr, iv (N.toInt32), .unset, .unset, .unset, .unset] [(.int (dr &&& (3 : Int32))), (.long ((N.toInt32).toInt64))])) (fun t k => XS.iand X0.here hx rfl (hb hby at_11) rfl k) ?_
  refine own_go (b := s₁.setTop (mkF m 13 #[iv cr, .val (.long nr), .second, iv dr, iv (N.toInt32), .unset, .unset, .unset, .unset] [(.int 1), (.int (dr &&& (3 : Int32))), (.long ((N.toInt32).toInt64))])) (fun t k => XS.iconst X0.here hx rfl (hb hby at_12) k) ?_
  refine own_go (b := s₁.setTop (mkF m 14 #[iv cr, .val (.long nr), .second, iv dr, iv (N.toInt32), .unset, .unset, .unset, .unset] [(.int ((dr &&& (3 : Int32)) - (1 : Int32))), (.long ((N.toInt32).toInt64))])) (fun t k => XS.isub X0.here hx rfl (hb hby at_13) rfl k) ?_
  refine own_go (b := s₁.setTop (mkF m 15 #[iv cr, .val (.long nr), .second, iv dr, iv (N.toInt32), .unset, .unset, .unset, .unset] [(.long (((dr &&& (3 : Int32)) - (1 : Int32)).toInt64)), (.long ((N.toInt32).toInt64))])) (fun t k => XS.i2l X0.here hx rfl (hb hby at_14) rfl k) ?_
  refine own_go (b := s₁.setTop (mkF m 16 #[iv cr, .val (.long nr), .second, iv dr, iv (N.toInt32), .unset, .unset, .unset, .unset] [(.long (((N.toInt32).toInt64) + (((dr &&& (3 : Int32)) - (1 : Int32)).toInt64)))])) (fun t k => XS.ladd X0.here hx rfl (hb hby at_15) rfl k) ?_
  refine own_go (b := s₁.setTop (mkF m 18 #[iv cr, .val (.long nr), .second, iv dr, iv (N.toInt32), .val (.long (((N.toInt32).toInt64) + (((dr &&& (3 : Int32)) - (1 : Int32)).toInt64))), .second, .unset, .unset] [])) (fun t k => XS.lstore X0.here hx rfl (hb hby at_16) rfl (l' := #[iv cr, .val (.long nr), .second, iv dr, iv (N.toInt32), .val (.long (((N.toInt32).toInt64) + (((dr &&& (3 : Int32)) - (1 : Int32)).toInt64))), .second, .unset, .unset]) rfl k) ?_
  refine own_go (b := s₁.setTop (mkF m 20 #[iv cr, .val (.long nr), .second, iv dr, iv (N.toInt32), .val (.long (((N.toInt32).toInt64) + (((dr &&& (3 : Int32)) - (1 : Int32)).toInt64))), .second, .unset, .unset] [(.int (N.toInt32))])) (fun t k => XS.iload X0.here hx rfl (hb hby at_18) rfl  k) ?_
  obtain ⟨_, _, ⟨T1, L1, k1, n1⟩, -, X1, ⟨Lc1, hQ1, l1, y1, z1⟩, st1⟩ := Jvm.LawKit.callS X0 hx (y := (⟨"com/example/vertumnus/vertumnus/interactions/Cardinality", "exactly", "(I)Lcom/example/vertumnus/vertumnus/interactions/Cardinality;"⟩ : MethodName)) hown (mvT hZ (hw _ (List.mem_of_getElem? (i := 1) rfl))) (mvT hZ (hw _ (List.mem_of_getElem? (i := 2) rfl))) (mvT hZ (hw _ (List.mem_of_getElem? (i := 3) rfl))) (mvT hZ (hw _ (List.mem_of_getElem? (i := 4) rfl))) (by decide) (backOf (W := 0) (rm1 l Z a0 hw [] (N.toInt32) N G1 dO dT cO cT h0 n0 Z0 rfl hN O2 P5 SO ST AO AT hO hT Od) hZ (hw _ (List.mem_of_getElem? (i := 4) rfl)) (hw _ (List.mem_of_getElem? (i := 3) rfl)) (by decide) (by decide)) (g := (mkF m 20 #[iv cr, .val (.long nr), .second, iv dr, iv (N.toInt32), .val (.long (((N.toInt32).toInt64) + (((dr &&& (3 : Int32)) - (1 : Int32)).toInt64))), .second, .unset, .unset] [(.int (N.toInt32))])) rfl (by rw [hml]; rfl) (argsL := [(.int (N.toInt32))]) (rest := []) (lenOf pd_15 rfl) rfl (by show 2 * 0 + _ ≤ _; exact Nat.le_of_eq rfl) (hb hby at_20) (fun _ _ => ⟨rfl, e0, (by decide : 0 + 3 ≤ _), (by decide : 0 + 17 ≤ _)⟩)
  dsimp only [Pt.U, Pt.locs, Pt.cells, Pt.slots] at X1 l1 y1 z1 st1 hQ1
  subst l1 y1 z1
  obtain ⟨bk, ak, rfl, N1q, K1, gk, Ek, Fmi, Fma, Ftx, hS⟩ := hQ1
  have Zs1 : n0 ≤ T1.heap.size := Nat.le_trans Z0 K1.1
  have N1 := Fr.app N0 N1q
  have Ol1 := Od.keep K1 all0
  refine own_go (b := T1.setTop (mkF m 23 #[iv cr, .val (.long nr), .second, iv dr, iv (N.toInt32), .val (.long (((N.toInt32).toInt64) + (((dr &&& (3 : Int32)) - (1 : Int32)).toInt64))), .second, .unset, .unset] [(.ref bk)])) st1 ?_
  refine own_go (b := T1.setTop (mkF m 25 #[iv cr, .val (.long nr), .second, iv dr, iv (N.toInt32), .val (.long (((N.toInt32).toInt64) + (((dr &&& (3 : Int32)) - (1 : Int32)).toInt64))), .second, rv bk, .unset] [])) (fun t k => XS.astore X1.here hx rfl (hb hby at_23) rfl rfl (l' := #[iv cr, .val (.long nr), .second, iv dr, iv (N.toInt32), .val (.long (((N.toInt32).toInt64) + (((dr &&& (3 : Int32)) - (1 : Int32)).toInt64))), .second, rv bk, .unset]) rfl k) ?_
  refine own_go (b := T1.setTop (mkF m 27 #[iv cr, .val (.long nr), .second, iv dr, iv (N.toInt32), .val (.long (((N.toInt32).toInt64) + (((dr &&& (3 : Int32)) - (1 : Int32)).toInt64))), .second, rv bk, .unset] [(.ref bk)])) (fun t k => XS.aload X1.here hx rfl (hb hby at_25) rfl rfl k) ?_
  obtain ⟨cq2, kq2, q2a, q2b, q2c⟩ := isOf hZ rfl Ek
  obtain ⟨_, _, ⟨T2, L2, k2, n2⟩, -, X2, ⟨Lc2, hQ2, l2, y2, z2⟩, st2⟩ := X1.virtualBack hx (y := (⟨"com/example/vertumnus/vertumnus/interactions/Cardinality", "hasUpperLimit", "()Z"⟩ : MethodName)) (z := (⟨"com/example/vertumnus/vertumnus/interactions/Cardinality", "hasUpperLimit", "()Z"⟩ : MethodName)) hown (mvT hZ (hw _ (List.mem_of_getElem? (i := 44) rfl))) (mvT hZ (hw _ (List.mem_of_getElem? (i := 45) rfl))) (notFace_of_selects (args := #[]) (mvT hZ (hw _ (List.mem_of_getElem? (i := 47) rfl)))) (mvT hZ (hw _ (List.mem_of_getElem? (i := 47) rfl))) (mvT hZ (hw _ (List.mem_of_getElem? (i := 46) rfl))) (by decide) (backOf (W := 0) (rm8 l Z a0 hw [] bk N T1.heap n0 Zs1 Fma) hZ (hw _ (List.mem_of_getElem? (i := 48) rfl)) (hw _ (List.mem_of_getElem? (i := 3) rfl)) (by decide) (by decide)) q2a q2c (g := (mkF m 27 #[iv cr, .val (.long nr), .second, iv dr, iv (N.toInt32), .val (.long (((N.toInt32).toInt64) + (((dr &&& (3 : Int32)) - (1 : Int32)).toInt64))), .second, rv bk, .unset] [(.ref bk)])) rfl (by rw [hml]; rfl) (Steps.refl _) (argsL := []) (rest := []) (lenOf pd_10 rfl) rfl (by show 2 * 0 + _ ≤ _; exact Nat.le_of_eq rfl) (hb hby at_27) (fun _ _ => ⟨rfl, rfl, (by decide : 3 + 0 ≤ _), (by decide : 17 + 0 ≤ _)⟩)
  dsimp only [Pt.U, Pt.locs, Pt.cells, Pt.slots] at X2 l2 y2 z2 st2 hQ2
  subst l2 y2 z2
  obtain ⟨rfl, N2q, e2⟩ := hQ2
  have N2 := Fr.app N1 N2q
  refine own_tr (b := T2.setTop (mkF m 30 #[iv cr, .val (.long nr), .second, iv dr, iv (N.toInt32), .val (.long (((N.toInt32).toInt64) + (((dr &&& (3 : Int32)) - (1 : Int32)).toInt64))), .second, rv bk, .unset] [(.int 1)])) st2 ?_
  refine own_go (b := T2.setTop (mkF m 33 #[iv cr, .val (.long nr), .second, iv dr, iv (N.toInt32), .val (.long (((N.toInt32).toInt64) + (((dr &&& (3 : Int32)) - (1 : Int32)).toInt64))), .second, rv bk, .unset] [])) (fun t k => XS.ifNo X2.here hx rfl (hb hby at_30) rfl ((if0 _ _).trans (feq (by decide : ¬ ((1 : Int32) = (0 : Int32)))).1) k) ?_
  refine own_go (b := T2.setTop (mkF m 35 #[iv cr, .val (.long nr), .second, iv dr, iv (N.toInt32), .val (.long (((N.toInt32).toInt64) + (((dr &&& (3 : Int32)) - (1 : Int32)).toInt64))), .second, rv bk, .unset] [(.ref bk)])) (fun t k => XS.aload X2.here hx rfl (hb hby at_33) rfl rfl k) ?_
  obtain ⟨cq3, kq3, q3a, q3b, q3c⟩ := isOf hZ e2 Ek
  obtain ⟨_, _, ⟨T3, L3, k3, n3⟩, -, X3, ⟨Lc3, hQ3, l3, y3, z3⟩, st3⟩ := X2.virtualBack hx (y := (⟨"com/example/vertumnus/vertumnus/interactions/Cardinality", "hasLowerLimit", "()Z"⟩ : MethodName)) (z := (⟨"com/example/vertumnus/vertumnus/interactions/Cardinality", "hasLowerLimit", "()Z"⟩ : MethodName)) hown (mvT hZ (hw _ (List.mem_of_getElem? (i := 50) rfl))) (mvT hZ (hw _ (List.mem_of_getElem? (i := 51) rfl))) (notFace_of_selects (args := #[]) (mvT hZ (hw _ (List.mem_of_getElem? (i := 53) rfl)))) (mvT hZ (hw _ (List.mem_of_getElem? (i := 53) rfl))) (mvT hZ (hw _ (List.mem_of_getElem? (i := 52) rfl))) (by decide) (backOf (W := 0) (rm9 l Z a0 hw [] bk N T1.heap n0 Zs1 Fmi) hZ (hw _ (List.mem_of_getElem? (i := 54) rfl)) (hw _ (List.mem_of_getElem? (i := 3) rfl)) (by decide) (by decide)) q3a q3c (g := (mkF m 35 #[iv cr, .val (.long nr), .second, iv dr, iv (N.toInt32), .val (.long (((N.toInt32).toInt64) + (((dr &&& (3 : Int32)) - (1 : Int32)).toInt64))), .second, rv bk, .unset] [(.ref bk)])) rfl (by rw [hml]; rfl) (Steps.refl _) (argsL := []) (rest := []) (lenOf pd_10 rfl) rfl (by show 2 * 0 + _ ≤ _; exact Nat.le_of_eq rfl) (hb hby at_35) (fun _ _ => ⟨rfl, e2, (by decide : 3 + 0 ≤ _), (by decide : 17 + 0 ≤ _)⟩)
  dsimp only [Pt.U, Pt.locs, Pt.cells, Pt.slots] at X3 l3 y3 z3 st3 hQ3
  subst l3 y3 z3
  obtain ⟨rfl, N3q, e3⟩ := hQ3
  have N3 := Fr.app N2 N3q
  refine own_tr (b := T3.setTop (mkF m 38 #[iv cr, .val (.long nr), .second, iv dr, iv (N.toInt32), .val (.long (((N.toInt32).toInt64) + (((dr &&& (3 : Int32)) - (1 : Int32)).toInt64))), .second, rv bk, .unset] [(.int (if (0 : Int32) < N.toInt32 then 1 else 0))])) st3 ?_
  refine own_go (b := T3.setTop (mkF m 40 #[iv cr, .val (.long nr), .second, iv dr, iv (N.toInt32), .val (.long (((N.toInt32).toInt64) + (((dr &&& (3 : Int32)) - (1 : Int32)).toInt64))), .second, rv bk, .unset] [(.int (N.toInt32)), (.int (if (0 : Int32) < N.toInt32 then 1 else 0))])) (fun t k => XS.iload X3.here hx rfl (hb hby at_38) rfl  k) ?_
  by_cases hc4 : (0 : Int32) < (N.toInt32)
  · refine own_go (b := T3.setTop (mkF m 43 #[iv cr, .val (.long nr), .second, iv dr, iv (N.toInt32), .val (.long (((N.toInt32).toInt64) + (((dr &&& (3 : Int32)) - (1 : Int32)).toInt64))), .second, rv bk, .unset] [(.int (if (0 : Int32) < N.toInt32 then 1 else 0))])) (fun t k => XS.ifNo X3.here hx rfl (hb hby at_40) rfl ((if0 _ _).trans (tlt hc4).2.2.2) k) ?_
    refine own_go (b := T3.setTop (mkF m 44 #[iv cr, .val (.long nr), .second, iv dr, iv (N.toInt32), .val (.long (((N.toInt32).toInt64) + (((dr &&& (3 : Int32)) - (1 : Int32)).toInt64))), .second, rv bk, .unset] [(.int 1), (.int (if (0 : Int32) < N.toInt32 then 1 else 0))])) (fun t k => XS.iconst X3.here hx rfl (hb hby at_43) k) ?_
    refine own_go (b := T3.setTop (mkF m 48 #[iv cr, .val (.long nr), .second, iv dr, iv (N.toInt32), .val (.long (((N.toInt32).toInt64) + (((dr &&& (3 : Int32)) - (1 : Int32)).toInt64))), .second, rv bk, .unset] [(.int 1), (.int (if (0 : Int32) < N.toInt32 then 1 else 0))])) (fun t k => XS.goto X3.here hx rfl (pc0 := 44) (pc' := 48) rfl (hb hby at_44) (by decide) (by decide) k) ?_
    have hq48 : (if (0 : Int32) < N.toInt32 then 1 else 0) = (1 : Int32) := if_pos hc4
    refine own_go (b := T3.setTop (mkF m 51 #[iv cr, .val (.long nr), .second, iv dr, iv (N.toInt32), .val (.long (((N.toInt32).toInt64) + (((dr &&& (3 : Int32)) - (1 : Int32)).toInt64))), .second, rv bk, .unset] [])) (fun t k => XS.icmpNo X3.here hx rfl (hb hby at_48) rfl (teq hq48).2 k) ?_
    refine own_go (b := T3.setTop (mkF m 52 #[iv cr, .val (.long nr), .second, iv dr, iv (N.toInt32), .val (.long (((N.toInt32).toInt64) + (((dr &&& (3 : Int32)) - (1 : Int32)).toInt64))), .second, rv bk, .unset] [(.int 1)])) (fun t k => XS.iconst X3.here hx rfl (hb hby at_51) k) ?_
    refine own_go (b := T3.setTop (mkF m 56 #[iv cr, .val (.long nr), .second, iv dr, iv (N.toInt32), .val (.long (((N.toInt32).toInt64) + (((dr &&& (3 : Int32)) - (1 : Int32)).toInt64))), .second, rv bk, .unset] [(.int 1)])) (fun t k => XS.goto X3.here hx rfl (pc0 := 52) (pc' := 56) rfl (hb hby at_52) (by decide) (by decide) k) ?_
    refine own_go (b := T3.setTop (mkF m 58 #[iv cr, .val (.long nr), .second, iv dr, iv (N.toInt32), .val (.long (((N.toInt32).toInt64) + (((dr &&& (3 : Int32)) - (1 : Int32)).toInt64))), .second, rv bk, iv 1] [])) (fun t k => XS.istore X3.here hx rfl (hb hby at_56) rfl (l' := #[iv cr, .val (.long nr), .second, iv dr, iv (N.toInt32), .val (.long (((N.toInt32).toInt64) + (((dr &&& (3 : Int32)) - (1 : Int32)).toInt64))), .second, rv bk, iv 1]) rfl k) ?_
    refine own_go (b := T3.setTop (mkF m 60 #[iv cr, .val (.long nr), .second, iv dr, iv (N.toInt32), .val (.long (((N.toInt32).toInt64) + (((dr &&& (3 : Int32)) - (1 : Int32)).toInt64))), .second, rv bk, iv 1] [(.int 1)])) (fun t k => XS.iload X3.here hx rfl (hb hby at_58) rfl  k) ?_
    refine own_go (b := T3.setTop (mkF m 63 #[iv cr, .val (.long nr), .second, iv dr, iv (N.toInt32), .val (.long (((N.toInt32).toInt64) + (((dr &&& (3 : Int32)) - (1 : Int32)).toInt64))), .second, rv bk, iv 1] [])) (fun t k => XS.ifNo X3.here hx rfl (hb hby at_60) rfl ((if0 _ _).trans (feq (by decide : ¬ ((1 : Int32) = (0 : Int32)))).1) k) ?_
    refine own_go (b := T3.setTop (mkF m 65 #[iv cr, .val (.long nr), .second, iv dr, iv (N.toInt32), .val (.long (((N.toInt32).toInt64) + (((dr &&& (3 : Int32)) - (1 : Int32)).toInt64))), .second, rv bk, iv 1] [(.ref bk)])) (fun t k => XS.aload X3.here hx rfl (hb hby at_63) rfl rfl k) ?_
    refine own_go (b := T3.setTop (mkF m 67 #[iv cr, .val (.long nr), .second, iv dr, iv (N.toInt32), .val (.long (((N.toInt32).toInt64) + (((dr &&& (3 : Int32)) - (1 : Int32)).toInt64))), .second, rv bk, iv 1] [(.int (N.toInt32)), (.ref bk)])) (fun t k => XS.iload X3.here hx rfl (hb hby at_65) rfl  k) ?_
    refine own_go (b := T3.setTop (mkF m 68 #[iv cr, .val (.long nr), .second, iv dr, iv (N.toInt32), .val (.long (((N.toInt32).toInt64) + (((dr &&& (3 : Int32)) - (1 : Int32)).toInt64))), .second, rv bk, iv 1] [(.long nr), (.int (N.toInt32)), (.ref bk)])) (fun t k => XS.lloadN X3.here hx rfl (hb hby at_67) rfl  k) ?_
    obtain ⟨_, _, ⟨T5, L5, k5, n5⟩, -, X5, ⟨Lc5, hQ5, l5, y5, z5⟩, st5⟩ := Jvm.LawKit.callS X3 hx (y := (⟨"com/example/vertumnus/vertumnus/interactions/CardinalityExactlyPinLaw", "observe", "(Lcom/example/vertumnus/vertumnus/interactions/Cardinality;IJ)Z"⟩ : MethodName)) hown (mvT hZ (hw _ (List.mem_of_getElem? (i := 55) rfl))) (mvT hZ (hw _ (List.mem_of_getElem? (i := 56) rfl))) (mvT hZ (hw _ (List.mem_of_getElem? (i := 57) rfl))) (mvT hZ (hw _ (List.mem_of_getElem? (i := 58) rfl))) (by decide) (backOf (W := 0) (rm10 l Z a0 hw [] bk (N.toInt32) nr N T1.heap n0 Zs1 rfl Ek Fmi Fma) hZ (hw _ (List.mem_of_getElem? (i := 58) rfl)) (hw _ (List.mem_of_getElem? (i := 57) rfl)) (by decide) (by decide)) (g := (mkF m 68 #[iv cr, .val (.long nr), .second, iv dr, iv (N.toInt32), .val (.long (((N.toInt32).toInt64) + (((dr &&& (3 : Int32)) - (1 : Int32)).toInt64))), .second, rv bk, iv 1] [(.long nr), (.int (N.toInt32)), (.ref bk)])) rfl (by rw [hml]; rfl) (argsL := [(.ref bk), (.int (N.toInt32)), (.long nr)]) (rest := []) (lenOf pd_16 rfl) rfl (by show 2 * 0 + _ ≤ _; exact Nat.le_of_eq rfl) (hb hby at_68) (fun _ _ => ⟨rfl, e3, (by decide : 3 + 0 ≤ _), (by decide : 17 + 0 ≤ _)⟩)
    dsimp only [Pt.U, Pt.locs, Pt.cells, Pt.slots] at X5 l5 y5 z5 st5 hQ5
    subst l5 y5 z5
    obtain ⟨rfl, N5q, e5⟩ := hQ5
    have N5 := Fr.app N3 N5q
    refine own_go (b := T5.setTop (mkF m 71 #[iv cr, .val (.long nr), .second, iv dr, iv (N.toInt32), .val (.long (((N.toInt32).toInt64) + (((dr &&& (3 : Int32)) - (1 : Int32)).toInt64))), .second, rv bk, iv 1] [(.int 1)])) st5 ?_
    refine own_go (b := T5.setTop (mkF m 74 #[iv cr, .val (.long nr), .second, iv dr, iv (N.toInt32), .val (.long (((N.toInt32).toInt64) + (((dr &&& (3 : Int32)) - (1 : Int32)).toInt64))), .second, rv bk, iv 1] [])) (fun t k => XS.ifNo X5.here hx rfl (hb hby at_71) rfl ((if0 _ _).trans (feq (by decide : ¬ ((1 : Int32) = (0 : Int32)))).1) k) ?_
    refine own_go (b := T5.setTop (mkF m 76 #[iv cr, .val (.long nr), .second, iv dr, iv (N.toInt32), .val (.long (((N.toInt32).toInt64) + (((dr &&& (3 : Int32)) - (1 : Int32)).toInt64))), .second, rv bk, iv 1] [(.ref bk)])) (fun t k => XS.aload X5.here hx rfl (hb hby at_74) rfl rfl k) ?_
    refine own_go (b := T5.setTop (mkF m 78 #[iv cr, .val (.long nr), .second, iv dr, iv (N.toInt32), .val (.long (((N.toInt32).toInt64) + (((dr &&& (3 : Int32)) - (1 : Int32)).toInt64))), .second, rv bk, iv 1] [(.int (N.toInt32)), (.ref bk)])) (fun t k => XS.iload X5.here hx rfl (hb hby at_76) rfl  k) ?_
    refine own_go (b := T5.setTop (mkF m 80 #[iv cr, .val (.long nr), .second, iv dr, iv (N.toInt32), .val (.long (((N.toInt32).toInt64) + (((dr &&& (3 : Int32)) - (1 : Int32)).toInt64))), .second, rv bk, iv 1] [(.long (((N.toInt32).toInt64) + (((dr &&& (3 : Int32)) - (1 : Int32)).toInt64))), (.int (N.toInt32)), (.ref bk)])) (fun t k => XS.lload X5.here hx rfl (hb hby at_78) rfl  k) ?_
    obtain ⟨_, _, ⟨T6, L6, k6, n6⟩, -, X6, ⟨Lc6, hQ6, l6, y6, z6⟩, st6⟩ := Jvm.LawKit.callS X5 hx (y := (⟨"com/example/vertumnus/vertumnus/interactions/CardinalityExactlyPinLaw", "observe", "(Lcom/example/vertumnus/vertumnus/interactions/Cardinality;IJ)Z"⟩ : MethodName)) hown (mvT hZ (hw _ (List.mem_of_getElem? (i := 55) rfl))) (mvT hZ (hw _ (List.mem_of_getElem? (i := 56) rfl))) (mvT hZ (hw _ (List.mem_of_getElem? (i := 57) rfl))) (mvT hZ (hw _ (List.mem_of_getElem? (i := 58) rfl))) (by decide) (backOf (W := 0) (rm10 l Z a0 hw [] bk (N.toInt32) (((N.toInt32).toInt64) + (((dr &&& (3 : Int32)) - (1 : Int32)).toInt64)) N T1.heap n0 Zs1 rfl Ek Fmi Fma) hZ (hw _ (List.mem_of_getElem? (i := 58) rfl)) (hw _ (List.mem_of_getElem? (i := 57) rfl)) (by decide) (by decide)) (g := (mkF m 80 #[iv cr, .val (.long nr), .second, iv dr, iv (N.toInt32), .val (.long (((N.toInt32).toInt64) + (((dr &&& (3 : Int32)) - (1 : Int32)).toInt64))), .second, rv bk, iv 1] [(.long (((N.toInt32).toInt64) + (((dr &&& (3 : Int32)) - (1 : Int32)).toInt64))), (.int (N.toInt32)), (.ref bk)])) rfl (by rw [hml]; rfl) (argsL := [(.ref bk), (.int (N.toInt32)), (.long (((N.toInt32).toInt64) + (((dr &&& (3 : Int32)) - (1 : Int32)).toInt64)))]) (rest := []) (lenOf pd_16 rfl) rfl (by show 2 * 0 + _ ≤ _; exact Nat.le_of_eq rfl) (hb hby at_80) (fun _ _ => ⟨rfl, e5, (by decide : 3 + 0 ≤ _), (by decide : 17 + 0 ≤ _)⟩)
    dsimp only [Pt.U, Pt.locs, Pt.cells, Pt.slots] at X6 l6 y6 z6 st6 hQ6
    subst l6 y6 z6
    obtain ⟨rfl, N6q, e6⟩ := hQ6
    have N6 := Fr.app N5 N6q
    refine own_go (b := T6.setTop (mkF m 83 #[iv cr, .val (.long nr), .second, iv dr, iv (N.toInt32), .val (.long (((N.toInt32).toInt64) + (((dr &&& (3 : Int32)) - (1 : Int32)).toInt64))), .second, rv bk, iv 1] [(.int 1)])) st6 ?_
    refine own_go (b := T6.setTop (mkF m 86 #[iv cr, .val (.long nr), .second, iv dr, iv (N.toInt32), .val (.long (((N.toInt32).toInt64) + (((dr &&& (3 : Int32)) - (1 : Int32)).toInt64))), .second, rv bk, iv 1] [])) (fun t k => XS.ifNo X6.here hx rfl (hb hby at_83) rfl ((if0 _ _).trans (feq (by decide : ¬ ((1 : Int32) = (0 : Int32)))).1) k) ?_
    refine own_go (b := T6.setTop (mkF m 87 #[iv cr, .val (.long nr), .second, iv dr, iv (N.toInt32), .val (.long (((N.toInt32).toInt64) + (((dr &&& (3 : Int32)) - (1 : Int32)).toInt64))), .second, rv bk, iv 1] [(.int 1)])) (fun t k => XS.iconst X6.here hx rfl (hb hby at_86) k) ?_
    refine own_go (b := T6.setTop (mkF m 91 #[iv cr, .val (.long nr), .second, iv dr, iv (N.toInt32), .val (.long (((N.toInt32).toInt64) + (((dr &&& (3 : Int32)) - (1 : Int32)).toInt64))), .second, rv bk, iv 1] [(.int 1)])) (fun t k => XS.goto X6.here hx rfl (pc0 := 87) (pc' := 91) rfl (hb hby at_87) (by decide) (by decide) k) ?_
    refine own_go (b := T6.setTop (mkF m 93 #[iv cr, .val (.long nr), .second, iv dr, iv (N.toInt32), .val (.long (((N.toInt32).toInt64) + (((dr &&& (3 : Int32)) - (1 : Int32)).toInt64))), .second, rv bk, iv 1] [])) (fun t k => XS.istore X6.here hx rfl (hb hby at_91) rfl (l' := #[iv cr, .val (.long nr), .second, iv dr, iv (N.toInt32), .val (.long (((N.toInt32).toInt64) + (((dr &&& (3 : Int32)) - (1 : Int32)).toInt64))), .second, rv bk, iv 1]) rfl k) ?_
    refine own_go (b := T6.setTop (mkF m 95 #[iv cr, .val (.long nr), .second, iv dr, iv (N.toInt32), .val (.long (((N.toInt32).toInt64) + (((dr &&& (3 : Int32)) - (1 : Int32)).toInt64))), .second, rv bk, iv 1] [(.int 1)])) (fun t k => XS.iload X6.here hx rfl (hb hby at_93) rfl  k) ?_
    refine own_go (b := T6.setTop (mkF m 98 #[iv cr, .val (.long nr), .second, iv dr, iv (N.toInt32), .val (.long (((N.toInt32).toInt64) + (((dr &&& (3 : Int32)) - (1 : Int32)).toInt64))), .second, rv bk, iv 1] [])) (fun t k => XS.ifNo X6.here hx rfl (hb hby at_95) rfl ((if0 _ _).trans (feq (by decide : ¬ ((1 : Int32) = (0 : Int32)))).1) k) ?_
    refine own_go (b := T6.setTop (mkF m 100 #[iv cr, .val (.long nr), .second, iv dr, iv (N.toInt32), .val (.long (((N.toInt32).toInt64) + (((dr &&& (3 : Int32)) - (1 : Int32)).toInt64))), .second, rv bk, iv 1] [(.ref bk)])) (fun t k => XS.aload X6.here hx rfl (hb hby at_98) rfl rfl k) ?_
    obtain ⟨cq7, kq7, q7a, q7b, q7c⟩ := isOf hZ e6 Ek
    obtain ⟨_, _, ⟨T7, L7, k7, n7⟩, -, X7, ⟨Lc7, hQ7, l7, y7, z7⟩, st7⟩ := X6.virtualBack hx (y := (⟨"com/example/vertumnus/vertumnus/interactions/Cardinality", "toString", "()Ljava/lang/String;"⟩ : MethodName)) (z := (⟨"com/example/vertumnus/vertumnus/interactions/Cardinality", "toString", "()Ljava/lang/String;"⟩ : MethodName)) hown (mvT hZ (hw _ (List.mem_of_getElem? (i := 74) rfl))) (mvT hZ (hw _ (List.mem_of_getElem? (i := 75) rfl))) (notFace_of_selects (args := #[]) (mvT hZ (hw _ (List.mem_of_getElem? (i := 77) rfl)))) (mvT hZ (hw _ (List.mem_of_getElem? (i := 77) rfl))) (mvT hZ (hw _ (List.mem_of_getElem? (i := 76) rfl))) (by decide) (backOf (W := 0) (rm14 l Z a0 hw [] bk ak T1.heap n0 Zs1 Ftx) hZ (hw _ (List.mem_of_getElem? (i := 78) rfl)) (hw _ (List.mem_of_getElem? (i := 3) rfl)) (by decide) (by decide)) q7a q7c (g := (mkF m 100 #[iv cr, .val (.long nr), .second, iv dr, iv (N.toInt32), .val (.long (((N.toInt32).toInt64) + (((dr &&& (3 : Int32)) - (1 : Int32)).toInt64))), .second, rv bk, iv 1] [(.ref bk)])) rfl (by rw [hml]; rfl) (Steps.refl _) (argsL := []) (rest := []) (lenOf pd_17 rfl) rfl (by show 2 * 0 + _ ≤ _; exact Nat.le_of_eq rfl) (hb hby at_100) (fun _ _ => ⟨rfl, e6, (by decide : 3 + 0 ≤ _), (by decide : 17 + 0 ≤ _)⟩)
    dsimp only [Pt.U, Pt.locs, Pt.cells, Pt.slots] at X7 l7 y7 z7 st7 hQ7
    subst l7 y7 z7
    obtain ⟨rfl, N7q, e7⟩ := hQ7
    have N7 := Fr.app N6 N7q
    refine own_tr (b := T7.setTop (mkF m 103 #[iv cr, .val (.long nr), .second, iv dr, iv (N.toInt32), .val (.long (((N.toInt32).toInt64) + (((dr &&& (3 : Int32)) - (1 : Int32)).toInt64))), .second, rv bk, iv 1] [(.ref ak)])) st7 ?_
    refine own_go (b := T7.setTop (mkF m 105 #[iv cr, .val (.long nr), .second, iv dr, iv (N.toInt32), .val (.long (((N.toInt32).toInt64) + (((dr &&& (3 : Int32)) - (1 : Int32)).toInt64))), .second, rv bk, iv 1] [(.int (N.toInt32)), (.ref ak)])) (fun t k => XS.iload X7.here hx rfl (hb hby at_103) rfl  k) ?_
    obtain ⟨_, _, ⟨T8, L8, k8, n8⟩, -, X8, ⟨Lc8, hQ8, l8, y8, z8⟩, st8⟩ := Jvm.LawKit.callS X7 hx (y := (⟨"com/example/vertumnus/vertumnus/interactions/CardinalityExactlyPinLaw", "textOk", "(Ljava/lang/String;I)Z"⟩ : MethodName)) hown (mvT hZ (hw _ (List.mem_of_getElem? (i := 79) rfl))) (mvT hZ (hw _ (List.mem_of_getElem? (i := 80) rfl))) (mvT hZ (hw _ (List.mem_of_getElem? (i := 57) rfl))) (mvT hZ (hw _ (List.mem_of_getElem? (i := 81) rfl))) (by decide) (backOf (W := 0) (rm15 l Z a0 hw [] ak (N.toInt32) N G1 G3 T1.heap n0 Zs1 hS rfl hN O2 P5 O4 rG3 Ol1) hZ (hw _ (List.mem_of_getElem? (i := 81) rfl)) (hw _ (List.mem_of_getElem? (i := 57) rfl)) (by decide) (by decide)) (g := (mkF m 105 #[iv cr, .val (.long nr), .second, iv dr, iv (N.toInt32), .val (.long (((N.toInt32).toInt64) + (((dr &&& (3 : Int32)) - (1 : Int32)).toInt64))), .second, rv bk, iv 1] [(.int (N.toInt32)), (.ref ak)])) rfl (by rw [hml]; rfl) (argsL := [(.ref ak), (.int (N.toInt32))]) (rest := []) (lenOf pd_18 rfl) rfl (by show 2 * 0 + _ ≤ _; exact Nat.le_of_eq rfl) (hb hby at_105) (fun _ _ => ⟨rfl, e7, (by decide : 3 + 0 ≤ _), (by decide : 17 + 0 ≤ _)⟩)
    dsimp only [Pt.U, Pt.locs, Pt.cells, Pt.slots] at X8 l8 y8 z8 st8 hQ8
    subst l8 y8 z8
    obtain ⟨rfl, N8q, e8⟩ := hQ8
    have N8 := Fr.app N7 N8q
    refine own_go (b := T8.setTop (mkF m 108 #[iv cr, .val (.long nr), .second, iv dr, iv (N.toInt32), .val (.long (((N.toInt32).toInt64) + (((dr &&& (3 : Int32)) - (1 : Int32)).toInt64))), .second, rv bk, iv 1] [(.int 1)])) st8 ?_
    refine own_go (b := T8.setTop (mkF m 111 #[iv cr, .val (.long nr), .second, iv dr, iv (N.toInt32), .val (.long (((N.toInt32).toInt64) + (((dr &&& (3 : Int32)) - (1 : Int32)).toInt64))), .second, rv bk, iv 1] [])) (fun t k => XS.ifNo X8.here hx rfl (hb hby at_108) rfl ((if0 _ _).trans (feq (by decide : ¬ ((1 : Int32) = (0 : Int32)))).1) k) ?_
    refine own_go (b := T8.setTop (mkF m 112 #[iv cr, .val (.long nr), .second, iv dr, iv (N.toInt32), .val (.long (((N.toInt32).toInt64) + (((dr &&& (3 : Int32)) - (1 : Int32)).toInt64))), .second, rv bk, iv 1] [(.int 1)])) (fun t k => XS.iconst X8.here hx rfl (hb hby at_111) k) ?_
    refine own_go (b := T8.setTop (mkF m 116 #[iv cr, .val (.long nr), .second, iv dr, iv (N.toInt32), .val (.long (((N.toInt32).toInt64) + (((dr &&& (3 : Int32)) - (1 : Int32)).toInt64))), .second, rv bk, iv 1] [(.int 1)])) (fun t k => XS.goto X8.here hx rfl (pc0 := 112) (pc' := 116) rfl (hb hby at_112) (by decide) (by decide) k) ?_
    refine own_go (b := T8.setTop (mkF m 118 #[iv cr, .val (.long nr), .second, iv dr, iv (N.toInt32), .val (.long (((N.toInt32).toInt64) + (((dr &&& (3 : Int32)) - (1 : Int32)).toInt64))), .second, rv bk, iv 1] [])) (fun t k => XS.istore X8.here hx rfl (hb hby at_116) rfl (l' := #[iv cr, .val (.long nr), .second, iv dr, iv (N.toInt32), .val (.long (((N.toInt32).toInt64) + (((dr &&& (3 : Int32)) - (1 : Int32)).toInt64))), .second, rv bk, iv 1]) rfl k) ?_
    refine own_go (b := T8.setTop (mkF m 120 #[iv cr, .val (.long nr), .second, iv dr, iv (N.toInt32), .val (.long (((N.toInt32).toInt64) + (((dr &&& (3 : Int32)) - (1 : Int32)).toInt64))), .second, rv bk, iv 1] [(.int 1)])) (fun t k => XS.iload X8.here hx rfl (hb hby at_118) rfl  k) ?_
    exact own_retN X8 hx hlk (t := .boolean) hrt (by simp) (hb hby at_120) (Nat.le_of_ble_eq_true rfl) (Nat.le_of_ble_eq_true rfl) (⟨rfl, N8⟩)
  · refine own_go (b := T3.setTop (mkF m 47 #[iv cr, .val (.long nr), .second, iv dr, iv (N.toInt32), .val (.long (((N.toInt32).toInt64) + (((dr &&& (3 : Int32)) - (1 : Int32)).toInt64))), .second, rv bk, .unset] [(.int (if (0 : Int32) < N.toInt32 then 1 else 0))])) (fun t k => XS.ifYes X3.here hx rfl (pc0 := 40) (pc' := 47) rfl (hb hby at_40) rfl ((if0 _ _).trans (flt hc4).2.2.2) (by decide) (by decide) k) ?_
    refine own_go (b := T3.setTop (mkF m 48 #[iv cr, .val (.long nr), .second, iv dr, iv (N.toInt32), .val (.long (((N.toInt32).toInt64) + (((dr &&& (3 : Int32)) - (1 : Int32)).toInt64))), .second, rv bk, .unset] [(.int 0), (.int (if (0 : Int32) < N.toInt32 then 1 else 0))])) (fun t k => XS.iconst X3.here hx rfl (hb hby at_47) k) ?_
    have hq48 : (if (0 : Int32) < N.toInt32 then 1 else 0) = (0 : Int32) := if_neg hc4
    refine own_go (b := T3.setTop (mkF m 51 #[iv cr, .val (.long nr), .second, iv dr, iv (N.toInt32), .val (.long (((N.toInt32).toInt64) + (((dr &&& (3 : Int32)) - (1 : Int32)).toInt64))), .second, rv bk, .unset] [])) (fun t k => XS.icmpNo X3.here hx rfl (hb hby at_48) rfl (teq hq48).2 k) ?_
    refine own_go (b := T3.setTop (mkF m 52 #[iv cr, .val (.long nr), .second, iv dr, iv (N.toInt32), .val (.long (((N.toInt32).toInt64) + (((dr &&& (3 : Int32)) - (1 : Int32)).toInt64))), .second, rv bk, .unset] [(.int 1)])) (fun t k => XS.iconst X3.here hx rfl (hb hby at_51) k) ?_
    refine own_go (b := T3.setTop (mkF m 56 #[iv cr, .val (.long nr), .second, iv dr, iv (N.toInt32), .val (.long (((N.toInt32).toInt64) + (((dr &&& (3 : Int32)) - (1 : Int32)).toInt64))), .second, rv bk, .unset] [(.int 1)])) (fun t k => XS.goto X3.here hx rfl (pc0 := 52) (pc' := 56) rfl (hb hby at_52) (by decide) (by decide) k) ?_
    refine own_go (b := T3.setTop (mkF m 58 #[iv cr, .val (.long nr), .second, iv dr, iv (N.toInt32), .val (.long (((N.toInt32).toInt64) + (((dr &&& (3 : Int32)) - (1 : Int32)).toInt64))), .second, rv bk, iv 1] [])) (fun t k => XS.istore X3.here hx rfl (hb hby at_56) rfl (l' := #[iv cr, .val (.long nr), .second, iv dr, iv (N.toInt32), .val (.long (((N.toInt32).toInt64) + (((dr &&& (3 : Int32)) - (1 : Int32)).toInt64))), .second, rv bk, iv 1]) rfl k) ?_
    refine own_go (b := T3.setTop (mkF m 60 #[iv cr, .val (.long nr), .second, iv dr, iv (N.toInt32), .val (.long (((N.toInt32).toInt64) + (((dr &&& (3 : Int32)) - (1 : Int32)).toInt64))), .second, rv bk, iv 1] [(.int 1)])) (fun t k => XS.iload X3.here hx rfl (hb hby at_58) rfl  k) ?_
    refine own_go (b := T3.setTop (mkF m 63 #[iv cr, .val (.long nr), .second, iv dr, iv (N.toInt32), .val (.long (((N.toInt32).toInt64) + (((dr &&& (3 : Int32)) - (1 : Int32)).toInt64))), .second, rv bk, iv 1] [])) (fun t k => XS.ifNo X3.here hx rfl (hb hby at_60) rfl ((if0 _ _).trans (feq (by decide : ¬ ((1 : Int32) = (0 : Int32)))).1) k) ?_
    refine own_go (b := T3.setTop (mkF m 65 #[iv cr, .val (.long nr), .second, iv dr, iv (N.toInt32), .val (.long (((N.toInt32).toInt64) + (((dr &&& (3 : Int32)) - (1 : Int32)).toInt64))), .second, rv bk, iv 1] [(.ref bk)])) (fun t k => XS.aload X3.here hx rfl (hb hby at_63) rfl rfl k) ?_
    refine own_go (b := T3.setTop (mkF m 67 #[iv cr, .val (.long nr), .second, iv dr, iv (N.toInt32), .val (.long (((N.toInt32).toInt64) + (((dr &&& (3 : Int32)) - (1 : Int32)).toInt64))), .second, rv bk, iv 1] [(.int (N.toInt32)), (.ref bk)])) (fun t k => XS.iload X3.here hx rfl (hb hby at_65) rfl  k) ?_
    refine own_go (b := T3.setTop (mkF m 68 #[iv cr, .val (.long nr), .second, iv dr, iv (N.toInt32), .val (.long (((N.toInt32).toInt64) + (((dr &&& (3 : Int32)) - (1 : Int32)).toInt64))), .second, rv bk, iv 1] [(.long nr), (.int (N.toInt32)), (.ref bk)])) (fun t k => XS.lloadN X3.here hx rfl (hb hby at_67) rfl  k) ?_
    obtain ⟨_, _, ⟨T9, L9, k9, n9⟩, -, X9, ⟨Lc9, hQ9, l9, y9, z9⟩, st9⟩ := Jvm.LawKit.callS X3 hx (y := (⟨"com/example/vertumnus/vertumnus/interactions/CardinalityExactlyPinLaw", "observe", "(Lcom/example/vertumnus/vertumnus/interactions/Cardinality;IJ)Z"⟩ : MethodName)) hown (mvT hZ (hw _ (List.mem_of_getElem? (i := 55) rfl))) (mvT hZ (hw _ (List.mem_of_getElem? (i := 56) rfl))) (mvT hZ (hw _ (List.mem_of_getElem? (i := 57) rfl))) (mvT hZ (hw _ (List.mem_of_getElem? (i := 58) rfl))) (by decide) (backOf (W := 0) (rm10 l Z a0 hw [] bk (N.toInt32) nr N T1.heap n0 Zs1 rfl Ek Fmi Fma) hZ (hw _ (List.mem_of_getElem? (i := 58) rfl)) (hw _ (List.mem_of_getElem? (i := 57) rfl)) (by decide) (by decide)) (g := (mkF m 68 #[iv cr, .val (.long nr), .second, iv dr, iv (N.toInt32), .val (.long (((N.toInt32).toInt64) + (((dr &&& (3 : Int32)) - (1 : Int32)).toInt64))), .second, rv bk, iv 1] [(.long nr), (.int (N.toInt32)), (.ref bk)])) rfl (by rw [hml]; rfl) (argsL := [(.ref bk), (.int (N.toInt32)), (.long nr)]) (rest := []) (lenOf pd_16 rfl) rfl (by show 2 * 0 + _ ≤ _; exact Nat.le_of_eq rfl) (hb hby at_68) (fun _ _ => ⟨rfl, e3, (by decide : 3 + 0 ≤ _), (by decide : 17 + 0 ≤ _)⟩)
    dsimp only [Pt.U, Pt.locs, Pt.cells, Pt.slots] at X9 l9 y9 z9 st9 hQ9
    subst l9 y9 z9
    obtain ⟨rfl, N9q, e9⟩ := hQ9
    have N9 := Fr.app N3 N9q
    refine own_go (b := T9.setTop (mkF m 71 #[iv cr, .val (.long nr), .second, iv dr, iv (N.toInt32), .val (.long (((N.toInt32).toInt64) + (((dr &&& (3 : Int32)) - (1 : Int32)).toInt64))), .second, rv bk, iv 1] [(.int 1)])) st9 ?_
    refine own_go (b := T9.setTop (mkF m 74 #[iv cr, .val (.long nr), .second, iv dr, iv (N.toInt32), .val (.long (((N.toInt32).toInt64) + (((dr &&& (3 : Int32)) - (1 : Int32)).toInt64))), .second, rv bk, iv 1] [])) (fun t k => XS.ifNo X9.here hx rfl (hb hby at_71) rfl ((if0 _ _).trans (feq (by decide : ¬ ((1 : Int32) = (0 : Int32)))).1) k) ?_
    refine own_go (b := T9.setTop (mkF m 76 #[iv cr, .val (.long nr), .second, iv dr, iv (N.toInt32), .val (.long (((N.toInt32).toInt64) + (((dr &&& (3 : Int32)) - (1 : Int32)).toInt64))), .second, rv bk, iv 1] [(.ref bk)])) (fun t k => XS.aload X9.here hx rfl (hb hby at_74) rfl rfl k) ?_
    refine own_go (b := T9.setTop (mkF m 78 #[iv cr, .val (.long nr), .second, iv dr, iv (N.toInt32), .val (.long (((N.toInt32).toInt64) + (((dr &&& (3 : Int32)) - (1 : Int32)).toInt64))), .second, rv bk, iv 1] [(.int (N.toInt32)), (.ref bk)])) (fun t k => XS.iload X9.here hx rfl (hb hby at_76) rfl  k) ?_
    refine own_go (b := T9.setTop (mkF m 80 #[iv cr, .val (.long nr), .second, iv dr, iv (N.toInt32), .val (.long (((N.toInt32).toInt64) + (((dr &&& (3 : Int32)) - (1 : Int32)).toInt64))), .second, rv bk, iv 1] [(.long (((N.toInt32).toInt64) + (((dr &&& (3 : Int32)) - (1 : Int32)).toInt64))), (.int (N.toInt32)), (.ref bk)])) (fun t k => XS.lload X9.here hx rfl (hb hby at_78) rfl  k) ?_
    obtain ⟨_, _, ⟨T10, L10, k10, n10⟩, -, X10, ⟨Lc10, hQ10, l10, y10, z10⟩, st10⟩ := Jvm.LawKit.callS X9 hx (y := (⟨"com/example/vertumnus/vertumnus/interactions/CardinalityExactlyPinLaw", "observe", "(Lcom/example/vertumnus/vertumnus/interactions/Cardinality;IJ)Z"⟩ : MethodName)) hown (mvT hZ (hw _ (List.mem_of_getElem? (i := 55) rfl))) (mvT hZ (hw _ (List.mem_of_getElem? (i := 56) rfl))) (mvT hZ (hw _ (List.mem_of_getElem? (i := 57) rfl))) (mvT hZ (hw _ (List.mem_of_getElem? (i := 58) rfl))) (by decide) (backOf (W := 0) (rm10 l Z a0 hw [] bk (N.toInt32) (((N.toInt32).toInt64) + (((dr &&& (3 : Int32)) - (1 : Int32)).toInt64)) N T1.heap n0 Zs1 rfl Ek Fmi Fma) hZ (hw _ (List.mem_of_getElem? (i := 58) rfl)) (hw _ (List.mem_of_getElem? (i := 57) rfl)) (by decide) (by decide)) (g := (mkF m 80 #[iv cr, .val (.long nr), .second, iv dr, iv (N.toInt32), .val (.long (((N.toInt32).toInt64) + (((dr &&& (3 : Int32)) - (1 : Int32)).toInt64))), .second, rv bk, iv 1] [(.long (((N.toInt32).toInt64) + (((dr &&& (3 : Int32)) - (1 : Int32)).toInt64))), (.int (N.toInt32)), (.ref bk)])) rfl (by rw [hml]; rfl) (argsL := [(.ref bk), (.int (N.toInt32)), (.long (((N.toInt32).toInt64) + (((dr &&& (3 : Int32)) - (1 : Int32)).toInt64)))]) (rest := []) (lenOf pd_16 rfl) rfl (by show 2 * 0 + _ ≤ _; exact Nat.le_of_eq rfl) (hb hby at_80) (fun _ _ => ⟨rfl, e9, (by decide : 3 + 0 ≤ _), (by decide : 17 + 0 ≤ _)⟩)
    dsimp only [Pt.U, Pt.locs, Pt.cells, Pt.slots] at X10 l10 y10 z10 st10 hQ10
    subst l10 y10 z10
    obtain ⟨rfl, N10q, e10⟩ := hQ10
    have N10 := Fr.app N9 N10q
    refine own_go (b := T10.setTop (mkF m 83 #[iv cr, .val (.long nr), .second, iv dr, iv (N.toInt32), .val (.long (((N.toInt32).toInt64) + (((dr &&& (3 : Int32)) - (1 : Int32)).toInt64))), .second, rv bk, iv 1] [(.int 1)])) st10 ?_
    refine own_go (b := T10.setTop (mkF m 86 #[iv cr, .val (.long nr), .second, iv dr, iv (N.toInt32), .val (.long (((N.toInt32).toInt64) + (((dr &&& (3 : Int32)) - (1 : Int32)).toInt64))), .second, rv bk, iv 1] [])) (fun t k => XS.ifNo X10.here hx rfl (hb hby at_83) rfl ((if0 _ _).trans (feq (by decide : ¬ ((1 : Int32) = (0 : Int32)))).1) k) ?_
    refine own_go (b := T10.setTop (mkF m 87 #[iv cr, .val (.long nr), .second, iv dr, iv (N.toInt32), .val (.long (((N.toInt32).toInt64) + (((dr &&& (3 : Int32)) - (1 : Int32)).toInt64))), .second, rv bk, iv 1] [(.int 1)])) (fun t k => XS.iconst X10.here hx rfl (hb hby at_86) k) ?_
    refine own_go (b := T10.setTop (mkF m 91 #[iv cr, .val (.long nr), .second, iv dr, iv (N.toInt32), .val (.long (((N.toInt32).toInt64) + (((dr &&& (3 : Int32)) - (1 : Int32)).toInt64))), .second, rv bk, iv 1] [(.int 1)])) (fun t k => XS.goto X10.here hx rfl (pc0 := 87) (pc' := 91) rfl (hb hby at_87) (by decide) (by decide) k) ?_
    refine own_go (b := T10.setTop (mkF m 93 #[iv cr, .val (.long nr), .second, iv dr, iv (N.toInt32), .val (.long (((N.toInt32).toInt64) + (((dr &&& (3 : Int32)) - (1 : Int32)).toInt64))), .second, rv bk, iv 1] [])) (fun t k => XS.istore X10.here hx rfl (hb hby at_91) rfl (l' := #[iv cr, .val (.long nr), .second, iv dr, iv (N.toInt32), .val (.long (((N.toInt32).toInt64) + (((dr &&& (3 : Int32)) - (1 : Int32)).toInt64))), .second, rv bk, iv 1]) rfl k) ?_
    refine own_go (b := T10.setTop (mkF m 95 #[iv cr, .val (.long nr), .second, iv dr, iv (N.toInt32), .val (.long (((N.toInt32).toInt64) + (((dr &&& (3 : Int32)) - (1 : Int32)).toInt64))), .second, rv bk, iv 1] [(.int 1)])) (fun t k => XS.iload X10.here hx rfl (hb hby at_93) rfl  k) ?_
    refine own_go (b := T10.setTop (mkF m 98 #[iv cr, .val (.long nr), .second, iv dr, iv (N.toInt32), .val (.long (((N.toInt32).toInt64) + (((dr &&& (3 : Int32)) - (1 : Int32)).toInt64))), .second, rv bk, iv 1] [])) (fun t k => XS.ifNo X10.here hx rfl (hb hby at_95) rfl ((if0 _ _).trans (feq (by decide : ¬ ((1 : Int32) = (0 : Int32)))).1) k) ?_
    refine own_go (b := T10.setTop (mkF m 100 #[iv cr, .val (.long nr), .second, iv dr, iv (N.toInt32), .val (.long (((N.toInt32).toInt64) + (((dr &&& (3 : Int32)) - (1 : Int32)).toInt64))), .second, rv bk, iv 1] [(.ref bk)])) (fun t k => XS.aload X10.here hx rfl (hb hby at_98) rfl rfl k) ?_
    obtain ⟨cq11, kq11, q11a, q11b, q11c⟩ := isOf hZ e10 Ek
    obtain ⟨_, _, ⟨T11, L11, k11, n11⟩, -, X11, ⟨Lc11, hQ11, l11, y11, z11⟩, st11⟩ := X10.virtualBack hx (y := (⟨"com/example/vertumnus/vertumnus/interactions/Cardinality", "toString", "()Ljava/lang/String;"⟩ : MethodName)) (z := (⟨"com/example/vertumnus/vertumnus/interactions/Cardinality", "toString", "()Ljava/lang/String;"⟩ : MethodName)) hown (mvT hZ (hw _ (List.mem_of_getElem? (i := 74) rfl))) (mvT hZ (hw _ (List.mem_of_getElem? (i := 75) rfl))) (notFace_of_selects (args := #[]) (mvT hZ (hw _ (List.mem_of_getElem? (i := 77) rfl)))) (mvT hZ (hw _ (List.mem_of_getElem? (i := 77) rfl))) (mvT hZ (hw _ (List.mem_of_getElem? (i := 76) rfl))) (by decide) (backOf (W := 0) (rm14 l Z a0 hw [] bk ak T1.heap n0 Zs1 Ftx) hZ (hw _ (List.mem_of_getElem? (i := 78) rfl)) (hw _ (List.mem_of_getElem? (i := 3) rfl)) (by decide) (by decide)) q11a q11c (g := (mkF m 100 #[iv cr, .val (.long nr), .second, iv dr, iv (N.toInt32), .val (.long (((N.toInt32).toInt64) + (((dr &&& (3 : Int32)) - (1 : Int32)).toInt64))), .second, rv bk, iv 1] [(.ref bk)])) rfl (by rw [hml]; rfl) (Steps.refl _) (argsL := []) (rest := []) (lenOf pd_17 rfl) rfl (by show 2 * 0 + _ ≤ _; exact Nat.le_of_eq rfl) (hb hby at_100) (fun _ _ => ⟨rfl, e10, (by decide : 3 + 0 ≤ _), (by decide : 17 + 0 ≤ _)⟩)
    dsimp only [Pt.U, Pt.locs, Pt.cells, Pt.slots] at X11 l11 y11 z11 st11 hQ11
    subst l11 y11 z11
    obtain ⟨rfl, N11q, e11⟩ := hQ11
    have N11 := Fr.app N10 N11q
    refine own_tr (b := T11.setTop (mkF m 103 #[iv cr, .val (.long nr), .second, iv dr, iv (N.toInt32), .val (.long (((N.toInt32).toInt64) + (((dr &&& (3 : Int32)) - (1 : Int32)).toInt64))), .second, rv bk, iv 1] [(.ref ak)])) st11 ?_
    refine own_go (b := T11.setTop (mkF m 105 #[iv cr, .val (.long nr), .second, iv dr, iv (N.toInt32), .val (.long (((N.toInt32).toInt64) + (((dr &&& (3 : Int32)) - (1 : Int32)).toInt64))), .second, rv bk, iv 1] [(.int (N.toInt32)), (.ref ak)])) (fun t k => XS.iload X11.here hx rfl (hb hby at_103) rfl  k) ?_
    obtain ⟨_, _, ⟨T12, L12, k12, n12⟩, -, X12, ⟨Lc12, hQ12, l12, y12, z12⟩, st12⟩ := Jvm.LawKit.callS X11 hx (y := (⟨"com/example/vertumnus/vertumnus/interactions/CardinalityExactlyPinLaw", "textOk", "(Ljava/lang/String;I)Z"⟩ : MethodName)) hown (mvT hZ (hw _ (List.mem_of_getElem? (i := 79) rfl))) (mvT hZ (hw _ (List.mem_of_getElem? (i := 80) rfl))) (mvT hZ (hw _ (List.mem_of_getElem? (i := 57) rfl))) (mvT hZ (hw _ (List.mem_of_getElem? (i := 81) rfl))) (by decide) (backOf (W := 0) (rm15 l Z a0 hw [] ak (N.toInt32) N G1 G3 T1.heap n0 Zs1 hS rfl hN O2 P5 O4 rG3 Ol1) hZ (hw _ (List.mem_of_getElem? (i := 81) rfl)) (hw _ (List.mem_of_getElem? (i := 57) rfl)) (by decide) (by decide)) (g := (mkF m 105 #[iv cr, .val (.long nr), .second, iv dr, iv (N.toInt32), .val (.long (((N.toInt32).toInt64) + (((dr &&& (3 : Int32)) - (1 : Int32)).toInt64))), .second, rv bk, iv 1] [(.int (N.toInt32)), (.ref ak)])) rfl (by rw [hml]; rfl) (argsL := [(.ref ak), (.int (N.toInt32))]) (rest := []) (lenOf pd_18 rfl) rfl (by show 2 * 0 + _ ≤ _; exact Nat.le_of_eq rfl) (hb hby at_105) (fun _ _ => ⟨rfl, e11, (by decide : 3 + 0 ≤ _), (by decide : 17 + 0 ≤ _)⟩)
    dsimp only [Pt.U, Pt.locs, Pt.cells, Pt.slots] at X12 l12 y12 z12 st12 hQ12
    subst l12 y12 z12
    obtain ⟨rfl, N12q, e12⟩ := hQ12
    have N12 := Fr.app N11 N12q
    refine own_go (b := T12.setTop (mkF m 108 #[iv cr, .val (.long nr), .second, iv dr, iv (N.toInt32), .val (.long (((N.toInt32).toInt64) + (((dr &&& (3 : Int32)) - (1 : Int32)).toInt64))), .second, rv bk, iv 1] [(.int 1)])) st12 ?_
    refine own_go (b := T12.setTop (mkF m 111 #[iv cr, .val (.long nr), .second, iv dr, iv (N.toInt32), .val (.long (((N.toInt32).toInt64) + (((dr &&& (3 : Int32)) - (1 : Int32)).toInt64))), .second, rv bk, iv 1] [])) (fun t k => XS.ifNo X12.here hx rfl (hb hby at_108) rfl ((if0 _ _).trans (feq (by decide : ¬ ((1 : Int32) = (0 : Int32)))).1) k) ?_
    refine own_go (b := T12.setTop (mkF m 112 #[iv cr, .val (.long nr), .second, iv dr, iv (N.toInt32), .val (.long (((N.toInt32).toInt64) + (((dr &&& (3 : Int32)) - (1 : Int32)).toInt64))), .second, rv bk, iv 1] [(.int 1)])) (fun t k => XS.iconst X12.here hx rfl (hb hby at_111) k) ?_
    refine own_go (b := T12.setTop (mkF m 116 #[iv cr, .val (.long nr), .second, iv dr, iv (N.toInt32), .val (.long (((N.toInt32).toInt64) + (((dr &&& (3 : Int32)) - (1 : Int32)).toInt64))), .second, rv bk, iv 1] [(.int 1)])) (fun t k => XS.goto X12.here hx rfl (pc0 := 112) (pc' := 116) rfl (hb hby at_112) (by decide) (by decide) k) ?_
    refine own_go (b := T12.setTop (mkF m 118 #[iv cr, .val (.long nr), .second, iv dr, iv (N.toInt32), .val (.long (((N.toInt32).toInt64) + (((dr &&& (3 : Int32)) - (1 : Int32)).toInt64))), .second, rv bk, iv 1] [])) (fun t k => XS.istore X12.here hx rfl (hb hby at_116) rfl (l' := #[iv cr, .val (.long nr), .second, iv dr, iv (N.toInt32), .val (.long (((N.toInt32).toInt64) + (((dr &&& (3 : Int32)) - (1 : Int32)).toInt64))), .second, rv bk, iv 1]) rfl k) ?_
    refine own_go (b := T12.setTop (mkF m 120 #[iv cr, .val (.long nr), .second, iv dr, iv (N.toInt32), .val (.long (((N.toInt32).toInt64) + (((dr &&& (3 : Int32)) - (1 : Int32)).toInt64))), .second, rv bk, iv 1] [(.int 1)])) (fun t k => XS.iload X12.here hx rfl (hb hby at_118) rfl  k) ?_
    exact own_retN X12 hx hlk (t := .boolean) hrt (by simp) (hb hby at_120) (Nat.le_of_ble_eq_true rfl) (Nat.le_of_ble_eq_true rfl) (⟨rfl, N12⟩)
set_option maxRecDepth 65536 in
set_option maxHeartbeats 40000000 in
theorem comes_1 {Post : Tables → Env → Array Value → State → Outcome → State → Prop} (hpost : ∀ tb e args s v u, (limb_1_1.after args s (.returned v) u = true ∧ limb_1_2.after args s (.returned v) u = true ∧ True) → FrameEnd s (.returned v) u (Jvm.fieldLocs frame_1_writes args s ++ Jvm.arrayLocs frame_1_arrays args s ++ Jvm.staticLocs frame_1_statics s) 16 128 → Post tb e args s (.returned v) u) :
    ArmFor flags0 classFile x code maxLocals ret World_1 tables_1 room_1 Calls_1 rest_1 Pre_1 Post := by
  intro l hfl _ _ p e ha hc hk s m args below hf hA hF happ hP
  obtain ⟨hcalls, hrest, hpre⟩ := hP
  obtain ⟨-, -, -, hnamed, -, -, -, hat⟩ := (Spec.applies_iff hf).mp happ
  obtain ⟨hg, hn⟩ := and_e (Cond.before_iff.mp (show (Jvm.Cond.and given_1 narrow_1).before args s = true from hpre))
  obtain ⟨g1, g2⟩ := and_e hg
  obtain ⟨g3, g4⟩ := and_e g2
  obtain ⟨g5, g6⟩ := and_e g4
  obtain ⟨w0, w1, w2, rfl⟩ : ∃ w0 w1 w2 : Value, args = #[w0, w1, w2] := by
    have hs : args.size = 3 := by simpa [Cond.value, given_1] using g1
    obtain ⟨L⟩ := args
    match L, hs with
    | [w0, w1, w2], _ => exact ⟨w0, w1, w2, rfl⟩
  have hw := fun d (hd : d ∈ tables_1) => atoms_spec (ws := Jvm.Cond.code x code maxLocals ret :: tables_1) hat d (List.mem_cons_of_mem _ hd)
  have hfit : Fit s := fun {y c} hc i hi => by
    obtain ⟨ha, rfl⟩ := Array.getElem?_eq_some_iff.mp hc
    have q := List.all_eq_true.mp ((Array.all_eq_true_iff_forall_mem.mp hF) _ (Array.getElem_mem ha)) i (List.mem_range.mpr hi)
    simpa [Array.getElem?_eq_getElem hi] using q
  obtain ⟨hsets, hown0⟩ := atoms_of _ (rest_1_c_eq ▸ (show rest_1_c.before _ s = true from hrest))
  have hr0 := Cond.before_iff.mp hown0
  obtain ⟨i0, ei0⟩ := is_v g3
  obtain rfl : w0 = (.int i0) := Option.some.inj ei0
  obtain ⟨i1, ei1⟩ := isL_v g5
  obtain rfl : w1 = (.long i1) := Option.some.inj ei1
  obtain ⟨i2, ei2⟩ := is_v g6
  obtain rfl : w2 = (.int i2) := Option.some.inj ei2
  obtain ⟨G1, eG⟩ := is_v (Cond.before_iff.mp (hsets _ (List.mem_of_getElem? (i := 1) rfl)))
  have O2 := Sta.start eG (Or.inl (hsets _ (List.mem_of_getElem? (i := 0) rfl)))
  have P5 : ¬ (G1 = (0 : Int32)) := gotF (Cond.eq_ints eG (Term.int_eval (0))) (not_v (Cond.before_iff.mp (hsets _ (List.mem_of_getElem? (i := 2) rfl))))
  obtain ⟨G3, e3, rG3⟩ := isR_v (Cond.before_iff.mp (hsets _ (List.mem_of_getElem? (i := 8) rfl)))
  have O4 := Sta.start e3 (Or.inl (hsets _ (List.mem_of_getElem? (i := 7) rfl)))
  obtain ⟨dO, edO⟩ := exa_v (Cond.before_iff.mp (hsets _ (List.mem_of_getElem? (i := 12) rfl)))
  have SO := Sta.start edO (Or.inl (hsets _ (List.mem_of_getElem? (i := 11) rfl)))
  obtain ⟨cO, AO, lO, zO, fO⟩ := own_tab (g := fun i => (48 : Int32) + i.toInt32 % 10) (fun _ => edO) (Cond.before_iff.mp (hsets _ (List.mem_of_getElem? (i := 12) rfl))) (Cond.before_iff.mp (hsets _ (List.mem_of_getElem? (i := 13) rfl))) (Cond.before_iff.mp (hsets _ (List.mem_of_getElem? (i := 14) rfl))) (fun i => rfl) (hw _ (List.mem_of_getElem? (i := 16) rfl))
  have hO := own_tabs (fun r => r) _ (by decide +kernel) lO zO fO
  obtain ⟨dT, edT⟩ := exa_v (Cond.before_iff.mp (hsets _ (List.mem_of_getElem? (i := 17) rfl)))
  have ST := Sta.start edT (Or.inl (hsets _ (List.mem_of_getElem? (i := 16) rfl)))
  obtain ⟨cT, AT, lT, zT, fT⟩ := own_tab (g := fun i => (48 : Int32) + i.toInt32 / 10) (fun _ => edT) (Cond.before_iff.mp (hsets _ (List.mem_of_getElem? (i := 17) rfl))) (Cond.before_iff.mp (hsets _ (List.mem_of_getElem? (i := 18) rfl))) (Cond.before_iff.mp (hsets _ (List.mem_of_getElem? (i := 19) rfl))) (fun i => rfl) (hw _ (List.mem_of_getElem? (i := 16) rfl))
  have hT := own_tabs (fun r => r / 10) _ (by decide +kernel) lT zT fT
  obtain ⟨n, o, h1, h2, h3, _, L, rfl, ⟨rfl, N⟩, hq⟩ := rm0 l s _ hw tables_1 i0 i1 i2 G1 G3 dO dT cO cT s.heap s.heap.size (Nat.le_refl _) O2 P5 O4 rG3 SO ST AO AT hO hT (Old.start s) p e ha hc hk s m _ below hf ((Spec.applies_iff_loose hf).mp happ).1 ⟨rfl, State.Warmed39.refl s, rfl⟩ trivial
  refine ⟨n, _, h1, h2, h3, hpost _ _ _ _ _ _ ⟨Cond.after_iff.mpr rfl, Cond.after_iff.mpr (eq_i res_at (Term.int_eval (1)) rfl), trivial⟩ ⟨hq.1, hq.2.1, (hq.2.2.sift fun y hy => Or.inr (N y hy)).mono (by decide) (by decide)⟩⟩
theorem main_1_1 : Claimed_1_1 := comes_1 fun _ _ _ _ _ _ h hF => ⟨h.1, hF⟩
theorem main_1_2 : Claimed_1_2 := comes_1 fun _ _ _ _ _ _ h hF => ⟨h.2.1, hF⟩
end Jvm.Pilot.@@N@@
namespace Jvm.Pilot.@@N@@
open Jvm Jvm.ClassFile Sem Op Lib Jvm.Free Jvm.Stand Jvm.Pilot.@@N@@.Jvm.D
/-! MADE BY PROGRAM (witnessworld.py) out of the Statement's table words and the real class files: 19 classes; the members and pool entries that the words name. The judged class is class 1, her method 1. -/
namespace start1
open Jvm.ClassFile
def u (s : String) : CpInfo := .utf8 (stringToUtf16 s)
/-- a pool by its gaps: so many unusable entries, then the entry; so many at the end -/
def gap : Nat → List CpInfo → List CpInfo
  | 0, r => r
  | n + 1, r => .unusable :: gap n r
def poolList (es : List (Nat × CpInfo)) (last : Nat) : List CpInfo := es.foldr (fun e r => gap e.1 (e.2 :: r)) (gap last [])
def pool (es : List (Nat × CpInfo)) (last : Nat) : Array CpInfo := ⟨poolList es last⟩
def fileOf (pool : Array CpInfo) (this : Nat) (attrs : Array Attribute := #[]) (ms : Array MethodInfo := #[]) (fl : Nat := 33) (sup : Nat := 0) (ifs : Array Nat := #[]) (fds : Array FieldInfo := #[]) : ClassFile where
  minorVersion := 0
  majorVersion := 65
  constantPool := pool
  accessFlags := fl
  thisClass := this
  superClass := sup
  interfaces := ifs
  fields := fds
  methods := ms
  attributes := attrs
def plain (name : String) (sup : Option ClassId) : Class where
  name := name
  kind := .ordinary
  loader := none
  accessFlags := 33
  super := sup
  interfaces := #[]
  cf := none
  fields := #[]
  methods := #[]
  instanceTypes := #[]
  staticTypes := #[]
  resolved := #[]
  callSites := []
  init := .initialized
  statics := none
  mirror := none

def pool0 : Array CpInfo := pool [(5, u "<init>"), (0, u "()V"), (1, .class_ 10), (1, u "java/lang/Object")] 113

def k0c0 : Code := { maxStack := 0, maxLocals := 1, code := object_method_1_code, exceptionTable := #[], attributes := #[] }
def k0m0 : Method := { name := "<init>", desc := "()V", sig := { parameters := [], returnType := none }, accessFlags := 1, code := some k0c0 }
/-- java/lang/Object -/
def k0 : Class := { plain "java/lang/Object" none with
  accessFlags := 33
  interfaces := #[]
  cf := some (fileOf pool0 8 #[] #[{ accessFlags := 1, nameIndex := 5, descriptorIndex := 6, attributes := #[] }] 33 0 #[] #[])
  fields := #[]
  methods := #[k0m0]
  instanceTypes := #[]
  staticTypes := #[]
  resolved := Array.replicate 124 none
  statics := none }

def pool1 : Array CpInfo := pool [(2, .class_ 4), (1, u "java/lang/Object"), (0, u "<init>"), (0, u "()V"), (0, .integer 2147483647), (0, .methodref 9 10), (0, .class_ 11), (0, .nameAndType 12 13), (0, u "com/example/vertumnus/vertumnus/interactions/Cardinality"), (0, u "exactly"), (0, u "(I)Lcom/example/vertumnus/vertumnus/interactions/Cardinality;"), (0, .methodref 9 15), (0, .nameAndType 16 17), (0, u "hasUpperLimit"), (0, u "()Z"), (0, .methodref 9 19), (0, .nameAndType 20 17), (0, u "hasLowerLimit"), (0, .methodref 22 23), (0, .class_ 24), (0, .nameAndType 25 26), (0, u "com/example/vertumnus/vertumnus/interactions/CardinalityExactlyPinLaw"), (0, u "observe"), (0, u "(Lcom/example/vertumnus/vertumnus/interactions/Cardinality;IJ)Z"), (0, .methodref 9 28), (0, .nameAndType 29 30), (0, u "toString"), (0, u "()Ljava/lang/String;"), (0, .methodref 22 32), (0, .nameAndType 33 34), (0, u "textOk"), (0, u "(Ljava/lang/String;I)Z"), (0, .methodref 9 36), (0, .nameAndType 37 38), (0, u "isSatisfiedBy"), (0, u "(J)Z"), (0, .methodref 9 40), (0, .nameAndType 41 38), (0, u "isExceededBy"), (0, .methodref 9 43), (0, .nameAndType 44 38), (0, u "isReachedBy"), (0, .integer 100000), (0, .integer 1000000), (0, .integer 10000000), (0, .integer 100000000), (0, .integer 1000000000), (0, .methodref 22 51), (0, .nameAndType 52 53), (0, u "digits"), (0, u "(I)I"), (0, .methodref 55 56), (0, .class_ 57), (0, .nameAndType 58 59), (0, u "java/lang/String"), (0, u "length"), (0, u "()I"), (0, .methodref 22 61), (0, .nameAndType 62 63), (0, u "digitOk"), (0, u "(Ljava/lang/String;IIII)Z"), (0, .methodref 55 65), (0, .nameAndType 66 67), (0, u "charAt"), (0, u "(I)C"), (2, u "law"), (0, u "(IJI)Z")] 3

def k1m0 : Method := { name := "<init>", desc := "()V", sig := { parameters := [], returnType := none }, accessFlags := 1, code := none }
def k1c1 : Code := { maxStack := 4, maxLocals := 9, code := code, exceptionTable := #[], attributes := #[] }
def k1m1 : Method := { name := "law", desc := "(IJI)Z", sig := { parameters := [.int, .long, .int], returnType := some .boolean }, accessFlags := 9, code := some k1c1 }
def k1c2 : Code := { maxStack := 5, maxLocals := 6, code := method_3_code, exceptionTable := #[], attributes := #[] }
def k1m2 : Method := { name := "observe", desc := "(Lcom/example/vertumnus/vertumnus/interactions/Cardinality;IJ)Z", sig := { parameters := [(.object "com/example/vertumnus/vertumnus/interactions/Cardinality"), .int, .long], returnType := some .boolean }, accessFlags := 10, code := some k1c2 }
def k1c3 : Code := { maxStack := 2, maxLocals := 1, code := method_4_code, exceptionTable := #[], attributes := #[] }
def k1m3 : Method := { name := "digits", desc := "(I)I", sig := { parameters := [.int], returnType := some .int }, accessFlags := 10, code := some k1c3 }
def k1c4 : Code := { maxStack := 5, maxLocals := 3, code := method_5_code, exceptionTable := #[], attributes := #[] }
def k1m4 : Method := { name := "textOk", desc := "(Ljava/lang/String;I)Z", sig := { parameters := [(.object "java/lang/String"), .int], returnType := some .boolean }, accessFlags := 10, code := some k1c4 }
def k1c5 : Code := { maxStack := 4, maxLocals := 5, code := method_6_code, exceptionTable := #[], attributes := #[] }
def k1m5 : Method := { name := "digitOk", desc := "(Ljava/lang/String;IIII)Z", sig := { parameters := [(.object "java/lang/String"), .int, .int, .int, .int], returnType := some .boolean }, accessFlags := 10, code := some k1c5 }
/-- com/example/vertumnus/vertumnus/interactions/CardinalityExactlyPinLaw -/
def k1 : Class := { plain "com/example/vertumnus/vertumnus/interactions/CardinalityExactlyPinLaw" (some 0) with
  accessFlags := 49
  interfaces := #[]
  cf := some (fileOf pool1 22 #[] #[{ accessFlags := 1, nameIndex := 5, descriptorIndex := 6, attributes := #[] }, { accessFlags := 9, nameIndex := 70, descriptorIndex := 71, attributes := #[] }, { accessFlags := 10, nameIndex := 25, descriptorIndex := 26, attributes := #[] }, { accessFlags := 10, nameIndex := 52, descriptorIndex := 53, attributes := #[] }, { accessFlags := 10, nameIndex := 33, descriptorIndex := 34, attributes := #[] }, { accessFlags := 10, nameIndex := 62, descriptorIndex := 63, attributes := #[] }] 49 2 #[] #[])
  fields := #[]
  methods := #[k1m0, k1m1, k1m2, k1m3, k1m4, k1m5]
  instanceTypes := #[]
  staticTypes := #[]
  resolved := Array.replicate 75 none
  statics := none }

def pool2 : Array CpInfo := pool [(3, .methodref 4 5), (0, .class_ 6), (0, .nameAndType 7 8), (0, u "java/lang/Object"), (0, u "<init>"), (0, u "()V"), (3, .class_ 14), (1, u "com/example/vertumnus/vertumnus/interactions/Cardinality"), (4, .fieldref 12 20), (0, .nameAndType 21 22), (0, u "min"), (0, u "I"), (0, .fieldref 12 24), (0, .nameAndType 25 26), (0, u "max"), (0, u "J"), (0, .fieldref 12 28), (0, .nameAndType 29 30), (0, u "text"), (0, u "Ljava/lang/String;"), (9, .methodref 41 42), (0, .class_ 43), (0, .nameAndType 44 45), (0, u "java/lang/Integer"), (0, u "toString"), (0, u "(I)Ljava/lang/String;"), (0, .methodref 12 47), (0, .nameAndType 7 48), (0, u "(IJLjava/lang/String;)V"), (3, .long 9223372036854775807), (6, u "ANY_NUMBER"), (0, u "Lcom/example/vertumnus/vertumnus/interactions/Cardinality;"), (2, u "UNBOUNDED"), (6, u "exactly"), (0, u "(I)Lcom/example/vertumnus/vertumnus/interactions/Cardinality;"), (6, u "isExceededBy"), (0, u "(J)Z"), (0, u "hasUpperLimit"), (0, u "()Z"), (0, u "hasLowerLimit"), (0, u "isReachedBy"), (0, u "isSatisfiedBy"), (0, u "()Ljava/lang/String;")] 24

def k2c0 : Code := { maxStack := 4, maxLocals := 5, code := prog_44_method_1_code, exceptionTable := #[], attributes := #[] }
def k2m0 : Method := { name := "<init>", desc := "(IJLjava/lang/String;)V", sig := { parameters := [.int, .long, (.object "java/lang/String")], returnType := none }, accessFlags := 2, code := some k2c0 }
def k2c1 : Code := { maxStack := 6, maxLocals := 1, code := prog_44_method_3_code, exceptionTable := #[], attributes := #[] }
def k2m1 : Method := { name := "exactly", desc := "(I)Lcom/example/vertumnus/vertumnus/interactions/Cardinality;", sig := { parameters := [.int], returnType := some (.object "com/example/vertumnus/vertumnus/interactions/Cardinality") }, accessFlags := 9, code := some k2c1 }
def k2c2 : Code := { maxStack := 4, maxLocals := 3, code := prog_44_method_8_code, exceptionTable := #[], attributes := #[] }
def k2m2 : Method := { name := "isExceededBy", desc := "(J)Z", sig := { parameters := [.long], returnType := some .boolean }, accessFlags := 1, code := some k2c2 }
def k2c3 : Code := { maxStack := 4, maxLocals := 1, code := prog_44_method_9_code, exceptionTable := #[], attributes := #[] }
def k2m3 : Method := { name := "hasUpperLimit", desc := "()Z", sig := { parameters := [], returnType := some .boolean }, accessFlags := 1, code := some k2c3 }
def k2c4 : Code := { maxStack := 1, maxLocals := 1, code := prog_44_method_10_code, exceptionTable := #[], attributes := #[] }
def k2m4 : Method := { name := "hasLowerLimit", desc := "()Z", sig := { parameters := [], returnType := some .boolean }, accessFlags := 1, code := some k2c4 }
def k2c5 : Code := { maxStack := 4, maxLocals := 3, code := prog_44_method_11_code, exceptionTable := #[], attributes := #[] }
def k2m5 : Method := { name := "isReachedBy", desc := "(J)Z", sig := { parameters := [.long], returnType := some .boolean }, accessFlags := 1, code := some k2c5 }
def k2c6 : Code := { maxStack := 4, maxLocals := 3, code := prog_44_method_12_code, exceptionTable := #[], attributes := #[] }
def k2m6 : Method := { name := "isSatisfiedBy", desc := "(J)Z", sig := { parameters := [.long], returnType := some .boolean }, accessFlags := 1, code := some k2c6 }
def k2c7 : Code := { maxStack := 1, maxLocals := 1, code := prog_44_method_13_code, exceptionTable := #[], attributes := #[] }
def k2m7 : Method := { name := "toString", desc := "()Ljava/lang/String;", sig := { parameters := [], returnType := some (.object "java/lang/String") }, accessFlags := 1, code := some k2c7 }
/-- com/example/vertumnus/vertumnus/interactions/Cardinality -/
def k2 : Class := { plain "com/example/vertumnus/vertumnus/interactions/Cardinality" (some 0) with
  accessFlags := 33
  interfaces := #[]
  cf := some (fileOf pool2 12 #[] #[{ accessFlags := 2, nameIndex := 7, descriptorIndex := 48, attributes := #[] }, { accessFlags := 9, nameIndex := 70, descriptorIndex := 71, attributes := #[] }, { accessFlags := 1, nameIndex := 78, descriptorIndex := 79, attributes := #[] }, { accessFlags := 1, nameIndex := 80, descriptorIndex := 81, attributes := #[] }, { accessFlags := 1, nameIndex := 82, descriptorIndex := 81, attributes := #[] }, { accessFlags := 1, nameIndex := 83, descriptorIndex := 79, attributes := #[] }, { accessFlags := 1, nameIndex := 84, descriptorIndex := 79, attributes := #[] }, { accessFlags := 1, nameIndex := 44, descriptorIndex := 85, attributes := #[] }] 33 4 #[] #[{ accessFlags := 26, nameIndex := 63, descriptorIndex := 26, attributes := #[] }, { accessFlags := 26, nameIndex := 59, descriptorIndex := 60, attributes := #[] }, { accessFlags := 18, nameIndex := 21, descriptorIndex := 22, attributes := #[] }, { accessFlags := 18, nameIndex := 25, descriptorIndex := 26, attributes := #[] }, { accessFlags := 18, nameIndex := 29, descriptorIndex := 30, attributes := #[] }])
  fields := #[{ name := "UNBOUNDED", type := .long, accessFlags := 26, slot := 0, constantValue := 0 }, { name := "ANY_NUMBER", type := (.object "com/example/vertumnus/vertumnus/interactions/Cardinality"), accessFlags := 26, slot := 1, constantValue := 0 }, { name := "min", type := .int, accessFlags := 18, slot := 0, constantValue := 0 }, { name := "max", type := .long, accessFlags := 18, slot := 1, constantValue := 0 }, { name := "text", type := (.object "java/lang/String"), accessFlags := 18, slot := 2, constantValue := 0 }]
  methods := #[k2m0, k2m1, k2m2, k2m3, k2m4, k2m5, k2m6, k2m7]
  instanceTypes := #[.int, .long, (.object "java/lang/String")]
  staticTypes := #[.long, (.object "com/example/vertumnus/vertumnus/interactions/Cardinality")]
  resolved := Array.replicate 110 none
  statics := none }

def pool3 : Array CpInfo := pool [(1, .class_ 2), (0, u "java/io/Serializable"), (0, .class_ 4), (0, u "java/lang/Object")] 2

/-- java/io/Serializable -/
def k3 : Class := { plain "java/io/Serializable" (some 0) with
  accessFlags := 1537
  interfaces := #[]
  cf := some (fileOf pool3 1 #[] #[] 1537 3 #[] #[])
  fields := #[]
  methods := #[]
  instanceTypes := #[]
  staticTypes := #[]
  resolved := Array.replicate 7 none
  statics := none }

def pool4 : Array CpInfo := pool [(2, .class_ 4), (1, u "java/lang/Object"), (0, u "<init>"), (0, u "()V"), (1, .class_ 10), (1, u "java/lang/Number"), (2, .class_ 14), (0, u "java/io/Serializable"), (0, u "serialVersionUID"), (0, u "J")] 20

def k4m0 : Method := { name := "<init>", desc := "()V", sig := { parameters := [], returnType := none }, accessFlags := 1, code := none }
/-- java/lang/Number -/
def k4 : Class := { plain "java/lang/Number" (some 0) with
  accessFlags := 1057
  interfaces := #[3]
  cf := some (fileOf pool4 8 #[] #[{ accessFlags := 1, nameIndex := 5, descriptorIndex := 6, attributes := #[] }] 1057 2 #[13] #[{ accessFlags := 26, nameIndex := 15, descriptorIndex := 16, attributes := #[] }])
  fields := #[{ name := "serialVersionUID", type := .long, accessFlags := 26, slot := 0, constantValue := 0 }]
  methods := #[k4m0]
  instanceTypes := #[]
  staticTypes := #[.long]
  resolved := Array.replicate 37 none
  statics := none }

def pool5 : Array CpInfo := pool [(1, .class_ 2), (0, u "java/lang/Comparable"), (0, .class_ 4), (0, u "java/lang/Object")] 7

/-- java/lang/Comparable -/
def k5 : Class := { plain "java/lang/Comparable" (some 0) with
  accessFlags := 1537
  interfaces := #[]
  cf := some (fileOf pool5 1 #[] #[] 1537 3 #[] #[])
  fields := #[]
  methods := #[]
  instanceTypes := #[]
  staticTypes := #[]
  resolved := Array.replicate 12 none
  statics := none }

def pool6 : Array CpInfo := pool [(1, .class_ 2), (0, u "java/lang/constant/Constable"), (0, .class_ 4), (0, u "java/lang/Object")] 6

/-- java/lang/constant/Constable -/
def k6 : Class := { plain "java/lang/constant/Constable" (some 0) with
  accessFlags := 1537
  interfaces := #[]
  cf := some (fileOf pool6 1 #[] #[] 1537 3 #[] #[])
  fields := #[]
  methods := #[]
  instanceTypes := #[]
  staticTypes := #[]
  resolved := Array.replicate 11 none
  statics := none }

def pool7 : Array CpInfo := pool [(1, .class_ 2), (0, u "java/lang/constant/ConstantDesc"), (0, .class_ 4), (0, u "java/lang/Object")] 32

/-- java/lang/constant/ConstantDesc -/
def k7 : Class := { plain "java/lang/constant/ConstantDesc" (some 0) with
  accessFlags := 1537
  interfaces := #[]
  cf := some (fileOf pool7 1 #[] #[] 1537 3 #[] #[])
  fields := #[]
  methods := #[]
  instanceTypes := #[]
  staticTypes := #[]
  resolved := Array.replicate 37 none
  statics := none }

def pool8 : Array CpInfo := pool [(1, .class_ 2), (0, u "java/lang/Integer"), (2, .class_ 6), (0, u "java/lang/String"), (4, u "toString"), (0, u "(I)Ljava/lang/String;"), (0, .fieldref 5 14), (0, .nameAndType 15 16), (0, u "COMPACT_STRINGS"), (0, u "Z"), (2, u "digits"), (0, u "[C"), (33, u "(I)I"), (10, .methodref 5 66), (0, .nameAndType 67 68), (0, u "<init>"), (0, u "([BB)V"), (3, .methodref 1 73), (0, .nameAndType 74 54), (0, u "stringSize"), (0, .methodref 1 76), (0, .nameAndType 77 78), (0, u "getChars"), (0, u "(II[B)I"), (4, .fieldref 1 84), (0, .nameAndType 85 86), (0, u "DigitOnes"), (0, u "[B"), (0, .fieldref 1 88), (0, .nameAndType 89 86), (0, u "DigitTens"), (99, .class_ 190), (0, u "java/lang/Integer$IntegerCache"), (3, u "I"), (8, .class_ 204), (0, u "java/lang/Number"), (2, u "value"), (94, u "TYPE"), (0, u "Ljava/lang/Class;"), (0, .class_ 305), (0, u "java/lang/Comparable"), (0, .class_ 307), (0, u "java/lang/constant/Constable"), (0, .class_ 309), (0, u "java/lang/constant/ConstantDesc"), (0, u "MIN_VALUE"), (1, u "MAX_VALUE"), (3, u "SIZE"), (1, u "BYTES"), (1, u "serialVersionUID"), (0, u "J")] 131

def k8c0 : Code := { maxStack := 4, maxLocals := 3, code := jdk_33_method_10_code, exceptionTable := #[], attributes := #[] }
def k8m0 : Method := { name := "toString", desc := "(I)Ljava/lang/String;", sig := { parameters := [.int], returnType := some (.object "java/lang/String") }, accessFlags := 9, code := some k8c0 }
def k8c1 : Code := { maxStack := 4, maxLocals := 7, code := jdk_33_method_12_code, exceptionTable := #[], attributes := #[] }
def k8m1 : Method := { name := "getChars", desc := "(II[B)I", sig := { parameters := [.int, .int, (.array .byte)], returnType := some .int }, accessFlags := 8, code := some k8c1 }
def k8c2 : Code := { maxStack := 2, maxLocals := 4, code := jdk_33_method_13_code, exceptionTable := #[], attributes := #[] }
def k8m2 : Method := { name := "stringSize", desc := "(I)I", sig := { parameters := [.int], returnType := some .int }, accessFlags := 8, code := some k8c2 }
/-- java/lang/Integer -/
def k8 : Class := { plain "java/lang/Integer" (some 4) with
  accessFlags := 49
  interfaces := #[5, 6, 7]
  cf := some (fileOf pool8 1 #[.nestMembers #[189]] #[{ accessFlags := 9, nameIndex := 11, descriptorIndex := 12, attributes := #[] }, { accessFlags := 8, nameIndex := 77, descriptorIndex := 78, attributes := #[] }, { accessFlags := 8, nameIndex := 74, descriptorIndex := 54, attributes := #[] }] 49 203 #[304, 306, 308] #[{ accessFlags := 25, nameIndex := 310, descriptorIndex := 194, attributes := #[] }, { accessFlags := 25, nameIndex := 312, descriptorIndex := 194, attributes := #[] }, { accessFlags := 25, nameIndex := 302, descriptorIndex := 303, attributes := #[] }, { accessFlags := 24, nameIndex := 19, descriptorIndex := 20, attributes := #[] }, { accessFlags := 24, nameIndex := 89, descriptorIndex := 86, attributes := #[] }, { accessFlags := 24, nameIndex := 85, descriptorIndex := 86, attributes := #[] }, { accessFlags := 18, nameIndex := 207, descriptorIndex := 194, attributes := #[] }, { accessFlags := 25, nameIndex := 316, descriptorIndex := 194, attributes := #[] }, { accessFlags := 25, nameIndex := 318, descriptorIndex := 194, attributes := #[] }, { accessFlags := 26, nameIndex := 320, descriptorIndex := 321, attributes := #[] }])
  fields := #[{ name := "MIN_VALUE", type := .int, accessFlags := 25, slot := 0, constantValue := 0 }, { name := "MAX_VALUE", type := .int, accessFlags := 25, slot := 1, constantValue := 0 }, { name := "TYPE", type := (.object "java/lang/Class"), accessFlags := 25, slot := 2, constantValue := 0 }, { name := "digits", type := (.array .char), accessFlags := 24, slot := 3, constantValue := 0 }, { name := "DigitTens", type := (.array .byte), accessFlags := 24, slot := 4, constantValue := 0 }, { name := "DigitOnes", type := (.array .byte), accessFlags := 24, slot := 5, constantValue := 0 }, { name := "value", type := .int, accessFlags := 18, slot := 0, constantValue := 0 }, { name := "SIZE", type := .int, accessFlags := 25, slot := 6, constantValue := 0 }, { name := "BYTES", type := .int, accessFlags := 25, slot := 7, constantValue := 0 }, { name := "serialVersionUID", type := .long, accessFlags := 26, slot := 8, constantValue := 0 }]
  methods := #[k8m0, k8m1, k8m2]
  instanceTypes := #[.int]
  staticTypes := #[.int, .int, (.object "java/lang/Class"), (.array .char), (.array .byte), (.array .byte), .int, .int, .long]
  resolved := Array.replicate 453 none
  statics := some 0 }

def pool9 : Array CpInfo := pool [(2, .class_ 4), (1, u "java/lang/CharSequence"), (42, .class_ 48), (0, u "java/lang/CharSequence$1CodePointIterator"), (10, .class_ 60), (0, u "java/lang/CharSequence$1CharIterator"), (5, .class_ 67), (0, u "java/lang/Object")] 63

/-- java/lang/CharSequence -/
def k9 : Class := { plain "java/lang/CharSequence" (some 0) with
  accessFlags := 1537
  interfaces := #[]
  cf := some (fileOf pool9 2 #[.nestMembers #[47, 59]] #[] 1537 66 #[] #[])
  fields := #[]
  methods := #[]
  instanceTypes := #[]
  staticTypes := #[]
  resolved := Array.replicate 131 none
  statics := none }

def pool10 : Array CpInfo := pool [(1, .methodref 2 3), (0, .class_ 4), (0, .nameAndType 5 6), (0, u "java/lang/Object"), (0, u "<init>"), (0, u "()V"), (2, .fieldref 10 11), (0, .class_ 12), (0, .nameAndType 13 14), (0, u "java/lang/String"), (0, u "value"), (0, u "[B"), (0, .fieldref 10 16), (0, .nameAndType 17 18), (0, u "coder"), (0, u "B"), (2, u "hash"), (0, u "I"), (2, u "hashIsZero"), (0, u "Z"), (11, .fieldref 10 39), (0, .nameAndType 40 26), (0, u "COMPACT_STRINGS"), (66, .class_ 109), (1, u "java/lang/StringLatin1"), (32, u "()Z"), (68, u "([BB)V"), (122, u "()I"), (0, .methodref 10 336), (0, .nameAndType 17 337), (0, u "()B"), (25, u "([BI)C"), (27, u "(II)V"), (35, u "(I)C"), (64, .methodref 10 493), (0, .nameAndType 494 142), (0, u "isLatin1"), (0, .methodref 107 496), (0, .nameAndType 497 363), (0, u "charAt"), (3, u "checkIndex"), (5, u "length"), (67, .class_ 576), (0, u "java/lang/CharSequence"), (22, u "CASE_INSENSITIVE_ORDER"), (0, u "Ljava/util/Comparator;"), (452, .fieldref 1054 1055), (0, .class_ 1056), (0, .nameAndType 1057 1058), (0, u "jdk/internal/util/Preconditions"), (0, u "SIOOBE_FORMATTER"), (0, u "Ljava/util/function/BiFunction;"), (0, .methodref 1054 1060), (0, .nameAndType 501 1061), (0, u "(IILjava/util/function/BiFunction;)I"), (39, u "serialPersistentFields"), (0, u "[Ljava/io/ObjectStreamField;"), (0, .class_ 1104), (0, u "java/lang/String$CaseInsensitiveComparator"), (1, .class_ 1107), (0, u "java/io/Serializable"), (0, .class_ 1109), (0, u "java/lang/Comparable"), (0, .class_ 1111), (0, u "java/lang/constant/Constable"), (0, .class_ 1113), (0, u "java/lang/constant/ConstantDesc"), (2, u "serialVersionUID"), (0, u "J"), (3, u "REPL"), (0, u "C"), (2, u "LATIN1"), (1, u "UTF16")] 323

def k10m0 : Method := { name := "<init>", desc := "()V", sig := { parameters := [], returnType := none }, accessFlags := 1, code := none }
def k10c1 : Code := { maxStack := 2, maxLocals := 1, code := jdk_42_method_54_code, exceptionTable := #[], attributes := #[] }
def k10m1 : Method := { name := "length", desc := "()I", sig := { parameters := [], returnType := some .int }, accessFlags := 1, code := some k10c1 }
def k10c2 : Code := { maxStack := 2, maxLocals := 2, code := jdk_42_method_56_code, exceptionTable := #[], attributes := #[] }
def k10m2 : Method := { name := "charAt", desc := "(I)C", sig := { parameters := [.int], returnType := some .char }, accessFlags := 1, code := some k10c2 }
def k10c3 : Code := { maxStack := 2, maxLocals := 3, code := jdk_42_method_151_code, exceptionTable := #[], attributes := #[] }
def k10m3 : Method := { name := "<init>", desc := "([BB)V", sig := { parameters := [(.array .byte), .byte], returnType := none }, accessFlags := 0, code := some k10c3 }
def k10c4 : Code := { maxStack := 1, maxLocals := 1, code := jdk_42_method_152_code, exceptionTable := #[], attributes := #[] }
def k10m4 : Method := { name := "coder", desc := "()B", sig := { parameters := [], returnType := some .byte }, accessFlags := 0, code := some k10c4 }
def k10c5 : Code := { maxStack := 1, maxLocals := 1, code := jdk_42_method_154_code, exceptionTable := #[], attributes := #[] }
def k10m5 : Method := { name := "isLatin1", desc := "()Z", sig := { parameters := [], returnType := some .boolean }, accessFlags := 0, code := some k10c5 }
def k10c6 : Code := { maxStack := 3, maxLocals := 2, code := jdk_42_method_155_code, exceptionTable := #[], attributes := #[] }
def k10m6 : Method := { name := "checkIndex", desc := "(II)V", sig := { parameters := [.int, .int], returnType := none }, accessFlags := 8, code := some k10c6 }
/-- java/lang/String -/
def k10 : Class := { plain "java/lang/String" (some 0) with
  accessFlags := 49
  interfaces := #[3, 5, 9, 6, 7]
  cf := some (fileOf pool10 10 #[.nestMembers #[1103]] #[{ accessFlags := 1, nameIndex := 5, descriptorIndex := 6, attributes := #[] }, { accessFlags := 1, nameIndex := 507, descriptorIndex := 334, attributes := #[] }, { accessFlags := 1, nameIndex := 497, descriptorIndex := 427, attributes := #[] }, { accessFlags := 0, nameIndex := 5, descriptorIndex := 211, attributes := #[] }, { accessFlags := 0, nameIndex := 17, descriptorIndex := 337, attributes := #[] }, { accessFlags := 0, nameIndex := 494, descriptorIndex := 142, attributes := #[] }, { accessFlags := 8, nameIndex := 501, descriptorIndex := 391, attributes := #[] }] 49 2 #[1106, 1108, 575, 1110, 1112] #[{ accessFlags := 18, nameIndex := 13, descriptorIndex := 14, attributes := #[] }, { accessFlags := 18, nameIndex := 17, descriptorIndex := 18, attributes := #[] }, { accessFlags := 2, nameIndex := 21, descriptorIndex := 22, attributes := #[] }, { accessFlags := 2, nameIndex := 25, descriptorIndex := 26, attributes := #[] }, { accessFlags := 26, nameIndex := 1116, descriptorIndex := 1117, attributes := #[] }, { accessFlags := 24, nameIndex := 40, descriptorIndex := 26, attributes := #[] }, { accessFlags := 26, nameIndex := 1101, descriptorIndex := 1102, attributes := #[] }, { accessFlags := 26, nameIndex := 1121, descriptorIndex := 1122, attributes := #[] }, { accessFlags := 25, nameIndex := 599, descriptorIndex := 600, attributes := #[] }, { accessFlags := 24, nameIndex := 1125, descriptorIndex := 18, attributes := #[] }, { accessFlags := 24, nameIndex := 1127, descriptorIndex := 18, attributes := #[] }])
  fields := #[{ name := "value", type := (.array .byte), accessFlags := 18, slot := 0, constantValue := 0 }, { name := "coder", type := .byte, accessFlags := 18, slot := 1, constantValue := 0 }, { name := "hash", type := .int, accessFlags := 2, slot := 2, constantValue := 0 }, { name := "hashIsZero", type := .boolean, accessFlags := 2, slot := 3, constantValue := 0 }, { name := "serialVersionUID", type := .long, accessFlags := 26, slot := 0, constantValue := 0 }, { name := "COMPACT_STRINGS", type := .boolean, accessFlags := 24, slot := 1, constantValue := 0 }, { name := "serialPersistentFields", type := (.array (.object "java/io/ObjectStreamField")), accessFlags := 26, slot := 2, constantValue := 0 }, { name := "REPL", type := .char, accessFlags := 26, slot := 3, constantValue := 0 }, { name := "CASE_INSENSITIVE_ORDER", type := (.object "java/util/Comparator"), accessFlags := 25, slot := 4, constantValue := 0 }, { name := "LATIN1", type := .byte, accessFlags := 24, slot := 5, constantValue := 0 }, { name := "UTF16", type := .byte, accessFlags := 24, slot := 6, constantValue := 0 }]
  methods := #[k10m0, k10m1, k10m2, k10m3, k10m4, k10m5, k10m6]
  instanceTypes := #[(.array .byte), .byte, .int, .boolean]
  staticTypes := #[.long, .boolean, (.array (.object "java/io/ObjectStreamField")), .char, (.object "java/util/Comparator"), .byte, .byte]
  resolved := Array.replicate 1451 none
  statics := some 1 }

def pool11 : Array CpInfo := pool [(1, .class_ 2), (0, u "java/lang/String"), (1, .class_ 6), (1, u "java/lang/Object"), (0, u "<init>"), (0, u "()V"), (0, .methodref 1 10), (0, .nameAndType 11 12), (0, u "checkIndex"), (0, u "(II)V"), (1, .class_ 16), (1, u "java/lang/StringLatin1"), (36, u "([BI)C"), (67, u "$assertionsDisabled"), (0, u "Z"), (98, .class_ 223), (1, u "java/lang/StringLatin1$LinesSpliterator"), (28, u "charAt"), (137, .class_ 391), (0, u "java/lang/StringLatin1$CharsSpliterator")] 3

def k11m0 : Method := { name := "<init>", desc := "()V", sig := { parameters := [], returnType := none }, accessFlags := 0, code := none }
def k11c1 : Code := { maxStack := 2, maxLocals := 2, code := jdk_43_method_2_code, exceptionTable := #[], attributes := #[] }
def k11m1 : Method := { name := "charAt", desc := "([BI)C", sig := { parameters := [(.array .byte), .int], returnType := some .char }, accessFlags := 9, code := some k11c1 }
/-- java/lang/StringLatin1 -/
def k11 : Class := { plain "java/lang/StringLatin1" (some 0) with
  accessFlags := 48
  interfaces := #[]
  cf := some (fileOf pool11 14 #[.nestMembers #[390, 221]] #[{ accessFlags := 0, nameIndex := 7, descriptorIndex := 8, attributes := #[] }, { accessFlags := 9, nameIndex := 252, descriptorIndex := 53, attributes := #[] }] 48 4 #[] #[{ accessFlags := 4120, nameIndex := 121, descriptorIndex := 122, attributes := #[] }])
  fields := #[{ name := "$assertionsDisabled", type := .boolean, accessFlags := 4120, slot := 0, constantValue := 0 }]
  methods := #[k11m0, k11m1]
  instanceTypes := #[]
  staticTypes := #[.boolean]
  resolved := Array.replicate 395 none
  statics := none }

def pool12 : Array CpInfo := pool [(2, .class_ 4), (1, u "java/lang/Object"), (0, u "<init>"), (0, u "()V"), (17, .class_ 26), (1, u "jdk/internal/util/Preconditions"), (6, u "checkIndex"), (21, .class_ 56), (0, u "jdk/internal/util/Preconditions$4"), (57, .class_ 115), (0, u "jdk/internal/util/Preconditions$1"), (7, u "SIOOBE_FORMATTER"), (0, u "Ljava/util/function/BiFunction;"), (0, .class_ 126), (0, u "jdk/internal/util/Preconditions$2"), (3, u "AIOOBE_FORMATTER"), (0, .class_ 132), (0, u "jdk/internal/util/Preconditions$3"), (3, u "IOOBE_FORMATTER"), (41, u "(IILjava/util/function/BiFunction;)I")] 15

def k12m0 : Method := { name := "<init>", desc := "()V", sig := { parameters := [], returnType := none }, accessFlags := 1, code := none }
def k12c1 : Code := { maxStack := 3, maxLocals := 3, code := jdk_41_method_11_code, exceptionTable := #[], attributes := #[] }
def k12m1 : Method := { name := "checkIndex", desc := "(IILjava/util/function/BiFunction;)I", sig := { parameters := [.int, .int, (.object "java/util/function/BiFunction")], returnType := some .int }, accessFlags := 9, code := some k12c1 }
/-- jdk/internal/util/Preconditions -/
def k12 : Class := { plain "jdk/internal/util/Preconditions" (some 0) with
  accessFlags := 33
  interfaces := #[]
  cf := some (fileOf pool12 24 #[.nestMembers #[55, 131, 125, 114]] #[{ accessFlags := 1, nameIndex := 5, descriptorIndex := 6, attributes := #[] }, { accessFlags := 9, nameIndex := 33, descriptorIndex := 178, attributes := #[] }] 33 2 #[] #[{ accessFlags := 25, nameIndex := 123, descriptorIndex := 124, attributes := #[] }, { accessFlags := 25, nameIndex := 130, descriptorIndex := 124, attributes := #[] }, { accessFlags := 25, nameIndex := 136, descriptorIndex := 124, attributes := #[] }])
  fields := #[{ name := "SIOOBE_FORMATTER", type := (.object "java/util/function/BiFunction"), accessFlags := 25, slot := 0, constantValue := 0 }, { name := "AIOOBE_FORMATTER", type := (.object "java/util/function/BiFunction"), accessFlags := 25, slot := 1, constantValue := 0 }, { name := "IOOBE_FORMATTER", type := (.object "java/util/function/BiFunction"), accessFlags := 25, slot := 2, constantValue := 0 }]
  methods := #[k12m0, k12m1]
  instanceTypes := #[]
  staticTypes := #[(.object "java/util/function/BiFunction"), (.object "java/util/function/BiFunction"), (.object "java/util/function/BiFunction")]
  resolved := Array.replicate 194 none
  statics := some 2 }

def pool13 : Array CpInfo := pool [(9, u "<init>"), (6, .class_ 18), (1, u "java/lang/Object"), (0, u "()V"), (1, .class_ 23), (1, u "jdk/internal/util/ArraysSupport"), (0, u "LOG2_ARRAY_LONG_INDEX_SCALE"), (0, u "I"), (2, u "U"), (0, u "Ljdk/internal/misc/Unsafe;"), (8, u "BIG_ENDIAN"), (0, u "Z"), (8, u "LOG2_BYTE_BIT_SIZE"), (4, u "LOG2_ARRAY_INT_INDEX_SCALE"), (54, u "JLA"), (0, u "Ljdk/internal/access/JavaLangAccess;"), (11, u "LOG2_ARRAY_BOOLEAN_INDEX_SCALE"), (9, u "LOG2_ARRAY_BYTE_INDEX_SCALE"), (5, u "LOG2_ARRAY_CHAR_INDEX_SCALE"), (5, u "LOG2_ARRAY_SHORT_INDEX_SCALE"), (18, u "LOG2_ARRAY_FLOAT_INDEX_SCALE"), (24, u "LOG2_ARRAY_DOUBLE_INDEX_SCALE"), (89, u "T_BOOLEAN"), (2, u "T_CHAR"), (1, u "T_FLOAT"), (1, u "T_DOUBLE"), (1, u "T_BYTE"), (1, u "T_SHORT"), (1, u "T_INT"), (1, u "T_LONG"), (1, u "SOFT_MAX_ARRAY_LENGTH")] 83

def k13m0 : Method := { name := "<init>", desc := "()V", sig := { parameters := [], returnType := none }, accessFlags := 2, code := none }
/-- jdk/internal/util/ArraysSupport -/
def k13 : Class := { plain "jdk/internal/util/ArraysSupport" (some 0) with
  accessFlags := 33
  interfaces := #[]
  cf := some (fileOf pool13 21 #[] #[{ accessFlags := 2, nameIndex := 9, descriptorIndex := 19, attributes := #[] }] 33 16 #[] #[{ accessFlags := 24, nameIndex := 28, descriptorIndex := 29, attributes := #[] }, { accessFlags := 26, nameIndex := 38, descriptorIndex := 39, attributes := #[] }, { accessFlags := 25, nameIndex := 121, descriptorIndex := 25, attributes := #[] }, { accessFlags := 25, nameIndex := 131, descriptorIndex := 25, attributes := #[] }, { accessFlags := 25, nameIndex := 137, descriptorIndex := 25, attributes := #[] }, { accessFlags := 25, nameIndex := 143, descriptorIndex := 25, attributes := #[] }, { accessFlags := 25, nameIndex := 53, descriptorIndex := 25, attributes := #[] }, { accessFlags := 25, nameIndex := 24, descriptorIndex := 25, attributes := #[] }, { accessFlags := 25, nameIndex := 162, descriptorIndex := 25, attributes := #[] }, { accessFlags := 25, nameIndex := 187, descriptorIndex := 25, attributes := #[] }, { accessFlags := 26, nameIndex := 48, descriptorIndex := 25, attributes := #[] }, { accessFlags := 25, nameIndex := 277, descriptorIndex := 25, attributes := #[] }, { accessFlags := 25, nameIndex := 280, descriptorIndex := 25, attributes := #[] }, { accessFlags := 25, nameIndex := 282, descriptorIndex := 25, attributes := #[] }, { accessFlags := 25, nameIndex := 284, descriptorIndex := 25, attributes := #[] }, { accessFlags := 25, nameIndex := 286, descriptorIndex := 25, attributes := #[] }, { accessFlags := 25, nameIndex := 288, descriptorIndex := 25, attributes := #[] }, { accessFlags := 25, nameIndex := 290, descriptorIndex := 25, attributes := #[] }, { accessFlags := 25, nameIndex := 292, descriptorIndex := 25, attributes := #[] }, { accessFlags := 26, nameIndex := 108, descriptorIndex := 109, attributes := #[] }, { accessFlags := 25, nameIndex := 294, descriptorIndex := 25, attributes := #[] }])
  fields := #[{ name := "U", type := (.object "jdk/internal/misc/Unsafe"), accessFlags := 24, slot := 0, constantValue := 0 }, { name := "BIG_ENDIAN", type := .boolean, accessFlags := 26, slot := 1, constantValue := 0 }, { name := "LOG2_ARRAY_BOOLEAN_INDEX_SCALE", type := .int, accessFlags := 25, slot := 2, constantValue := 0 }, { name := "LOG2_ARRAY_BYTE_INDEX_SCALE", type := .int, accessFlags := 25, slot := 3, constantValue := 0 }, { name := "LOG2_ARRAY_CHAR_INDEX_SCALE", type := .int, accessFlags := 25, slot := 4, constantValue := 0 }, { name := "LOG2_ARRAY_SHORT_INDEX_SCALE", type := .int, accessFlags := 25, slot := 5, constantValue := 0 }, { name := "LOG2_ARRAY_INT_INDEX_SCALE", type := .int, accessFlags := 25, slot := 6, constantValue := 0 }, { name := "LOG2_ARRAY_LONG_INDEX_SCALE", type := .int, accessFlags := 25, slot := 7, constantValue := 0 }, { name := "LOG2_ARRAY_FLOAT_INDEX_SCALE", type := .int, accessFlags := 25, slot := 8, constantValue := 0 }, { name := "LOG2_ARRAY_DOUBLE_INDEX_SCALE", type := .int, accessFlags := 25, slot := 9, constantValue := 0 }, { name := "LOG2_BYTE_BIT_SIZE", type := .int, accessFlags := 26, slot := 10, constantValue := 0 }, { name := "T_BOOLEAN", type := .int, accessFlags := 25, slot := 11, constantValue := 0 }, { name := "T_CHAR", type := .int, accessFlags := 25, slot := 12, constantValue := 0 }, { name := "T_FLOAT", type := .int, accessFlags := 25, slot := 13, constantValue := 0 }, { name := "T_DOUBLE", type := .int, accessFlags := 25, slot := 14, constantValue := 0 }, { name := "T_BYTE", type := .int, accessFlags := 25, slot := 15, constantValue := 0 }, { name := "T_SHORT", type := .int, accessFlags := 25, slot := 16, constantValue := 0 }, { name := "T_INT", type := .int, accessFlags := 25, slot := 17, constantValue := 0 }, { name := "T_LONG", type := .int, accessFlags := 25, slot := 18, constantValue := 0 }, { name := "JLA", type := (.object "jdk/internal/access/JavaLangAccess"), accessFlags := 26, slot := 19, constantValue := 0 }, { name := "SOFT_MAX_ARRAY_LENGTH", type := .int, accessFlags := 25, slot := 20, constantValue := 0 }]
  methods := #[k13m0]
  instanceTypes := #[]
  staticTypes := #[(.object "jdk/internal/misc/Unsafe"), .boolean, .int, .int, .int, .int, .int, .int, .int, .int, .int, .int, .int, .int, .int, .int, .int, .int, .int, (.object "jdk/internal/access/JavaLangAccess"), .int]
  resolved := Array.replicate 378 none
  statics := none }

def pool14 : Array CpInfo := pool [(1, u "java/lang/Cloneable"), (0, .class_ 1), (0, u "java/lang/Object"), (0, .class_ 3)] 3

/-- java/lang/Cloneable -/
def k14 : Class := { plain "java/lang/Cloneable" (some 0) with
  accessFlags := 1537
  interfaces := #[]
  cf := some (fileOf pool14 2 #[] #[] 1537 4 #[] #[])
  fields := #[]
  methods := #[]
  instanceTypes := #[]
  staticTypes := #[]
  resolved := Array.replicate 8 none
  statics := none }

/-- the primitive byte -/
def k15 : Class := { plain "byte" none with kind := .primitive 'B', accessFlags := 0x411 }
/-- [B -/
def k16 : Class := { plain "[B" (some 0) with kind := .array 15 .byte, interfaces := #[14, 3], accessFlags := 1041 }

/-- the primitive int -/
def k17 : Class := { plain "int" none with kind := .primitive 'I', accessFlags := 0x411 }
/-- [I -/
def k18 : Class := { plain "[I" (some 0) with kind := .array 17 .int, interfaces := #[14, 3], accessFlags := 1041 }

def heap : Heap := #[{ cls := 8, slots := #[.int 0, .int 0, .null, .null, .ref 4, .ref 3, .int 0, .int 0, .long 0], vm := .statics 8 },
  { cls := 10, slots := #[.long 0, .int 1, .null, .int 0, .null, .int 0, .int 0], vm := .statics 10 },
  { cls := 12, slots := #[.null, .null, .null], vm := .statics 12 },
  { cls := 16, slots := #[.int 48, .int 49, .int 50, .int 51, .int 52, .int 53, .int 54, .int 55, .int 56, .int 57, .int 48, .int 49, .int 50, .int 51, .int 52, .int 53, .int 54, .int 55, .int 56, .int 57, .int 48, .int 49, .int 50, .int 51, .int 52, .int 53, .int 54, .int 55, .int 56, .int 57, .int 48, .int 49, .int 50, .int 51, .int 52, .int 53, .int 54, .int 55, .int 56, .int 57, .int 48, .int 49, .int 50, .int 51, .int 52, .int 53, .int 54, .int 55, .int 56, .int 57, .int 48, .int 49, .int 50, .int 51, .int 52, .int 53, .int 54, .int 55, .int 56, .int 57, .int 48, .int 49, .int 50, .int 51, .int 52, .int 53, .int 54, .int 55, .int 56, .int 57, .int 48, .int 49, .int 50, .int 51, .int 52, .int 53, .int 54, .int 55, .int 56, .int 57, .int 48, .int 49, .int 50, .int 51, .int 52, .int 53, .int 54, .int 55, .int 56, .int 57, .int 48, .int 49, .int 50, .int 51, .int 52, .int 53, .int 54, .int 55, .int 56, .int 57], vm := .none },
  { cls := 16, slots := #[.int 48, .int 48, .int 48, .int 48, .int 48, .int 48, .int 48, .int 48, .int 48, .int 48, .int 49, .int 49, .int 49, .int 49, .int 49, .int 49, .int 49, .int 49, .int 49, .int 49, .int 50, .int 50, .int 50, .int 50, .int 50, .int 50, .int 50, .int 50, .int 50, .int 50, .int 51, .int 51, .int 51, .int 51, .int 51, .int 51, .int 51, .int 51, .int 51, .int 51, .int 52, .int 52, .int 52, .int 52, .int 52, .int 52, .int 52, .int 52, .int 52, .int 52, .int 53, .int 53, .int 53, .int 53, .int 53, .int 53, .int 53, .int 53, .int 53, .int 53, .int 54, .int 54, .int 54, .int 54, .int 54, .int 54, .int 54, .int 54, .int 54, .int 54, .int 55, .int 55, .int 55, .int 55, .int 55, .int 55, .int 55, .int 55, .int 55, .int 55, .int 56, .int 56, .int 56, .int 56, .int 56, .int 56, .int 56, .int 56, .int 56, .int 56, .int 57, .int 57, .int 57, .int 57, .int 57, .int 57, .int 57, .int 57, .int 57, .int 57], vm := .none }]
def classes : Array Class := #[k0, k1, k2, k3, k4, k5, k6, k7, k8, k9, k10, k11, k12, k13, k14, k15, k16, k17, k18]
def interned : List (Array UInt16 × Addr) := []
def slotsUsed : Nat := 219
def theMethod : MethodId := ⟨1, 1⟩
def args0 : Array Value := #[.int 65, .long 66, .int 67]
def aboutOver (below : List Frame) : State where
  vm := { classes := classes, interned := interned.toArray }
  heap := heap
  slotsUsed := slotsUsed
  threads := #[{ frames := .invoking theMethod args0 :: below }]
def below0 : List Frame := [.native { method := ⟨0, 0⟩, args := #[] }]
def about1 : State := aboutOver below0
def p0 : Program := .bare "" "" ""
def e0 : Env := launch0.env 0 0 0
theorem w_frames : about1.frames = Frame.invoking theMethod args0 :: below0 := rfl
set_option maxRecDepth 65536 in
theorem w_args : argsFit about1.vm theMethod args0 = true := by decide +kernel
set_option maxRecDepth 65536 in
theorem w_heap : heapFits about1 = true := by decide +kernel
set_option maxRecDepth 65536 in
theorem w_runnable : about1.curStatus? = some .runnable := by decide +kernel
set_option maxRecDepth 65536 in
theorem w_alone : about1.alone = true := by decide +kernel
set_option maxRecDepth 65536 in
theorem w_named : about1.methodNamed? x = some theMethod := by decide +kernel
set_option maxRecDepth 65536 in
theorem w_hears : about1.hears theMethod below0 = true := by decide +kernel
set_option maxRecDepth 65536 in
theorem w_ripe : about1.ripe theMethod args0 below0 = true := by decide +kernel
theorem w_running : about1.status = .running := rfl
set_option maxRecDepth 65536 in
theorem w_room : about1.hasRoom e0.platform room_1 = true :=
  launch0.hasRoom_least _ room_1 (by decide +kernel) (by decide +kernel) (by decide +kernel) (by decide +kernel) (by decide +kernel) (by decide +kernel)
theorem allAtoms_all (ts : List Jvm.Cond) (a : Array Jvm.Value) (st : Jvm.State) : (allAtoms ts).before a st = ts.all (fun c => c.before a st) := by
  induction ts with
  | nil => rfl
  | cons c t ih =>
    show (Jvm.Cond.and c (allAtoms t)).before a st = _
    rw [Jvm.Cond.before_and, ih, List.all_cons]
def words1 : List Jvm.Cond := Jvm.Cond.code x code maxLocals ret :: tables_1
/-- a 'code' word, met by the world's own term for the bytes: nothing is compared byte by byte -/
theorem code_word {y : MethodName} {bytes : ByteArray} {mx : Nat} {rt : Option FieldType} {a : Array Value} {s : State} {m : MethodId} {meth : Method} {c : Code} (h1 : s.methodNamed? y = some m) (h2 : s.vm.method? m = some meth) (h3 : meth.code = some c) (h4 : c.code = bytes)
    (h5 : (c.maxLocals == mx && c.exceptionTable.isEmpty && decide (c.maxStack ≤ mostOperands) && decide (meth.sig.returnType = rt) && !meth.locks && decide (parseMethodDescriptor y.desc = some meth.sig)) = true) : (Jvm.Cond.code y bytes mx rt).before a s = true := by
  simp only [Bool.and_eq_true, beq_iff_eq, Bool.not_eq_true', decide_eq_true_eq] at h5
  obtain ⟨⟨⟨⟨⟨g1, g2⟩, g3⟩, g4⟩, g5⟩, g6⟩ := h5
  simp [Cond.before, Cond.holds, Cond.value, h1, h2, h3, h4, g1, g2, g3, g4, g5, g6]
def isCode : Jvm.Cond → Bool
  | .code _ _ _ _ => true
  | _ => false
theorem all_split {L : List Jvm.Cond} {P : Jvm.Cond → Bool} (h1 : L.all (fun c => isCode c || P c) = true) (h2 : ∀ c ∈ L.filter isCode, P c = true) : L.all P = true := by
  refine List.all_eq_true.mpr fun c hc => ?_
  have h := List.all_eq_true.mp h1 c hc
  rcases Bool.eq_false_or_eq_true (isCode c) with hi | hi
  · exact h2 c (List.mem_filter.mpr ⟨hc, hi⟩)
  · simpa [hi] using h
set_option maxRecDepth 65536 in
theorem w_c0 : (Jvm.Cond.code x code maxLocals ret).before args0 about1 = true := code_word (m := ⟨1, 1⟩) (meth := k1m1) (c := k1c1) (by decide +kernel) rfl rfl rfl (by decide +kernel)
set_option maxRecDepth 65536 in
theorem w_c1 : (Jvm.Cond.code ({ cls := "com/example/vertumnus/vertumnus/interactions/Cardinality", name := "exactly", desc := "(I)Lcom/example/vertumnus/vertumnus/interactions/Cardinality;" } : Jvm.MethodName) prog_44_method_3_code (1 : Nat) (Option.some (Jvm.ClassFile.FieldType.object "com/example/vertumnus/vertumnus/interactions/Cardinality"))).before args0 about1 = true := code_word (m := ⟨2, 1⟩) (meth := k2m1) (c := k2c1) (by decide +kernel) rfl rfl rfl (by decide +kernel)
set_option maxRecDepth 65536 in
theorem w_c2 : (Jvm.Cond.code ({ cls := "java/lang/Integer", name := "toString", desc := "(I)Ljava/lang/String;" } : Jvm.MethodName) jdk_33_method_10_code (3 : Nat) (Option.some (Jvm.ClassFile.FieldType.object "java/lang/String"))).before args0 about1 = true := code_word (m := ⟨8, 0⟩) (meth := k8m0) (c := k8c0) (by decide +kernel) rfl rfl rfl (by decide +kernel)
set_option maxRecDepth 65536 in
theorem w_c3 : (Jvm.Cond.code ({ cls := "java/lang/Integer", name := "stringSize", desc := "(I)I" } : Jvm.MethodName) jdk_33_method_13_code (4 : Nat) (Option.some Jvm.ClassFile.FieldType.int)).before args0 about1 = true := code_word (m := ⟨8, 2⟩) (meth := k8m2) (c := k8c2) (by decide +kernel) rfl rfl rfl (by decide +kernel)
set_option maxRecDepth 65536 in
theorem w_c4 : (Jvm.Cond.code ({ cls := "java/lang/Integer", name := "getChars", desc := "(II[B)I" } : Jvm.MethodName) jdk_33_method_12_code (7 : Nat) (Option.some Jvm.ClassFile.FieldType.int)).before args0 about1 = true := code_word (m := ⟨8, 1⟩) (meth := k8m1) (c := k8c1) (by decide +kernel) rfl rfl rfl (by decide +kernel)
set_option maxRecDepth 65536 in
theorem w_c5 : (Jvm.Cond.code ({ cls := "java/lang/String", name := "<init>", desc := "([BB)V" } : Jvm.MethodName) jdk_42_method_151_code (3 : Nat) (Option.none : Option Jvm.ClassFile.FieldType)).before args0 about1 = true := code_word (m := ⟨10, 3⟩) (meth := k10m3) (c := k10c3) (by decide +kernel) rfl rfl rfl (by decide +kernel)
set_option maxRecDepth 65536 in
theorem w_c6 : (Jvm.Cond.code ({ cls := "java/lang/Object", name := "<init>", desc := "()V" } : Jvm.MethodName) object_method_1_code (1 : Nat) (Option.none : Option Jvm.ClassFile.FieldType)).before args0 about1 = true := code_word (m := ⟨0, 0⟩) (meth := k0m0) (c := k0c0) (by decide +kernel) rfl rfl rfl (by decide +kernel)
set_option maxRecDepth 65536 in
theorem w_c7 : (Jvm.Cond.code ({ cls := "com/example/vertumnus/vertumnus/interactions/Cardinality", name := "<init>", desc := "(IJLjava/lang/String;)V" } : Jvm.MethodName) prog_44_method_1_code (5 : Nat) (Option.none : Option Jvm.ClassFile.FieldType)).before args0 about1 = true := code_word (m := ⟨2, 0⟩) (meth := k2m0) (c := k2c0) (by decide +kernel) rfl rfl rfl (by decide +kernel)
set_option maxRecDepth 65536 in
theorem w_c8 : (Jvm.Cond.code ({ cls := "com/example/vertumnus/vertumnus/interactions/Cardinality", name := "hasUpperLimit", desc := "()Z" } : Jvm.MethodName) prog_44_method_9_code (1 : Nat) (Option.some Jvm.ClassFile.FieldType.boolean)).before args0 about1 = true := code_word (m := ⟨2, 3⟩) (meth := k2m3) (c := k2c3) (by decide +kernel) rfl rfl rfl (by decide +kernel)
set_option maxRecDepth 65536 in
theorem w_c9 : (Jvm.Cond.code ({ cls := "com/example/vertumnus/vertumnus/interactions/Cardinality", name := "hasLowerLimit", desc := "()Z" } : Jvm.MethodName) prog_44_method_10_code (1 : Nat) (Option.some Jvm.ClassFile.FieldType.boolean)).before args0 about1 = true := code_word (m := ⟨2, 4⟩) (meth := k2m4) (c := k2c4) (by decide +kernel) rfl rfl rfl (by decide +kernel)
set_option maxRecDepth 65536 in
theorem w_c10 : (Jvm.Cond.code ({ cls := "com/example/vertumnus/vertumnus/interactions/CardinalityExactlyPinLaw", name := "observe", desc := "(Lcom/example/vertumnus/vertumnus/interactions/Cardinality;IJ)Z" } : Jvm.MethodName) method_3_code (6 : Nat) (Option.some Jvm.ClassFile.FieldType.boolean)).before args0 about1 = true := code_word (m := ⟨1, 2⟩) (meth := k1m2) (c := k1c2) (by decide +kernel) rfl rfl rfl (by decide +kernel)
set_option maxRecDepth 65536 in
theorem w_c11 : (Jvm.Cond.code ({ cls := "com/example/vertumnus/vertumnus/interactions/Cardinality", name := "isSatisfiedBy", desc := "(J)Z" } : Jvm.MethodName) prog_44_method_12_code (3 : Nat) (Option.some Jvm.ClassFile.FieldType.boolean)).before args0 about1 = true := code_word (m := ⟨2, 6⟩) (meth := k2m6) (c := k2c6) (by decide +kernel) rfl rfl rfl (by decide +kernel)
set_option maxRecDepth 65536 in
theorem w_c12 : (Jvm.Cond.code ({ cls := "com/example/vertumnus/vertumnus/interactions/Cardinality", name := "isExceededBy", desc := "(J)Z" } : Jvm.MethodName) prog_44_method_8_code (3 : Nat) (Option.some Jvm.ClassFile.FieldType.boolean)).before args0 about1 = true := code_word (m := ⟨2, 2⟩) (meth := k2m2) (c := k2c2) (by decide +kernel) rfl rfl rfl (by decide +kernel)
set_option maxRecDepth 65536 in
theorem w_c13 : (Jvm.Cond.code ({ cls := "com/example/vertumnus/vertumnus/interactions/Cardinality", name := "isReachedBy", desc := "(J)Z" } : Jvm.MethodName) prog_44_method_11_code (3 : Nat) (Option.some Jvm.ClassFile.FieldType.boolean)).before args0 about1 = true := code_word (m := ⟨2, 5⟩) (meth := k2m5) (c := k2c5) (by decide +kernel) rfl rfl rfl (by decide +kernel)
set_option maxRecDepth 65536 in
theorem w_c14 : (Jvm.Cond.code ({ cls := "com/example/vertumnus/vertumnus/interactions/Cardinality", name := "toString", desc := "()Ljava/lang/String;" } : Jvm.MethodName) prog_44_method_13_code (1 : Nat) (Option.some (Jvm.ClassFile.FieldType.object "java/lang/String"))).before args0 about1 = true := code_word (m := ⟨2, 7⟩) (meth := k2m7) (c := k2c7) (by decide +kernel) rfl rfl rfl (by decide +kernel)
set_option maxRecDepth 65536 in
theorem w_c15 : (Jvm.Cond.code ({ cls := "com/example/vertumnus/vertumnus/interactions/CardinalityExactlyPinLaw", name := "textOk", desc := "(Ljava/lang/String;I)Z" } : Jvm.MethodName) method_5_code (3 : Nat) (Option.some Jvm.ClassFile.FieldType.boolean)).before args0 about1 = true := code_word (m := ⟨1, 4⟩) (meth := k1m4) (c := k1c4) (by decide +kernel) rfl rfl rfl (by decide +kernel)
set_option maxRecDepth 65536 in
theorem w_c16 : (Jvm.Cond.code ({ cls := "com/example/vertumnus/vertumnus/interactions/CardinalityExactlyPinLaw", name := "digits", desc := "(I)I" } : Jvm.MethodName) method_4_code (1 : Nat) (Option.some Jvm.ClassFile.FieldType.int)).before args0 about1 = true := code_word (m := ⟨1, 3⟩) (meth := k1m3) (c := k1c3) (by decide +kernel) rfl rfl rfl (by decide +kernel)
set_option maxRecDepth 65536 in
theorem w_c17 : (Jvm.Cond.code ({ cls := "java/lang/String", name := "length", desc := "()I" } : Jvm.MethodName) jdk_42_method_54_code (1 : Nat) (Option.some Jvm.ClassFile.FieldType.int)).before args0 about1 = true := code_word (m := ⟨10, 1⟩) (meth := k10m1) (c := k10c1) (by decide +kernel) rfl rfl rfl (by decide +kernel)
set_option maxRecDepth 65536 in
theorem w_c18 : (Jvm.Cond.code ({ cls := "java/lang/String", name := "coder", desc := "()B" } : Jvm.MethodName) jdk_42_method_152_code (1 : Nat) (Option.some Jvm.ClassFile.FieldType.byte)).before args0 about1 = true := code_word (m := ⟨10, 4⟩) (meth := k10m4) (c := k10c4) (by decide +kernel) rfl rfl rfl (by decide +kernel)
set_option maxRecDepth 65536 in
theorem w_c19 : (Jvm.Cond.code ({ cls := "com/example/vertumnus/vertumnus/interactions/CardinalityExactlyPinLaw", name := "digitOk", desc := "(Ljava/lang/String;IIII)Z" } : Jvm.MethodName) method_6_code (5 : Nat) (Option.some Jvm.ClassFile.FieldType.boolean)).before args0 about1 = true := code_word (m := ⟨1, 5⟩) (meth := k1m5) (c := k1c5) (by decide +kernel) rfl rfl rfl (by decide +kernel)
set_option maxRecDepth 65536 in
theorem w_c20 : (Jvm.Cond.code ({ cls := "java/lang/String", name := "charAt", desc := "(I)C" } : Jvm.MethodName) jdk_42_method_56_code (2 : Nat) (Option.some Jvm.ClassFile.FieldType.char)).before args0 about1 = true := code_word (m := ⟨10, 2⟩) (meth := k10m2) (c := k10c2) (by decide +kernel) rfl rfl rfl (by decide +kernel)
set_option maxRecDepth 65536 in
theorem w_c21 : (Jvm.Cond.code ({ cls := "java/lang/String", name := "isLatin1", desc := "()Z" } : Jvm.MethodName) jdk_42_method_154_code (1 : Nat) (Option.some Jvm.ClassFile.FieldType.boolean)).before args0 about1 = true := code_word (m := ⟨10, 5⟩) (meth := k10m5) (c := k10c5) (by decide +kernel) rfl rfl rfl (by decide +kernel)
set_option maxRecDepth 65536 in
theorem w_c22 : (Jvm.Cond.code ({ cls := "java/lang/StringLatin1", name := "charAt", desc := "([BI)C" } : Jvm.MethodName) jdk_43_method_2_code (2 : Nat) (Option.some Jvm.ClassFile.FieldType.char)).before args0 about1 = true := code_word (m := ⟨11, 1⟩) (meth := k11m1) (c := k11c1) (by decide +kernel) rfl rfl rfl (by decide +kernel)
set_option maxRecDepth 65536 in
theorem w_c23 : (Jvm.Cond.code ({ cls := "java/lang/String", name := "checkIndex", desc := "(II)V" } : Jvm.MethodName) jdk_42_method_155_code (2 : Nat) (Option.none : Option Jvm.ClassFile.FieldType)).before args0 about1 = true := code_word (m := ⟨10, 6⟩) (meth := k10m6) (c := k10c6) (by decide +kernel) rfl rfl rfl (by decide +kernel)
set_option maxRecDepth 65536 in
theorem w_c24 : (Jvm.Cond.code ({ cls := "jdk/internal/util/Preconditions", name := "checkIndex", desc := "(IILjava/util/function/BiFunction;)I" } : Jvm.MethodName) jdk_41_method_11_code (3 : Nat) (Option.some Jvm.ClassFile.FieldType.int)).before args0 about1 = true := code_word (m := ⟨12, 1⟩) (meth := k12m1) (c := k12c1) (by decide +kernel) rfl rfl rfl (by decide +kernel)
def codes1 : List Jvm.Cond := [Jvm.Cond.code x code maxLocals ret, Jvm.Cond.code ({ cls := "com/example/vertumnus/vertumnus/interactions/Cardinality", name := "exactly", desc := "(I)Lcom/example/vertumnus/vertumnus/interactions/Cardinality;" } : Jvm.MethodName) prog_44_method_3_code (1 : Nat) (Option.some (Jvm.ClassFile.FieldType.object "com/example/vertumnus/vertumnus/interactions/Cardinality")), Jvm.Cond.code ({ cls := "java/lang/Integer", name := "toString", desc := "(I)Ljava/lang/String;" } : Jvm.MethodName) jdk_33_method_10_code (3 : Nat) (Option.some (Jvm.ClassFile.FieldType.object "java/lang/String")), Jvm.Cond.code ({ cls := "java/lang/Integer", name := "stringSize", desc := "(I)I" } : Jvm.MethodName) jdk_33_method_13_code (4 : Nat) (Option.some Jvm.ClassFile.FieldType.int), Jvm.Cond.code ({ cls := "java/lang/Integer", name := "getChars", desc := "(II[B)I" } : Jvm.MethodName) jdk_33_method_12_code (7 : Nat) (Option.some Jvm.ClassFile.FieldType.int), Jvm.Cond.code ({ cls := "java/lang/String", name := "<init>", desc := "([BB)V" } : Jvm.MethodName) jdk_42_method_151_code (3 : Nat) (Option.none : Option Jvm.ClassFile.FieldType), Jvm.Cond.code ({ cls := "java/lang/Object", name := "<init>", desc := "()V" } : Jvm.MethodName) object_method_1_code (1 : Nat) (Option.none : Option Jvm.ClassFile.FieldType), Jvm.Cond.code ({ cls := "com/example/vertumnus/vertumnus/interactions/Cardinality", name := "<init>", desc := "(IJLjava/lang/String;)V" } : Jvm.MethodName) prog_44_method_1_code (5 : Nat) (Option.none : Option Jvm.ClassFile.FieldType), Jvm.Cond.code ({ cls := "com/example/vertumnus/vertumnus/interactions/Cardinality", name := "hasUpperLimit", desc := "()Z" } : Jvm.MethodName) prog_44_method_9_code (1 : Nat) (Option.some Jvm.ClassFile.FieldType.boolean), Jvm.Cond.code ({ cls := "com/example/vertumnus/vertumnus/interactions/Cardinality", name := "hasLowerLimit", desc := "()Z" } : Jvm.MethodName) prog_44_method_10_code (1 : Nat) (Option.some Jvm.ClassFile.FieldType.boolean), Jvm.Cond.code ({ cls := "com/example/vertumnus/vertumnus/interactions/CardinalityExactlyPinLaw", name := "observe", desc := "(Lcom/example/vertumnus/vertumnus/interactions/Cardinality;IJ)Z" } : Jvm.MethodName) method_3_code (6 : Nat) (Option.some Jvm.ClassFile.FieldType.boolean), Jvm.Cond.code ({ cls := "com/example/vertumnus/vertumnus/interactions/Cardinality", name := "isSatisfiedBy", desc := "(J)Z" } : Jvm.MethodName) prog_44_method_12_code (3 : Nat) (Option.some Jvm.ClassFile.FieldType.boolean), Jvm.Cond.code ({ cls := "com/example/vertumnus/vertumnus/interactions/Cardinality", name := "isExceededBy", desc := "(J)Z" } : Jvm.MethodName) prog_44_method_8_code (3 : Nat) (Option.some Jvm.ClassFile.FieldType.boolean), Jvm.Cond.code ({ cls := "com/example/vertumnus/vertumnus/interactions/Cardinality", name := "isReachedBy", desc := "(J)Z" } : Jvm.MethodName) prog_44_method_11_code (3 : Nat) (Option.some Jvm.ClassFile.FieldType.boolean), Jvm.Cond.code ({ cls := "com/example/vertumnus/vertumnus/interactions/Cardinality", name := "toString", desc := "()Ljava/lang/String;" } : Jvm.MethodName) prog_44_method_13_code (1 : Nat) (Option.some (Jvm.ClassFile.FieldType.object "java/lang/String")), Jvm.Cond.code ({ cls := "com/example/vertumnus/vertumnus/interactions/CardinalityExactlyPinLaw", name := "textOk", desc := "(Ljava/lang/String;I)Z" } : Jvm.MethodName) method_5_code (3 : Nat) (Option.some Jvm.ClassFile.FieldType.boolean), Jvm.Cond.code ({ cls := "com/example/vertumnus/vertumnus/interactions/CardinalityExactlyPinLaw", name := "digits", desc := "(I)I" } : Jvm.MethodName) method_4_code (1 : Nat) (Option.some Jvm.ClassFile.FieldType.int), Jvm.Cond.code ({ cls := "java/lang/String", name := "length", desc := "()I" } : Jvm.MethodName) jdk_42_method_54_code (1 : Nat) (Option.some Jvm.ClassFile.FieldType.int), Jvm.Cond.code ({ cls := "java/lang/String", name := "coder", desc := "()B" } : Jvm.MethodName) jdk_42_method_152_code (1 : Nat) (Option.some Jvm.ClassFile.FieldType.byte), Jvm.Cond.code ({ cls := "com/example/vertumnus/vertumnus/interactions/CardinalityExactlyPinLaw", name := "digitOk", desc := "(Ljava/lang/String;IIII)Z" } : Jvm.MethodName) method_6_code (5 : Nat) (Option.some Jvm.ClassFile.FieldType.boolean), Jvm.Cond.code ({ cls := "java/lang/String", name := "charAt", desc := "(I)C" } : Jvm.MethodName) jdk_42_method_56_code (2 : Nat) (Option.some Jvm.ClassFile.FieldType.char), Jvm.Cond.code ({ cls := "java/lang/String", name := "isLatin1", desc := "()Z" } : Jvm.MethodName) jdk_42_method_154_code (1 : Nat) (Option.some Jvm.ClassFile.FieldType.boolean), Jvm.Cond.code ({ cls := "java/lang/StringLatin1", name := "charAt", desc := "([BI)C" } : Jvm.MethodName) jdk_43_method_2_code (2 : Nat) (Option.some Jvm.ClassFile.FieldType.char), Jvm.Cond.code ({ cls := "java/lang/String", name := "checkIndex", desc := "(II)V" } : Jvm.MethodName) jdk_42_method_155_code (2 : Nat) (Option.none : Option Jvm.ClassFile.FieldType), Jvm.Cond.code ({ cls := "jdk/internal/util/Preconditions", name := "checkIndex", desc := "(IILjava/util/function/BiFunction;)I" } : Jvm.MethodName) jdk_41_method_11_code (3 : Nat) (Option.some Jvm.ClassFile.FieldType.int)]
set_option maxRecDepth 65536 in
theorem codes_eq : words1.filter isCode = codes1 := rfl
theorem w_codes : ∀ c ∈ words1.filter isCode, c.before args0 about1 = true := by
  rw [codes_eq]
  intro c hc
  simp only [codes1, List.mem_cons, List.not_mem_nil, or_false] at hc
  rcases hc with rfl | rfl | rfl | rfl | rfl | rfl | rfl | rfl | rfl | rfl | rfl | rfl | rfl | rfl | rfl | rfl | rfl | rfl | rfl | rfl | rfl | rfl | rfl | rfl | rfl
  · exact w_c0
  · exact w_c1
  · exact w_c2
  · exact w_c3
  · exact w_c4
  · exact w_c5
  · exact w_c6
  · exact w_c7
  · exact w_c8
  · exact w_c9
  · exact w_c10
  · exact w_c11
  · exact w_c12
  · exact w_c13
  · exact w_c14
  · exact w_c15
  · exact w_c16
  · exact w_c17
  · exact w_c18
  · exact w_c19
  · exact w_c20
  · exact w_c21
  · exact w_c22
  · exact w_c23
  · exact w_c24
set_option maxRecDepth 65536 in
theorem w_t1 : (words1.take 24).all (fun c => isCode c || c.before args0 about1) = true := by decide +kernel
set_option maxRecDepth 65536 in
theorem w_t2 : ((words1.drop 24).take 24).all (fun c => isCode c || c.before args0 about1) = true := by decide +kernel
set_option maxRecDepth 65536 in
theorem w_t3 : (((words1.drop 24).drop 24).take 24).all (fun c => isCode c || c.before args0 about1) = true := by decide +kernel
set_option maxRecDepth 65536 in
theorem w_t4 : ((((words1.drop 24).drop 24).drop 24).take 24).all (fun c => isCode c || c.before args0 about1) = true := by decide +kernel
set_option maxRecDepth 65536 in
theorem w_t5 : (((((words1.drop 24).drop 24).drop 24).drop 24).take 24).all (fun c => isCode c || c.before args0 about1) = true := by decide +kernel
set_option maxRecDepth 65536 in
theorem w_t6 : (((((words1.drop 24).drop 24).drop 24).drop 24).drop 24).all (fun c => isCode c || c.before args0 about1) = true := by decide +kernel
theorem w_tables : (allAtoms (Jvm.Cond.code x code maxLocals ret :: tables_1)).before args0 about1 = true := by
  rw [allAtoms_all]
  show words1.all (fun c => c.before args0 about1) = true
  refine all_split ?_ w_codes
  rw [← List.take_append_drop 24 words1, List.all_append, w_t1, ← List.take_append_drop 24 (words1.drop 24), List.all_append, w_t2, ← List.take_append_drop 24 ((words1.drop 24).drop 24), List.all_append, w_t3, ← List.take_append_drop 24 (((words1.drop 24).drop 24).drop 24), List.all_append, w_t4, ← List.take_append_drop 24 ((((words1.drop 24).drop 24).drop 24).drop 24), List.all_append, w_t5, w_t6]
  rfl
set_option maxRecDepth 65536 in
theorem w_rest : rest_1_c.before args0 about1 = true := by decide +kernel
set_option maxRecDepth 65536 in
theorem w_case : (Jvm.Cond.and given_1 narrow_1).before args0 about1 = true := by decide +kernel
theorem w_applies : (headSpec (Jvm.Cond.code x code maxLocals ret :: tables_1) room_1).applies x e0.platform about1 = true :=
  (Spec.applies_iff w_frames).mpr ⟨w_running, w_runnable, w_alone, w_named, w_hears, w_ripe, w_room, w_tables⟩
theorem atStart : AtStart classFile x code maxLocals ret World_1 tables_1 room_1 Calls_1 rest_1 Pre_1 launch0 p0 e0 about1 theMethod args0 below0 :=
  ⟨lists_1, trivial, launch0.admits_env _ _ _, launch0.least_env, fairChoices_fair.cas, fairChoices_fair.clock, w_frames, w_args, w_heap, w_applies, trivial, w_rest, w_case⟩
end start1
theorem witness_1 : WitnessClaimed_1 := ⟨start1.p0, start1.e0, start1.about1, start1.theMethod, start1.args0, start1.below0, start1.atStart⟩
end Jvm.Pilot.@@N@@
