import JvmDerived
import JvmDerived.Pilot.@@N@@Statement
import JvmDerived.Pilot.@@N@@Code
set_option linter.unusedVariables false
set_option linter.unusedSimpArgs false
namespace Jvm.RoadKit
open Sem ClassFile Op Lib Jvm.Stand Jvm.Free Jvm.LawKit
section New
variable {p : Program} {l : Launch} {e : Env} {R : Room} {s : State} {m : MethodId} {args : Array Value} {below : List Frame} {meth : Method} {c : Code} {T : State} {locs : List Loc} {cells slots : Nat}
theorem retI (X : Stand p l e R s m args below meth c T locs cells slots) (hx : p.tables.exec = Jvm.exec) {pc : Nat} {Ls : Array Slot} {z : Int32} {rest : List Value} (hret : meth.sig.returnType = some .int) (hd : decode c.code pc = .ok (.ireturn, 1)) {fs : List Frame}
    (hl : ∀ (f : JFrame) (acts : List Action), f.method = m → f.locked = none → f.entered = [] → (doReturn e (T.setTop f) acts (some (.int z))).1 = T.setFrames fs) : Steps p.tables e below (T.setTop (mkF m pc Ls (.int z :: rest))) (T.setFrames fs) := by
  have hm' : T.vm.method? m = some meth := X.method'
  have hn : narrow .int (.int z) = .int z := rfl
  show Steps p.tables e below (T.setTop { method := m, pc := pc, locals := Ls, stack := _ :: rest, locked := none }) _
  jvm_step X.here [X.here.top, hx, hd, hm', hret, hn]
  first | (intro acts; rw [hl _ acts rfl rfl rfl]) | rw [hl _ _ rfl rfl rfl]
  exact Steps.refl _
/-- from the state a the run ends, within its caller's frames, in an outcome of which P holds -/
def own_Endz (tb : Tables) (e : Env) (below : List Frame) (P : Outcome → State → Prop) (a : State) : Prop := ∃ s₂ o, Steps tb e below a s₂ ∧ s₂.status = .running ∧ Ended s₂ below o ∧ P o s₂
abbrev own_EndQ (s : State) (k n : Nat) (Q : Option Value → Heap → List Loc → Prop) : Outcome → State → Prop := fun o U' => ∃ v L, o = .returned v ∧ Q v U'.heap L ∧ FrameEnd s o U' L k n
theorem own_go {tb : Tables} {P : Outcome → State → Prop} {a b : State} (h : ∀ t, Steps tb e below b t → Steps tb e below a t) (k : own_Endz tb e below P b) : own_Endz tb e below P a := by
  obtain ⟨s2, o, h1, r⟩ := k
  exact ⟨s2, o, h _ h1, r⟩
theorem own_tr {tb : Tables} {P : Outcome → State → Prop} {a b : State} (h : Steps tb e below a b) (k : own_Endz tb e below P b) : own_Endz tb e below P a := by
  obtain ⟨s2, o, h1, r⟩ := k
  exact ⟨s2, o, h.trans h1, r⟩
theorem own_cast {tb : Tables} {P : Outcome → State → Prop} {g g' : JFrame} (q : g = g') (k : own_Endz tb e below P (T.setTop g')) : own_Endz tb e below P (T.setTop g) := q ▸ k
theorem own_retN (X : Stand p l e R s m args below meth c T locs cells slots) (hx : p.tables.exec = Jvm.exec) (hlk : meth.locks = false) {pc : Nat} {Ls : Array Slot} {z : Int32} {t : FieldType} {rest : List Value} (hret : meth.sig.returnType = some t) (ht : t = .boolean ∨ t = .byte ∨ t = .char ∨ t = .short)
    (hd : decode c.code pc = .ok (.ireturn, 1)) {k n : Nat} {Q : Option Value → Heap → List Loc → Prop} (hk : cells ≤ k) (hn : slots ≤ n) (q : Q (some (.int (nar t z))) T.heap locs) : own_Endz p.tables e below (own_EndQ s k n Q) (T.setTop (mkF m pc Ls (.int z :: rest))) := by
  obtain ⟨fs, hr, hrun, hended, hW, hsame⟩ := X.leave (v := some (.int (nar t z))) (fun h => by rw [hret] at h; cases h) hlk
  exact ⟨_, _, retN X hx hret ht hd hr, hrun, hended, _, _, rfl, q, ⟨_, rfl⟩, hW, hsame.mono hk hn⟩
theorem own_retI (X : Stand p l e R s m args below meth c T locs cells slots) (hx : p.tables.exec = Jvm.exec) (hlk : meth.locks = false) {pc : Nat} {Ls : Array Slot} {z : Int32} {rest : List Value} (hret : meth.sig.returnType = some .int)
    (hd : decode c.code pc = .ok (.ireturn, 1)) {k n : Nat} {Q : Option Value → Heap → List Loc → Prop} (hk : cells ≤ k) (hn : slots ≤ n) (q : Q (some (.int z)) T.heap locs) : own_Endz p.tables e below (own_EndQ s k n Q) (T.setTop (mkF m pc Ls (.int z :: rest))) := by
  obtain ⟨fs, hr, hrun, hended, hW, hsame⟩ := X.leave (v := some (.int z)) (fun h => by rw [hret] at h; cases h) hlk
  exact ⟨_, _, retI X hx hret hd hr, hrun, hended, _, _, rfl, q, ⟨_, rfl⟩, hW, hsame.mono hk hn⟩
theorem own_retA (X : Stand p l e R s m args below meth c T locs cells slots) (hx : p.tables.exec = Jvm.exec) (hlk : meth.locks = false) {pc : Nat} {Ls : Array Slot} {w : Value} {t : FieldType} {rest : List Value} (hret : meth.sig.returnType = some t) (ht : t.isReference = true) (hw : w.isRef = true)
    (hd : decode c.code pc = .ok (.areturn, 1)) {k n : Nat} {Q : Option Value → Heap → List Loc → Prop} (hk : cells ≤ k) (hn : slots ≤ n) (q : Q (some w) T.heap locs) : own_Endz p.tables e below (own_EndQ s k n Q) (T.setTop (mkF m pc Ls (w :: rest))) := by
  obtain ⟨fs, hr, hrun, hended, hW, hsame⟩ := X.leave (v := some w) (fun h => by rw [hret] at h; cases h) hlk
  have hnw : narrow t w = w := by cases t <;> first | (cases ht; done) | rfl
  exact ⟨_, _, retOut X hx hret hnw (Or.inr (Or.inr (Or.inr (Or.inr ⟨rfl, ht, hw⟩)))) hd hr, hrun, hended, _, _, rfl, q, ⟨_, rfl⟩, hW, hsame.mono hk hn⟩
theorem own_retV (X : Stand p l e R s m args below meth c T locs cells slots) (hx : p.tables.exec = Jvm.exec) (hlk : meth.locks = false) {pc : Nat} {Ls : Array Slot} (hret : meth.sig.returnType = none)
    (hd : decode c.code pc = .ok (.return_, 1)) {k n : Nat} {Q : Option Value → Heap → List Loc → Prop} (hk : cells ≤ k) (hn : slots ≤ n) (q : Q none T.heap locs) : own_Endz p.tables e below (own_EndQ s k n Q) (T.setTop (mkF m pc Ls [])) := by
  obtain ⟨fs, hr, hrun, hended, hW, hsame⟩ := X.leave (v := none) (fun _ => rfl) hlk
  exact ⟨_, _, X.returnOut hx hret hd hr, hrun, hended, _, _, rfl, q, ⟨_, rfl⟩, hW, hsame.mono hk hn⟩
theorem own_ev {t u : Term} {k : Int32} {args : Array Value} (h : (Cond.eq t (.int k)).value args s none s [] = some true) : t.eval args s none [] s = some (.int k) := by
  simp only [Cond.value, Term.eval] at h
  split at h <;> simp_all
theorem own_fld {t : Term} {C n d : String} {k : Int32} {x : Addr} {args : Array Value} (ht : t.eval args s none [] s = some (.ref x)) (h : (Cond.eq (.field t C n d) (.int k)).value args s none s [] = some true) : Fld s s.heap x C n d (.int k) :=
  Fld.start ((fld_at ht).symm.trans (own_ev (u := t) h))
theorem own_enum {Z : State} {h : Heap} {C f d : String} {ad : Nat → Addr} {n : Nat} (hn : n ≤ 2 ^ 31) (F : ∀ i, i < n → Fld Z h (ad i) C f d (.int i.toInt32)) (i j : Nat) (hi : i < n) (hj : j < n) : ad i = ad j ↔ i = j := by
  refine ⟨fun q => Classical.byContradiction fun ne => (F i hi).ne (F j hj) (fun v => ne ?_) q, fun q => q ▸ rfl⟩
  have q1 := congrArg Int32.toInt (Value.int.inj v)
  rw [len_toInt (by omega), len_toInt (by omega)] at q1
  omega
theorem own_cat {v : Value} (h : v.isRef = true) : v.category = 1 := by cases v <;> first | rfl | (cases h)
theorem own_evR {t u : Term} {a : Addr} {args : Array Value} (hu : u.eval args s none [] s = some (.ref a)) (h : (Cond.eq t u).value args s none s [] = some true) : t.eval args s none [] s = some (.ref a) := by
  simp only [Cond.value, hu] at h
  split at h <;> simp_all
theorem own_len {t : Term} {x : Addr} {cl : Cell} {k : Int32} {args : Array Value} (ht : t.eval args s none [] s = some (.ref x)) (hc : s.heap[x]? = some cl) (h : (Cond.eq (.length t) (.int k)).value args s none s [] = some true) : cl.slots.size.toInt32 = k ∧ cl.slots.size < 2 ^ 31 := by
  have e := own_ev (u := t) h
  obtain ⟨x', cl', e1, e2, e3⟩ := Term.length_spec e
  cases ht.symm.trans e1
  have e4 : cl' = cl := by
    simp only [State.arrayAt?, Option.bind_eq_bind, hc, Option.bind_some] at e2
    obtain ⟨k1, -, e2⟩ := Option.bind_eq_some_iff.mp e2
    split at e2
    · cases e2
    · split at e2
      · exact (Option.some.inj e2).symm
      · cases e2
  subst e4
  refine ⟨(Value.int.inj e3).symm, Classical.byContradiction fun hn => ?_⟩
  simp [Term.eval, ht, e2] at e
  exact hn e.1
theorem own_elem {t u : Term} {x a : Addr} {cl : Cell} {k : Int32} {args : Array Value} (ht : t.eval args s none [] s = some (.ref x)) (hc : s.heap[x]? = some cl) (hu : u.eval args s none [] s = some (.ref a)) (h : (Cond.eq (.elem t (.int k)) u).value args s none s [] = some true) : cl.slots[k.toNatClampNeg]? = some (.ref a) := by
  have e := own_evR hu h
  exact (elem_in e ht (Term.int_eval k) hc).2
theorem own_ite {α : Type} {P : α → Prop} {q : Prop} [Decidable q] {a b : α} (ha : P a) (hb : P b) : P (if q then a else b) := by split <;> assumption
theorem own_selp {C : String} {y y' : MethodName} {args a1 : Array Value} (hs : (Cond.selects C y' y').before args s = true) (hC : y'.cls = y.cls) (hpriv : s.PrivateAt y) (hinst : (Cond.instanceMethod y).before a1 s = true) (hy : y.cls ≠ "java/lang/invoke/MethodHandle" ∧ y.cls ≠ "java/lang/invoke/VarHandle") : (Cond.selects y.cls y y).before a1 s = true := by
  obtain ⟨c, r, mm, f1, f2, f3, f4, k, k1, k2⟩ := Cond.selects_spec hs
  have hc := findClass_of_methodNamed f3
  rw [hC] at hc
  exact Jvm.Stand.selects_self_of_private hc k1 k2 hpriv hinst hy
theorem own_i {x y : Int32} (h : x ≠ y) : (Value.int x) ≠ .int y := fun q => h (Value.int.inj q)
end New
end Jvm.RoadKit
namespace Jvm.Pilot.@@N@@
open Jvm Jvm.ClassFile Sem Op Lib Jvm.Free Jvm.Stand Jvm.LawKit Jvm.RoadKit Bundle Jvm.Pilot.@@N@@.Jvm.D
/-! the plain set: a list of slots, open addressing -/
abbrev own_stop (vs : List Int32) (x : Int32) (s : Nat) : Prop := vs.getD s 0 = 0 ∨ vs.getD s 0 = x + 1
def own_probe (vs : List Int32) (x : Int32) : Nat → Nat → Nat
  | 0, s => s
  | f + 1, s => if own_stop vs x s then s else own_probe vs x f ((s + 1) % vs.length)
def own_hash (n : Nat) (x : Int32) : Nat := (((x * (-1640531527 : Int32)).toInt % 4294967296) / ((4294967296 / n : Nat) : Int)).toNat
def own_find (vs : List Int32) (x : Int32) : Nat := own_probe vs x vs.length (own_hash vs.length x)
def own_reach (vs : List Int32) (x : Int32) (f s : Nat) : Prop := ∃ k, k ≤ f ∧ own_stop vs x ((s + k) % vs.length)
theorem own_probe_stop {vs : List Int32} {x : Int32} {f s : Nat} (h : own_stop vs x s) : own_probe vs x f s = s := by
  cases f with
  | zero => rfl
  | succ f => simp [own_probe, h]
theorem own_reach_step {vs : List Int32} {x : Int32} {f s : Nat} (hs : s < vs.length) (h : own_reach vs x f s) (hn : ¬ own_stop vs x s) : ∃ g, f = g + 1 ∧ own_reach vs x g ((s + 1) % vs.length) ∧ own_probe vs x f s = own_probe vs x g ((s + 1) % vs.length) := by
  obtain ⟨k, hk, hst⟩ := h
  cases k with
  | zero => rw [Nat.add_zero, Nat.mod_eq_of_lt hs] at hst; exact absurd hst hn
  | succ k =>
    cases f with
    | zero => omega
    | succ g =>
      refine ⟨g, rfl, ⟨k, by omega, ?_⟩, by simp [own_probe, hn]⟩
      have e : ((s + 1) % vs.length + k) % vs.length = (s + (k + 1)) % vs.length := by
        rw [Nat.mod_add_mod]; congr 1; omega
      rw [e]; exact hst
theorem own_reach_free {vs : List Int32} {x : Int32} {s j : Nat} (hs : s < vs.length) (hj : j < vs.length) (h0 : vs.getD j 0 = 0) : own_reach vs x vs.length s := by
  by_cases h : s ≤ j
  · refine ⟨j - s, by omega, ?_⟩
    rw [show s + (j - s) = j from by omega, Nat.mod_eq_of_lt hj]; exact Or.inl h0
  · refine ⟨vs.length - s + j, by omega, ?_⟩
    rw [show s + (vs.length - s + j) = j + vs.length from by omega, Nat.add_mod_right, Nat.mod_eq_of_lt hj]; exact Or.inl h0
theorem own_probe_lt {vs : List Int32} {x : Int32} {f s : Nat} (hs : s < vs.length) : own_probe vs x f s < vs.length := by
  induction f generalizing s with
  | zero => exact hs
  | succ f ih =>
    unfold own_probe
    split
    · exact hs
    · exact ih (Nat.mod_lt _ (by omega))
theorem own_probe_at {vs : List Int32} {x : Int32} {f s : Nat} (hs : s < vs.length) (h : own_reach vs x f s) : own_stop vs x (own_probe vs x f s) := by
  induction f generalizing s with
  | zero =>
    obtain ⟨k, hk, hst⟩ := h
    have : k = 0 := by omega
    subst this
    rw [Nat.add_zero, Nat.mod_eq_of_lt hs] at hst; exact hst
  | succ f ih =>
    by_cases hn : own_stop vs x s
    · rw [own_probe_stop hn]; exact hn
    · obtain ⟨g, hg, hr, he⟩ := own_reach_step hs h hn
      have : g = f := by omega
      subst this
      rw [he]; exact ih (Nat.mod_lt _ (by omega)) hr
theorem own_getD_set {vs : List Int32} {j i : Nat} {w : Int32} (hj : j < vs.length) : (vs.set j w).getD i 0 = if j = i then w else vs.getD i 0 := by
  simp only [List.getD_eq_getElem?_getD, List.getElem?_set]
  split
  · rename_i h; subst h; simp [hj]
  · rfl
theorem own_probe_other {vs : List Int32} {y w : Int32} {j i f s : Nat} (hj : j < vs.length) (h0 : vs.getD j 0 = 0) (hp : own_probe vs y f s = i) (hi : i ≠ j) : own_probe (vs.set j w) y f s = i := by
  induction f generalizing s with
  | zero => exact hp
  | succ f ih =>
    by_cases hn : own_stop vs y s
    · rw [own_probe_stop hn] at hp
      subst hp
      apply own_probe_stop
      unfold own_stop
      rw [own_getD_set hj, if_neg (Ne.symm hi)]; exact hn
    · have hsj : s ≠ j := fun q => hn (q ▸ Or.inl h0)
      have hn' : ¬ own_stop (vs.set j w) y s := by
        unfold own_stop
        rw [own_getD_set hj, if_neg (Ne.symm hsj)]; exact hn
      simp only [own_probe, hn, if_false] at hp
      simp only [own_probe, hn', if_false, List.length_set]
      exact ih hp
theorem own_probe_self {vs : List Int32} {x : Int32} {j f s : Nat} (hj : j < vs.length) (h0 : vs.getD j 0 = 0) (hp : own_probe vs x f s = j) : own_probe (vs.set j (x + 1)) x f s = j := by
  induction f generalizing s with
  | zero => exact hp
  | succ f ih =>
    by_cases hn : own_stop vs x s
    · rw [own_probe_stop hn] at hp
      subst hp
      apply own_probe_stop
      exact Or.inr (by rw [own_getD_set hj, if_pos rfl])
    · have hsj : s ≠ j := fun q => hn (q ▸ Or.inl h0)
      have hn' : ¬ own_stop (vs.set j (x + 1)) x s := by
        unfold own_stop
        rw [own_getD_set hj, if_neg (Ne.symm hsj)]; exact hn
      simp only [own_probe, hn, if_false] at hp
      simp only [own_probe, hn', if_false, List.length_set]
      exact ih hp
def own_two (n : Nat) : Prop := n = 8 ∨ n = 16
def own_good (vs : List Int32) : Prop := ∀ j, j < vs.length → vs.getD j 0 ≠ 0 → own_find vs (vs.getD j 0 - 1) = j
theorem own_hash_lt {n : Nat} (h : own_two n) (x : Int32) : own_hash n x < n := by
  unfold own_hash
  have h1 := Int.emod_nonneg (x * (-1640531527 : Int32)).toInt (show (4294967296 : Int) ≠ 0 by decide)
  have h2 := Int.emod_lt_of_pos (x * (-1640531527 : Int32)).toInt (show (0 : Int) < 4294967296 by decide)
  rcases h with rfl | rfl
  · show ((x * (-1640531527 : Int32)).toInt % 4294967296 / 536870912).toNat < 8
    omega
  · show ((x * (-1640531527 : Int32)).toInt % 4294967296 / 268435456).toNat < 16
    omega
theorem own_find_lt {vs : List Int32} (h : own_two vs.length) (x : Int32) : own_find vs x < vs.length := own_probe_lt (own_hash_lt h x)
theorem own_find_at {vs : List Int32} (h : own_two vs.length) (x : Int32) {j : Nat} (hj : j < vs.length) (h0 : vs.getD j 0 = 0) : own_stop vs x (own_find vs x) := own_probe_at (own_hash_lt h x) (own_reach_free (own_hash_lt h x) hj h0)
theorem own_sub_add (a : Int32) : a - 1 + 1 = a := by
  rw [← Int32.toInt_inj]
  have h1 := c_iadd (a - 1) 1
  have h2 := c_isub a 1
  have e1 : (1 : Int32).toInt = 1 := by decide
  have r1 := rng32 a
  have r2 := rng32 (a - 1 + 1)
  omega
theorem own_add_sub (a : Int32) : a + 1 - 1 = a := by
  rw [← Int32.toInt_inj]
  have h1 := c_isub (a + 1) 1
  have h2 := c_iadd a 1
  have e1 : (1 : Int32).toInt = 1 := by decide
  have r1 := rng32 a
  have r2 := rng32 (a + 1 - 1)
  omega
theorem own_good_set {vs : List Int32} {x : Int32} (h2 : own_two vs.length) (hg : own_good vs) (h0 : vs.getD (own_find vs x) 0 = 0) : own_good (vs.set (own_find vs x) (x + 1)) := by
  have hj := own_find_lt h2 x
  intro i hi hne
  rw [List.length_set] at hi
  rw [own_getD_set hj] at hne ⊢
  by_cases e : own_find vs x = i
  · subst e
    rw [if_pos rfl, own_add_sub]
    unfold own_find
    rw [List.length_set]
    exact own_probe_self hj h0 rfl
  · rw [if_neg e] at hne ⊢
    have h := hg i hi hne
    unfold own_find
    rw [List.length_set]
    exact own_probe_other hj h0 h (Ne.symm e)
def own_nz (vs : List Int32) : List Int32 := vs.filter (fun v => decide (v ≠ 0))
theorem own_nz_set {vs : List Int32} {j : Nat} {w : Int32} (hj : j < vs.length) (h0 : vs.getD j 0 = 0) (hw : w ≠ 0) : (own_nz (vs.set j w)).Perm (w :: own_nz vs) := by
  unfold own_nz
  induction vs generalizing j with
  | nil => simp at hj
  | cons a vs ih =>
    cases j with
    | zero =>
      have ha : a = 0 := h0
      subst ha
      simp [hw]
    | succ j =>
      have := ih (j := j) (by simpa using hj) (by simpa using h0)
      by_cases ha : a = 0
      · subst ha; simpa using this
      · simp only [List.set_cons_succ, List.filter_cons, decide_eq_true ha, if_true]
        exact (this.cons a).trans (List.Perm.swap w a _)
theorem own_mem_nz {vs : List Int32} {v : Int32} (h : v ∈ own_nz vs) : v ≠ 0 ∧ ∃ j, j < vs.length ∧ vs.getD j 0 = v := by
  simp only [own_nz, List.mem_filter, decide_eq_true_eq] at h
  obtain ⟨j, hj, e⟩ := List.mem_iff_getElem.mp h.1
  exact ⟨h.2, j, hj, by simp [List.getD_eq_getElem?_getD, hj, e]⟩
theorem own_nz_mem {vs : List Int32} {j : Nat} (hj : j < vs.length) (h : vs.getD j 0 ≠ 0) : vs.getD j 0 ∈ own_nz vs := by
  simp only [own_nz, List.mem_filter, decide_eq_true_eq]
  refine ⟨?_, h⟩
  simp [List.getD_eq_getElem?_getD, hj]
theorem own_nz_len (vs : List Int32) : (own_nz vs).length ≤ vs.length := List.length_filter_le _ _
theorem own_free {vs : List Int32} (h : (own_nz vs).length < vs.length) : ∃ j, j < vs.length ∧ vs.getD j 0 = 0 := by
  apply Classical.byContradiction
  intro hn
  have : own_nz vs = vs := by
    unfold own_nz
    rw [List.filter_eq_self]
    intro a ha
    obtain ⟨j, hj, e⟩ := List.mem_iff_getElem.mp ha
    refine decide_eq_true fun q => hn ⟨j, hj, ?_⟩
    simp [List.getD_eq_getElem?_getD, hj, e, q]
  rw [this] at h
  omega
/-- the slots vs hold the members es -/
def own_rep (vs es : List Int32) : Prop := own_two vs.length ∧ own_good vs ∧ (own_nz vs).Perm (es.map (· + 1)) ∧ es.length < vs.length ∧ ∀ e ∈ es, e + 1 ≠ 0
theorem own_rep_free {vs es : List Int32} (r : own_rep vs es) : ∃ j, j < vs.length ∧ vs.getD j 0 = 0 := own_free (by rw [r.2.2.1.length_eq, List.length_map]; exact r.2.2.2.1)
theorem own_inj1 {a b : Int32} (h : a + 1 = b + 1) : a = b := by rw [← own_add_sub a, ← own_add_sub b, h]
theorem own_rep_find {vs es : List Int32} (r : own_rep vs es) {x : Int32} (hx : x + 1 ≠ 0) : (vs.getD (own_find vs x) 0 = 0 ∧ x ∉ es) ∨ (vs.getD (own_find vs x) 0 ≠ 0 ∧ x ∈ es) := by
  obtain ⟨j, hj, h0⟩ := own_rep_free r
  have hst := own_find_at r.1 x hj h0
  have hlt := own_find_lt r.1 x
  by_cases hm : x ∈ es
  · refine Or.inr ⟨?_, hm⟩
    have : x + 1 ∈ own_nz vs := r.2.2.1.mem_iff.mpr (List.mem_map.mpr ⟨x, hm, rfl⟩)
    obtain ⟨hne, i, hi, e⟩ := own_mem_nz this
    have := r.2.1 i hi (by rw [e]; exact hx)
    rw [e, own_add_sub] at this
    rw [this, e]; exact hx
  · refine Or.inl ⟨?_, hm⟩
    rcases hst with h | h
    · exact h
    · exfalso
      have : vs.getD (own_find vs x) 0 ∈ own_nz vs := own_nz_mem hlt (by rw [h]; exact hx)
      rw [h] at this
      obtain ⟨y, hy, e⟩ := List.mem_map.mp (r.2.2.1.mem_iff.mp this)
      exact hm (own_inj1 e ▸ hy)
theorem own_rep_add {vs es : List Int32} (r : own_rep vs es) {x : Int32} (hx : x + 1 ≠ 0) (h0 : vs.getD (own_find vs x) 0 = 0) (hl : es.length + 1 < vs.length) : own_rep (vs.set (own_find vs x) (x + 1)) (x :: es) := by
  have hj := own_find_lt r.1 x
  refine ⟨by rw [List.length_set]; exact r.1, own_good_set r.1 r.2.1 h0, ?_, by rw [List.length_set]; exact hl, ?_⟩
  · exact (own_nz_set hj h0 hx).trans (r.2.2.1.cons _)
  · intro e he
    rcases List.mem_cons.mp he with rfl | he
    · exact hx
    · exact r.2.2.2.2 e he
theorem own_rep_zero (n : Nat) (h : own_two n) : own_rep (List.replicate n 0) [] := by
  have hz : own_nz (List.replicate n (0 : Int32)) = [] := by simp [own_nz]
  refine ⟨by rw [List.length_replicate]; exact h, ?_, by rw [hz]; exact List.Perm.refl _, by rw [List.length_replicate]; rcases h with rfl | rfl <;> decide, fun e he => by cases he⟩
  intro j hj hne
  exfalso; apply hne
  rw [List.length_replicate] at hj
  simp [List.getD_eq_getElem?_getD, hj]
/-- the members of a prefix of the slots, in grow's order: each is put in front -/
def own_pre (vs : List Int32) : Nat → List Int32
  | 0 => []
  | i + 1 => if vs.getD i 0 = 0 then own_pre vs i else (vs.getD i 0 - 1) :: own_pre vs i
theorem own_pre_mem {vs : List Int32} {i : Nat} {e : Int32} (h : e ∈ own_pre vs i) : ∃ j, j < i ∧ vs.getD j 0 ≠ 0 ∧ e = vs.getD j 0 - 1 := by
  induction i with
  | zero => cases h
  | succ i ih =>
    unfold own_pre at h
    split at h
    · obtain ⟨j, hj, r⟩ := ih h; exact ⟨j, by omega, r⟩
    · rename_i hz
      rcases List.mem_cons.mp h with rfl | h
      · exact ⟨i, by omega, hz, rfl⟩
      · obtain ⟨j, hj, r⟩ := ih h; exact ⟨j, by omega, r⟩
theorem own_pre_not {vs : List Int32} (hg : own_good vs) {i : Nat} (hi : i < vs.length) (hne : vs.getD i 0 ≠ 0) : (vs.getD i 0 - 1) ∉ own_pre vs i := by
  intro h
  obtain ⟨j, hj, h1, e⟩ := own_pre_mem h
  have a := hg i hi hne
  have b := hg j (by omega) h1
  rw [e, b] at a
  omega
theorem own_pre_len (vs : List Int32) (i : Nat) : (own_pre vs i).length ≤ i := by
  induction i with
  | zero => exact Nat.le_refl _
  | succ i ih =>
    unfold own_pre
    split
    · omega
    · simp only [List.length_cons]; omega
theorem own_pre_all {vs : List Int32} {i : Nat} (hi : i ≤ vs.length) : ((own_pre vs i).map (· + 1)).Perm (own_nz (vs.take i)) := by
  induction i with
  | zero => exact List.Perm.refl _
  | succ i ih =>
    have e : vs.take (i + 1) = vs.take i ++ [vs.getD i 0] := by
      rw [List.take_add_one]
      simp [List.getD_eq_getElem?_getD, show i < vs.length by omega]
    have := ih (by omega)
    unfold own_pre
    rw [e]
    unfold own_nz at this ⊢
    rw [List.filter_append]
    by_cases h : vs.getD i 0 = 0
    · rw [if_pos h, h]; simpa using this
    · rw [if_neg h]
      simp only [List.map_cons, own_sub_add]
      have e2 : List.filter (fun v => decide (v ≠ 0)) [vs.getD i 0] = [vs.getD i 0] := by simp only [List.filter_cons, ne_eq, h, not_false_eq_true, decide_true, if_true, List.filter_nil]
      rw [e2]
      exact (this.cons _).trans (List.perm_append_singleton _ _).symm
theorem own_pre_rep {vs es ws : List Int32} (r : own_rep vs es) (q : own_rep ws (own_pre vs vs.length)) (hl : es.length < ws.length) : own_rep ws es := by
  refine ⟨q.1, q.2.1, ?_, hl, r.2.2.2.2⟩
  have h := own_pre_all (vs := vs) (Nat.le_refl _)
  rw [List.take_length] at h
  exact q.2.2.1.trans (h.trans r.2.2.1)
theorem own_hash_eq {n : Nat} {sh : Int32} (h : (n = 8 ∧ sh = 29) ∨ (n = 16 ∧ sh = 28)) (x : Int32) : ((x * (-1640531527 : Int32)).toUInt32 >>> (sh &&& 31).toUInt32).toInt32 = (own_hash n x).toInt32 := by
  have h1 := Int.emod_nonneg (x * (-1640531527 : Int32)).toInt (show (4294967296 : Int) ≠ 0 by decide)
  have h2 := Int.emod_lt_of_pos (x * (-1640531527 : Int32)).toInt (show (0 : Int) < 4294967296 by decide)
  rw [← Int32.toInt_inj]
  rcases h with ⟨rfl, rfl⟩ | ⟨rfl, rfl⟩
  · rw [c_iushr _ 29 29 (by decide) (by decide), len_toInt (Nat.lt_trans (own_hash_lt (Or.inl rfl) x) (by decide))]
    show _ = (((x * (-1640531527 : Int32)).toInt % 4294967296 / 536870912).toNat : Int)
    omega
  · rw [c_iushr _ 28 28 (by decide) (by decide), len_toInt (Nat.lt_trans (own_hash_lt (Or.inr rfl) x) (by decide))]
    show _ = (((x * (-1640531527 : Int32)).toInt % 4294967296 / 268435456).toNat : Int)
    omega
theorem own_next {n s : Nat} (h : own_two n) (hs : s < n) : (s.toInt32 + 1) &&& (n.toInt32 - 1) = ((s + 1) % n).toInt32 := by
  have t8 : ∀ k : Fin 8, (k.val.toInt32 + 1) &&& ((8 : Nat).toInt32 - 1) = ((k.val + 1) % 8).toInt32 := by decide +kernel
  have t16 : ∀ k : Fin 16, (k.val.toInt32 + 1) &&& ((16 : Nat).toInt32 - 1) = ((k.val + 1) % 16).toInt32 := by decide +kernel
  rcases h with rfl | rfl
  · exact t8 ⟨s, hs⟩
  · exact t16 ⟨s, hs⟩
/-! arrays of ints -/
def own_Ai (Z : State) (h : Heap) (a : Addr) (vs : List Int32) : Prop := ∃ cl : Cell, Arr Z h a cl .int ∧ cl.slots.size = vs.length ∧ vs.length ≤ 4000 ∧ ∀ i, i < vs.length → cl.slots[i]? = some (.int (vs.getD i 0))
theorem own_Ai.lt {Z : State} {h : Heap} {a : Addr} {vs : List Int32} (F : own_Ai Z h a vs) : a < h.size := by obtain ⟨cl, A, -⟩ := F; exact A.lt
theorem own_Ai.ext {Z : State} {h h' : Heap} {a : Addr} {vs : List Int32} (F : own_Ai Z h a vs) (E : Ext h h') : own_Ai Z h' a vs := by obtain ⟨cl, A, r⟩ := F; exact ⟨cl, A.ext E, r⟩
theorem own_Ai.other {Z : State} {h h' : Heap} {a b : Addr} {sl : Nat} {v : Value} {vs : List Int32} (F : own_Ai Z h b vs) (W : Wr h h' a sl v) (q : b ≠ a) : own_Ai Z h' b vs := by obtain ⟨cl, A, r⟩ := F; exact ⟨cl, A.other W q, r⟩
theorem own_Ai.keep {Z : State} {h h' : Heap} {a : Addr} {vs : List Int32} {ws : List Addr} (F : own_Ai Z h a vs) (K : Keep h h' ws) (q : a ∉ ws) : own_Ai Z h' a vs := by obtain ⟨cl, A, r⟩ := F; exact ⟨cl, ⟨K.2.1 a cl A.1 q, A.2⟩, r⟩
theorem own_n32 {i : Nat} (h : i ≤ 4000) : i.toInt32.toNatClampNeg = i := by
  simp only [Int32.toNatClampNeg, len_toInt (show i < 2 ^ 31 by omega)]; rfl
theorem own_nn {i : Nat} (h : i ≤ 4000) : ¬ i.toInt32 < 0 := by
  rw [Int32.lt_iff_toInt_lt, len_toInt (by omega)]
  have e0 : (0 : Int32).toInt = 0 := by decide
  omega
theorem own_Ai_at {cl : Cell} {vs : List Int32} {i : Nat} (S : cl.slots.size = vs.length) (hl : vs.length ≤ 4000) (H : ∀ i, i < vs.length → cl.slots[i]? = some (.int (vs.getD i 0))) (hi : i < vs.length) : ¬ (i.toInt32 < 0 ∨ cl.slots.size ≤ i.toInt32.toNatClampNeg) ∧ cl.slots[i.toInt32.toNatClampNeg]? = some (.int (vs.getD i 0)) := by
  rw [own_n32 (by omega)]
  exact ⟨fun q => q.elim (own_nn (by omega)) (fun q => by omega), H i hi⟩
theorem own_Ai_set {Z : State} {h h' : Heap} {a : Addr} {cl : Cell} {vs : List Int32} {i : Nat} {x : Int32} (A : Arr Z h a cl .int) (S : cl.slots.size = vs.length) (hl : vs.length ≤ 4000) (H : ∀ i, i < vs.length → cl.slots[i]? = some (.int (vs.getD i 0))) (hi : i < vs.length) (W : Wr h h' a i.toInt32.toNatClampNeg (.int x)) : own_Ai Z h' a (vs.set i x) := by
  rw [own_n32 (by omega)] at W
  refine ⟨cl.setSlot i (.int x), A.same W, by rw [sz_set, List.length_set]; exact S, by rw [List.length_set]; exact hl, fun k hk => ?_⟩
  rw [List.length_set] at hk
  rw [own_getD_set hi]
  by_cases e : i = k
  · subst e
    rw [if_pos rfl]
    simp [Cell.setSlot, S, hi]
  · rw [if_neg e]
    have : (cl.setSlot i (.int x)).slots[k]? = cl.slots[k]? := Array.getElem?_setIfInBounds_ne e
    rw [this]; exact H k hk
theorem own_Ai_new {Z : State} {h : Heap} {a : Addr} {k : ClassId} {n : Nat} (hn : n ≤ 4000) (A : Arr Z h a (newA k .int n.toInt32) .int) : own_Ai Z h a (List.replicate n 0) := by
  have e : n.toInt32.toNatClampNeg = n := own_n32 hn
  refine ⟨_, A, by rw [sz_new, e, List.length_replicate], by rw [List.length_replicate]; exact hn, fun i hi => ?_⟩
  rw [List.length_replicate] at hi
  have : (newA k .int n.toInt32).slots[i]? = some (defaultValue .int) := by simp [newA, e, hi]
  rw [this]
  simp [List.getD_eq_getElem?_getD, hi, defaultValue]
theorem own_nin {x lo : Nat} {ws : List Addr} (h : x < lo) (hw : ∀ y ∈ ws, lo ≤ y) : x ∉ ws := fun q => absurd (hw x q) (Nat.not_le.mpr h)
theorem own_lt32 {i j : Nat} (hi : i ≤ 4000) (hj : j ≤ 4000) : (i.toInt32 < j.toInt32) ↔ i < j := by
  rw [Int32.lt_iff_toInt_lt, len_toInt (by omega), len_toInt (by omega)]; omega
theorem own_add1 {i : Nat} (hi : i ≤ 4000) : i.toInt32 + 1 = (i + 1).toInt32 := by
  rw [← Int32.toInt_inj, len_toInt (by omega)]
  have h1 := c_iadd i.toInt32 1
  have e1 : (1 : Int32).toInt = 1 := by decide
  have e2 := len_toInt (n := i) (by omega)
  have r := rng32 (i.toInt32 + 1)
  omega
def own_ins (es : List Int32) (x : Int32) : List Int32 := if x ∈ es then es else x :: es
def own_es (ms : List Int32) (cnt : Nat) : Nat → List Int32
  | 0 => []
  | k + 1 => if k < cnt then own_ins (own_es ms cnt k) (ms.getD k 0) else own_es ms cnt k
theorem own_take1 {ms : List Int32} {k : Nat} (h : k < ms.length) : ms.take (k + 1) = ms.take k ++ [ms.getD k 0] := by
  rw [List.take_add_one]
  simp [List.getD_eq_getElem?_getD, h]
theorem own_es_mem {ms : List Int32} {cnt k : Nat} (h : k ≤ ms.length) : ∀ e : Int32, e ∈ own_es ms cnt k ↔ e ∈ ms.take (min k cnt) := by
  induction k with
  | zero => intro e; simp [own_es]
  | succ k ih =>
    intro e
    have ih := ih (by omega)
    unfold own_es
    by_cases hc : k < cnt
    · rw [if_pos hc, show min (k + 1) cnt = k + 1 from by omega, own_take1 (by omega)]
      rw [show min k cnt = k from by omega] at ih
      unfold own_ins
      by_cases hm : ms.getD k 0 ∈ own_es ms cnt k
      · rw [if_pos hm, ih, List.mem_append]
        refine ⟨Or.inl, fun q => q.elim id fun q => ?_⟩
        rw [List.mem_singleton.mp q]; exact (ih _).mp hm
      · rw [if_neg hm, List.mem_cons, ih, List.mem_append, List.mem_singleton]; exact Or.comm
    · rw [if_neg hc, show min (k + 1) cnt = min k cnt from by omega]; exact ih e
def own_fr (ms : List Int32) (cnt k : Nat) : Nat := if k < cnt ∧ ms.getD k 0 ∉ ms.take k then 1 else 0
theorem own_es_len {ms : List Int32} {cnt k : Nat} (h : k < ms.length) : (own_es ms cnt (k + 1)).length = (own_es ms cnt k).length + own_fr ms cnt k := by
  have hm := own_es_mem (ms := ms) (cnt := cnt) (k := k) (by omega) (ms.getD k 0)
  show (if k < cnt then own_ins (own_es ms cnt k) (ms.getD k 0) else own_es ms cnt k).length = _
  unfold own_fr
  by_cases hc : k < cnt
  · rw [show min k cnt = k from by omega] at hm
    rw [if_pos hc]
    unfold own_ins
    by_cases hx : ms.getD k 0 ∈ own_es ms cnt k
    · rw [if_pos hx, if_neg (fun q => q.2 (hm.mp hx))]
      rfl
    · rw [if_neg hx, if_pos ⟨hc, fun q => hx (hm.mpr q)⟩]; rfl
  · rw [if_neg hc, if_neg (fun q => hc q.1)]; rfl
theorem own_es_le {ms : List Int32} {cnt k : Nat} (h : k ≤ ms.length) : (own_es ms cnt k).length ≤ k := by
  induction k with
  | zero => exact Nat.le_refl _
  | succ k ih =>
    have := ih (by omega)
    rw [own_es_len (by omega)]
    have : own_fr ms cnt k ≤ 1 := by unfold own_fr; split <;> omega
    omega
theorem own_addn {a b : Nat} (h : a + b ≤ 4000) : a.toInt32 + b.toInt32 = (a + b).toInt32 := by
  rw [← Int32.toInt_inj, len_toInt (by omega)]
  have h1 := c_iadd a.toInt32 b.toInt32
  have e1 := len_toInt (n := a) (by omega)
  have e2 := len_toInt (n := b) (by omega)
  have r := rng32 (a.toInt32 + b.toInt32)
  omega
theorem own_fr_le (ms : List Int32) (cnt k : Nat) : own_fr ms cnt k ≤ 1 := by unfold own_fr; split <;> omega
theorem own_sum {ms : List Int32} {cnt : Nat} (h : ms.length = 8) : (own_fr ms cnt 0).toInt32 + (own_fr ms cnt 1).toInt32 + (own_fr ms cnt 2).toInt32 + (own_fr ms cnt 3).toInt32 + (own_fr ms cnt 4).toInt32 + (own_fr ms cnt 5).toInt32 + (own_fr ms cnt 6).toInt32 + (own_fr ms cnt 7).toInt32 = (own_es ms cnt 8).length.toInt32 := by
  have f := own_fr_le ms cnt
  have f0 := f 0
  have f1 := f 1
  have f2 := f 2
  have f3 := f 3
  have f4 := f 4
  have f5 := f 5
  have f6 := f 6
  have f7 := f 7
  rw [own_addn (by omega), own_addn (by omega), own_addn (by omega), own_addn (by omega), own_addn (by omega), own_addn (by omega), own_addn (by omega)]
  congr 1
  rw [own_es_len (by omega), own_es_len (by omega), own_es_len (by omega), own_es_len (by omega), own_es_len (by omega), own_es_len (by omega), own_es_len (by omega), own_es_len (by omega)]
  show _ = 0 + _ + _ + _ + _ + _ + _ + _ + _
  omega
/-- the members of the first i slots, in toArray's order -/
def own_pf (vs : List Int32) (i : Nat) : List Int32 := (own_nz (vs.take i)).map (· - 1)
theorem own_pf_zero {vs : List Int32} {i : Nat} (hi : i < vs.length) (h : vs.getD i 0 = 0) : own_pf vs (i + 1) = own_pf vs i := by
  unfold own_pf own_nz
  rw [own_take1 hi, List.filter_append, h]; simp
theorem own_pf_one {vs : List Int32} {i : Nat} (hi : i < vs.length) (h : ¬ vs.getD i 0 = 0) : own_pf vs (i + 1) = own_pf vs i ++ [vs.getD i 0 - 1] := by
  unfold own_pf own_nz
  rw [own_take1 hi, List.filter_append]
  have e2 : List.filter (fun v => decide (v ≠ 0)) [vs.getD i 0] = [vs.getD i 0] := by simp only [List.filter_cons, ne_eq, h, not_false_eq_true, decide_true, if_true, List.filter_nil]
  rw [e2, List.map_append]; rfl
theorem own_pf_mono {vs : List Int32} {i j : Nat} (h : i ≤ j) : (own_pf vs i).length ≤ (own_pf vs j).length := by
  unfold own_pf own_nz
  rw [List.length_map, List.length_map]
  exact ((List.take_sublist_take_left h).filter _).length_le
theorem own_pf_perm {vs es : List Int32} (r : own_rep vs es) : (own_pf vs vs.length).Perm es := by
  unfold own_pf
  rw [List.take_length]
  have h := r.2.2.1.map (· - 1)
  rw [List.map_map] at h
  have e : List.map ((fun x : Int32 => x - 1) ∘ fun x => x + 1) es = es := by
    have : ((fun x : Int32 => x - 1) ∘ fun x => x + 1) = id := funext fun x => own_add_sub x
    rw [this, List.map_id]
  rw [e] at h; exact h
def own_fill (vs : List Int32) (n i : Nat) : List Int32 := own_pf vs i ++ List.replicate (n - (own_pf vs i).length) 0
theorem own_fill_len {vs : List Int32} {n i : Nat} (h : (own_pf vs i).length ≤ n) : (own_fill vs n i).length = n := by
  unfold own_fill; simp; omega
theorem own_fill_set {vs : List Int32} {n i : Nat} (hi : i < vs.length) (h0 : ¬ vs.getD i 0 = 0) (h : (own_pf vs (i + 1)).length ≤ n) : (own_fill vs n i).set (own_pf vs i).length (vs.getD i 0 - 1) = own_fill vs n (i + 1) := by
  unfold own_fill
  rw [own_pf_one hi h0] at h ⊢
  rw [List.length_append, List.length_singleton] at h ⊢
  obtain ⟨r, hr⟩ : ∃ r, n - (own_pf vs i).length = r + 1 := ⟨n - (own_pf vs i).length - 1, by omega⟩
  rw [hr, show n - ((own_pf vs i).length + 1) = r from by omega, List.replicate_succ, List.set_append_right _ _ (by omega)]
  simp
theorem own_fill_fin {vs : List Int32} {n : Nat} (h : (own_pf vs vs.length).length = n) : own_fill vs n vs.length = own_pf vs vs.length := by
  unfold own_fill; rw [h]; simp
theorem own_take_mem {as : List Int32} {x : Int32} {n : Nat} (h : x ∈ as.take n) : ∃ j, j < n ∧ j < as.length ∧ as.getD j 0 = x := by
  obtain ⟨j, hj, e⟩ := List.mem_iff_getElem.mp h
  rw [List.length_take] at hj
  refine ⟨j, by omega, by omega, ?_⟩
  rw [List.getElem_take] at e
  simp [List.getD_eq_getElem?_getD, show j < as.length by omega, e]
theorem own_mem_take {as : List Int32} {j n : Nat} (h : j < n) (hl : j < as.length) : as.getD j 0 ∈ as.take n := by
  have e : as.getD j 0 = (as.take n)[j]'(by rw [List.length_take]; omega) := by
    rw [List.getElem_take]; simp [List.getD_eq_getElem?_getD, hl]
  rw [e]; exact List.getElem_mem _
theorem own_getD_mem {as : List Int32} {j : Nat} (hl : j < as.length) : as.getD j 0 ∈ as := by
  simp [List.getD_eq_getElem?_getD, hl]
theorem own_pos {x m : Int32} (h : 0 ≤ m.toInt) : ¬ (x &&& m) + 1 = 0 := fun q => by
  have h1 := c_and x m h
  have h2 := c_iadd (x &&& m) 1
  rw [q] at h2
  have e0 : (0 : Int32).toInt = 0 := by decide
  have e1 : (1 : Int32).toInt = 1 := by decide
  have r := rng32 m
  omega
theorem own_cnt (x : Int32) : ∃ cnt : Nat, cnt ≤ 8 ∧ (x &&& 65535) % 9 = cnt.toInt32 := by
  have h1 := c_mask x 65535 16 (by decide) (by decide)
  have h2 := (c_irem (x &&& 65535) 9 9 (by decide)).1 (by omega)
  refine ⟨((x &&& 65535) % 9).toInt.toNat, by omega, ?_⟩
  rw [← Int32.toInt_inj, len_toInt (by omega)]
  omega
def own_Set (Z : State) (h : Heap) (lo : Nat) (ss : Addr) (es : List Int32) : Prop := ∃ (ar : Addr) (vs : List Int32) (sh : Int32), lo ≤ ss ∧ lo ≤ ar ∧ ss ≠ ar ∧ Exa Z h ss "com/example/axiomloom/axiomloom/reasoner/IntSet" ∧ Fld Z h ss "com/example/axiomloom/axiomloom/reasoner/IntSet" "slots" "[I" (.ref ar) ∧ Fld Z h ss "com/example/axiomloom/axiomloom/reasoner/IntSet" "shift" "I" (.int sh) ∧ Fld Z h ss "com/example/axiomloom/axiomloom/reasoner/IntSet" "size" "I" (.int es.length.toInt32) ∧ own_Ai Z h ar vs ∧ own_rep vs es ∧ ((vs.length = 8 ∧ sh = 29) ∨ (vs.length = 16 ∧ sh = 28)) ∧ ((vs.length = 8 ∧ es.length ≤ 6) ∨ (vs.length = 16 ∧ es.length ≤ 8))
theorem own_h28 {n : Nat} {sh : Int32} (h : (n = 8 ∧ sh = 29) ∨ (n = 16 ∧ sh = 28)) : own_two n := h.imp And.left And.left
theorem own_SetE {Z : State} {h : Heap} {lo : Nat} {ss : Addr} {es : List Int32} (S : own_Set Z h lo ss es) : Exa Z h ss "com/example/axiomloom/axiomloom/reasoner/IntSet" := by
  obtain ⟨ar, vs, sh, h1, h2, h3, h4, r⟩ := S
  exact h4
theorem own_mul4 {n : Nat} (h : n ≤ 100) : n.toInt32 * 4 = (n * 4).toInt32 ∧ n.toInt32 * 3 = (n * 3).toInt32 ∧ n.toInt32 * 2 = (n * 2).toInt32 := by
  have h1 := c_imul n.toInt32 4
  have h2 := c_imul n.toInt32 3
  have h5 := c_imul n.toInt32 2
  have e4 : (4 : Int32).toInt = 4 := by decide
  have e3 : (3 : Int32).toInt = 3 := by decide
  have e2 : (2 : Int32).toInt = 2 := by decide
  have en := len_toInt (n := n) (by omega)
  have r1 := rng32 (n.toInt32 * 4)
  have r2 := rng32 (n.toInt32 * 3)
  have r3 := rng32 (n.toInt32 * 2)
  rw [en, e4] at h1
  rw [en, e3] at h2
  rw [en, e2] at h5
  refine ⟨?_, ?_, ?_⟩
  · rw [← Int32.toInt_inj, len_toInt (by omega)]; omega
  · rw [← Int32.toInt_inj, len_toInt (by omega)]; omega
  · rw [← Int32.toInt_inj, len_toInt (by omega)]; omega
theorem d5_0 : decode prog_106_method_8_code 0 = .ok (.aload_n 0, 1) := by decide +kernel
theorem d5_1 : decode prog_106_method_8_code 1 = .ok (.arraylength, 1) := by decide +kernel
theorem d5_2 : decode prog_106_method_8_code 2 = .ok (.iconst 1, 1) := by decide +kernel
theorem d5_3 : decode prog_106_method_8_code 3 = .ok (.isub, 1) := by decide +kernel
theorem d5_4 : decode prog_106_method_8_code 4 = .ok (.istore_n 3, 1) := by decide +kernel
theorem d5_5 : decode prog_106_method_8_code 5 = .ok (.iload_n 2, 1) := by decide +kernel
theorem d5_6 : decode prog_106_method_8_code 6 = .ok (.ldc 36, 2) := by decide +kernel
theorem d5_8 : decode prog_106_method_8_code 8 = .ok (.imul, 1) := by decide +kernel
theorem d5_9 : decode prog_106_method_8_code 9 = .ok (.iload_n 1, 1) := by decide +kernel
theorem d5_10 : decode prog_106_method_8_code 10 = .ok (.iushr, 1) := by decide +kernel
theorem d5_11 : decode prog_106_method_8_code 11 = .ok (.istore 4, 2) := by decide +kernel
theorem d5_13 : decode prog_106_method_8_code 13 = .ok (.aload_n 0, 1) := by decide +kernel
theorem d5_14 : decode prog_106_method_8_code 14 = .ok (.iload 4, 2) := by decide +kernel
theorem d5_16 : decode prog_106_method_8_code 16 = .ok (.iaload, 1) := by decide +kernel
theorem d5_17 : decode prog_106_method_8_code 17 = .ok (.ifCond .eq 24, 3) := by decide +kernel
theorem d5_20 : decode prog_106_method_8_code 20 = .ok (.aload_n 0, 1) := by decide +kernel
theorem d5_21 : decode prog_106_method_8_code 21 = .ok (.iload 4, 2) := by decide +kernel
theorem d5_23 : decode prog_106_method_8_code 23 = .ok (.iaload, 1) := by decide +kernel
theorem d5_24 : decode prog_106_method_8_code 24 = .ok (.iload_n 2, 1) := by decide +kernel
theorem d5_25 : decode prog_106_method_8_code 25 = .ok (.iconst 1, 1) := by decide +kernel
theorem d5_26 : decode prog_106_method_8_code 26 = .ok (.iadd, 1) := by decide +kernel
theorem d5_27 : decode prog_106_method_8_code 27 = .ok (.if_icmp .eq 14, 3) := by decide +kernel
theorem d5_30 : decode prog_106_method_8_code 30 = .ok (.iload 4, 2) := by decide +kernel
theorem d5_32 : decode prog_106_method_8_code 32 = .ok (.iconst 1, 1) := by decide +kernel
theorem d5_33 : decode prog_106_method_8_code 33 = .ok (.iadd, 1) := by decide +kernel
theorem d5_34 : decode prog_106_method_8_code 34 = .ok (.iload_n 3, 1) := by decide +kernel
theorem d5_35 : decode prog_106_method_8_code 35 = .ok (.iand, 1) := by decide +kernel
theorem d5_36 : decode prog_106_method_8_code 36 = .ok (.istore 4, 2) := by decide +kernel
theorem d5_38 : decode prog_106_method_8_code 38 = .ok (.goto (-25), 3) := by decide +kernel
theorem d5_41 : decode prog_106_method_8_code 41 = .ok (.iload 4, 2) := by decide +kernel
theorem d5_43 : decode prog_106_method_8_code 43 = .ok (.ireturn, 1) := by decide +kernel
theorem pn_0 : plainName "com/example/axiomloom/axiomloom/reasoner/IntSet" = true := by first | (simp [plainName, overriddenIn]; done) | decide +kernel
theorem ef_5 (m : MethodId) (ar : Addr) (sh : Int32) (mb : Int32) : entryFrame m #[(.ref ar), (.int sh), (.int mb)] 5 = mkF m 0 #[rv ar, iv sh, iv mb, .unset, .unset] [] := by first | (simp [entryFrame, mkF, argsToLocals, Value.category]; done) | rfl
def Q5 (Z : State) (ar : Addr) (sh : Int32) (mb : Int32) (vs : List Int32) (h0 : Heap) (n0 : Nat) (v : Option Value) (h : Heap) (L : List Loc) : Prop := v = some (.int ((own_find vs mb).toInt32)) ∧ Fr n0 L ∧ h = h0
set_option maxRecDepth 65536 in
set_option maxHeartbeats 40000000 in
theorem rm5 (l : Launch) (Z : State) (a0 : Array Value) (hw : ∀ d ∈ tables_1, d.before a0 Z = true) (ws : List Jvm.Cond) (ar : Addr) (sh : Int32) (mb : Int32) (vs : List Int32) (h0 : Heap) (n0 : Nat) (Z0 : n0 ≤ h0.size) (Va : own_Ai Z h0 ar vs) (h2 : (vs.length = 8 ∧ sh = 29) ∨ (vs.length = 16 ∧ sh = 28)) (hfr : ∃ j, j < vs.length ∧ vs.getD j 0 = 0) :
    MetFree l (⟨"com/example/axiomloom/axiomloom/reasoner/IntSet", "find", "([III)I"⟩ : MethodName) (head1 (Jvm.Cond.code (⟨"com/example/axiomloom/axiomloom/reasoner/IntSet", "find", "([III)I"⟩ : MethodName) prog_106_method_8_code 5 (some .int) :: ws) ({ frames := 0, cells := 0, slots := 0, locals := 0 } : Room)) (fun a U => a = #[(.ref ar), (.int sh), (.int mb)] ∧ Z.Warmed39 U.vm ∧ U.heap = h0) (fun _ _ _ _ _ => True) (fun _ U o U' => ∃ v L, o = .returned v ∧ Q5 Z ar sh mb vs h0 n0 v U'.heap L ∧ FrameEnd U o U' L ({ frames := 0, cells := 0, slots := 0, locals := 0 } : Room).cells ({ frames := 0, cells := 0, slots := 0, locals := 0 } : Room).slots) := by
  refine MetFree.of_bodySF (plainFor_of_name pn_0) hisR ?_
  intro p e s m args below meth c s₁ Bd hml0 hP hK
  obtain ⟨rfl, hZ, hh⟩ := hP
  have hx := Bd.exec
  have hby := Bd.bytes
  have hml : c.maxLocals = 5 := hml0
  have hown : s.vm.findClass "com/example/axiomloom/axiomloom/reasoner/IntSet" = some m.cls := findClass_of_methodNamed Bd.named
  have hnm := (name_of_methodNamed Bd.named Bd.method).1
  have hlk : meth.locks = false := Bd.notSynchronized
  have hrt := Bd.returns
  have X0 : Stand p l e ({ frames := 0, cells := 0, slots := 0, locals := 0 } : Room) s m #[(.ref ar), (.int sh), (.int mb)] below meth c s₁ [] 0 0 := Stand.of_body Bd
  have e0 : s₁.heap = h0 := by rw [← hh, Bd.state]; rfl
  have N0 := Fr.nil n0
  show own_Endz p.tables e below (own_EndQ s ({ frames := 0, cells := 0, slots := 0, locals := 0 } : Room).cells ({ frames := 0, cells := 0, slots := 0, locals := 0 } : Room).slots (Q5 Z ar sh mb vs h0 n0)) (s₁.setTop (entryFrame m #[(.ref ar), (.int sh), (.int mb)] 5))
  refine own_cast (ef_5 m ar sh mb) ?_
  refine own_go (b := s₁.setTop (mkF m 1 #[rv ar, iv sh, iv mb, .unset, .unset] [(.ref ar)])) (fun t k => XS.aloadN X0.here hx rfl (hb hby d5_0) rfl rfl k) ?_
  obtain ⟨cl1, Ar1, Sz1, Ln1, Hs1⟩ := id Va
  refine own_go (b := s₁.setTop (mkF m 2 #[rv ar, iv sh, iv mb, .unset, .unset] [(.int (cl1.slots.size.toInt32))])) (fun t k => X0.arraylength hx (by rw [e0]; exact Ar1.1) (State.isArrayOf_alike hZ.alike Ar1.2.1) (g := (mkF m 1 #[rv ar, iv sh, iv mb, .unset, .unset] [(.ref ar)])) rfl rfl (hb hby d5_1) t k) ?_
  rw [Sz1]
  refine own_go (b := s₁.setTop (mkF m 3 #[rv ar, iv sh, iv mb, .unset, .unset] [(.int 1), (.int (vs.length.toInt32))])) (fun t k => XS.iconst X0.here hx rfl (hb hby d5_2) k) ?_
  refine own_go (b := s₁.setTop (mkF m 4 #[rv ar, iv sh, iv mb, .unset, .unset] [(.int ((vs.length.toInt32) - (1 : Int32)))])) (fun t k => XS.isub X0.here hx rfl (hb hby d5_3) rfl k) ?_
  refine own_go (b := s₁.setTop (mkF m 5 #[rv ar, iv sh, iv mb, iv ((vs.length.toInt32) - (1 : Int32)), .unset] [])) (fun t k => XS.istoreN X0.here hx rfl (hb hby d5_4) rfl (l' := #[rv ar, iv sh, iv mb, iv ((vs.length.toInt32) - (1 : Int32)), .unset]) rfl k) ?_
  refine own_go (b := s₁.setTop (mkF m 6 #[rv ar, iv sh, iv mb, iv ((vs.length.toInt32) - (1 : Int32)), .unset] [(.int mb)])) (fun t k => XS.iloadN X0.here hx rfl (hb hby d5_5) rfl  k) ?_
  refine own_go (b := s₁.setTop (mkF m 8 #[rv ar, iv sh, iv mb, iv ((vs.length.toInt32) - (1 : Int32)), .unset] [(.int (-1640531527)), (.int mb)])) (fun t k => X0.ldcInt hx hown (mvT hZ (hw _ (List.mem_of_getElem? (i := 31) rfl))) (g := (mkF m 6 #[rv ar, iv sh, iv mb, iv ((vs.length.toInt32) - (1 : Int32)), .unset] [(.int mb)])) rfl (hb hby d5_6) t k) ?_
  refine own_go (b := s₁.setTop (mkF m 9 #[rv ar, iv sh, iv mb, iv ((vs.length.toInt32) - (1 : Int32)), .unset] [(.int (mb * (-1640531527 : Int32)))])) (fun t k => XS.imul X0.here hx rfl (hb hby d5_8) rfl k) ?_
  refine own_go (b := s₁.setTop (mkF m 10 #[rv ar, iv sh, iv mb, iv ((vs.length.toInt32) - (1 : Int32)), .unset] [(.int sh), (.int (mb * (-1640531527 : Int32)))])) (fun t k => XS.iloadN X0.here hx rfl (hb hby d5_9) rfl  k) ?_
  refine own_go (b := s₁.setTop (mkF m 11 #[rv ar, iv sh, iv mb, iv ((vs.length.toInt32) - (1 : Int32)), .unset] [(.int (((mb * (-1640531527 : Int32)).toUInt32 >>> (sh &&& 31).toUInt32).toInt32))])) (fun t k => XS.iushr X0.here hx rfl (hb hby d5_10) rfl k) ?_
  refine own_go (b := s₁.setTop (mkF m 13 #[rv ar, iv sh, iv mb, iv ((vs.length.toInt32) - (1 : Int32)), iv (((mb * (-1640531527 : Int32)).toUInt32 >>> (sh &&& 31).toUInt32).toInt32)] [])) (fun t k => XS.istore X0.here hx rfl (hb hby d5_11) rfl (l' := #[rv ar, iv sh, iv mb, iv ((vs.length.toInt32) - (1 : Int32)), iv (((mb * (-1640531527 : Int32)).toUInt32 >>> (sh &&& 31).toUInt32).toInt32)]) rfl k) ?_
  rw [own_hash_eq h2 mb]
  have h2t := own_h28 h2
  obtain ⟨jf, hjf, hj0⟩ := hfr
  have LOOP : ∀ (f sI : Nat), sI < vs.length → own_reach vs mb f sI → own_probe vs mb f sI = own_find vs mb → own_Endz p.tables e below (own_EndQ s ({ frames := 0, cells := 0, slots := 0, locals := 0 } : Room).cells ({ frames := 0, cells := 0, slots := 0, locals := 0 } : Room).slots (Q5 Z ar sh mb vs h0 n0)) (s₁.setTop (mkF m 13 #[rv ar, iv sh, iv mb, iv ((vs.length.toInt32) - (1 : Int32)), iv (sI.toInt32)] [])) := by
    intro f
    induction f with
    | zero =>
      intro sI hsI hrI hpI
      refine own_go (b := s₁.setTop (mkF m 14 #[rv ar, iv sh, iv mb, iv ((vs.length.toInt32) - (1 : Int32)), iv (sI.toInt32)] [(.ref ar)])) (fun t k => XS.aloadN X0.here hx rfl (hb hby d5_13) rfl rfl k) ?_
      refine own_go (b := s₁.setTop (mkF m 16 #[rv ar, iv sh, iv mb, iv ((vs.length.toInt32) - (1 : Int32)), iv (sI.toInt32)] [(.int (sI.toInt32)), (.ref ar)])) (fun t k => XS.iload X0.here hx rfl (hb hby d5_14) rfl  k) ?_
      obtain ⟨cl2, Ar2, Sz2, Ln2, Hs2⟩ := id Va
      have hb2 := own_Ai_at Sz2 Ln2 Hs2 (i := sI) hsI
      refine own_go (b := s₁.setTop (mkF m 17 #[rv ar, iv sh, iv mb, iv ((vs.length.toInt32) - (1 : Int32)), iv (sI.toInt32)] [(.int (vs.getD sI 0))])) (fun t k => X0.iaload hx (j := (sI.toInt32)) (v := (.int (vs.getD sI 0))) (by rw [e0]; exact Ar2.1) (State.isArrayOf_alike hZ.alike Ar2.2.1) Ar2.2.2 hb2.1 hb2.2 (g := (mkF m 16 #[rv ar, iv sh, iv mb, iv ((vs.length.toInt32) - (1 : Int32)), iv (sI.toInt32)] [(.int (sI.toInt32)), (.ref ar)])) rfl rfl (hb hby d5_16) t k) ?_
      by_cases hc3 : (vs.getD sI 0) = (0 : Int32)
      · refine own_go (b := s₁.setTop (mkF m 41 #[rv ar, iv sh, iv mb, iv ((vs.length.toInt32) - (1 : Int32)), iv (sI.toInt32)] [])) (fun t k => XS.ifYes X0.here hx rfl (pc0 := 17) (pc' := 41) rfl (hb hby d5_17) rfl ((if0 _ _).trans (teq hc3).1) (by decide) (by decide) k) ?_
        refine own_go (b := s₁.setTop (mkF m 43 #[rv ar, iv sh, iv mb, iv ((vs.length.toInt32) - (1 : Int32)), iv (sI.toInt32)] [(.int (sI.toInt32))])) (fun t k => XS.iload X0.here hx rfl (hb hby d5_41) rfl  k) ?_
        exact own_retI X0 hx hlk hrt (hb hby d5_43) (Nat.le_of_ble_eq_true rfl) (Nat.le_of_ble_eq_true rfl) (⟨congrArg (fun q => some (Value.int (Nat.toInt32 q))) ((own_probe_stop (Or.inl hc3)).symm.trans hpI), N0, e0⟩)
      · refine own_go (b := s₁.setTop (mkF m 20 #[rv ar, iv sh, iv mb, iv ((vs.length.toInt32) - (1 : Int32)), iv (sI.toInt32)] [])) (fun t k => XS.ifNo X0.here hx rfl (hb hby d5_17) rfl ((if0 _ _).trans (feq hc3).1) k) ?_
        refine own_go (b := s₁.setTop (mkF m 21 #[rv ar, iv sh, iv mb, iv ((vs.length.toInt32) - (1 : Int32)), iv (sI.toInt32)] [(.ref ar)])) (fun t k => XS.aloadN X0.here hx rfl (hb hby d5_20) rfl rfl k) ?_
        refine own_go (b := s₁.setTop (mkF m 23 #[rv ar, iv sh, iv mb, iv ((vs.length.toInt32) - (1 : Int32)), iv (sI.toInt32)] [(.int (sI.toInt32)), (.ref ar)])) (fun t k => XS.iload X0.here hx rfl (hb hby d5_21) rfl  k) ?_
        obtain ⟨cl4, Ar4, Sz4, Ln4, Hs4⟩ := id Va
        have hb4 := own_Ai_at Sz4 Ln4 Hs4 (i := sI) hsI
        refine own_go (b := s₁.setTop (mkF m 24 #[rv ar, iv sh, iv mb, iv ((vs.length.toInt32) - (1 : Int32)), iv (sI.toInt32)] [(.int (vs.getD sI 0))])) (fun t k => X0.iaload hx (j := (sI.toInt32)) (v := (.int (vs.getD sI 0))) (by rw [e0]; exact Ar4.1) (State.isArrayOf_alike hZ.alike Ar4.2.1) Ar4.2.2 hb4.1 hb4.2 (g := (mkF m 23 #[rv ar, iv sh, iv mb, iv ((vs.length.toInt32) - (1 : Int32)), iv (sI.toInt32)] [(.int (sI.toInt32)), (.ref ar)])) rfl rfl (hb hby d5_23) t k) ?_
        refine own_go (b := s₁.setTop (mkF m 25 #[rv ar, iv sh, iv mb, iv ((vs.length.toInt32) - (1 : Int32)), iv (sI.toInt32)] [(.int mb), (.int (vs.getD sI 0))])) (fun t k => XS.iloadN X0.here hx rfl (hb hby d5_24) rfl  k) ?_
        refine own_go (b := s₁.setTop (mkF m 26 #[rv ar, iv sh, iv mb, iv ((vs.length.toInt32) - (1 : Int32)), iv (sI.toInt32)] [(.int 1), (.int mb), (.int (vs.getD sI 0))])) (fun t k => XS.iconst X0.here hx rfl (hb hby d5_25) k) ?_
        refine own_go (b := s₁.setTop (mkF m 27 #[rv ar, iv sh, iv mb, iv ((vs.length.toInt32) - (1 : Int32)), iv (sI.toInt32)] [(.int (mb + (1 : Int32))), (.int (vs.getD sI 0))])) (fun t k => XS.iadd X0.here hx rfl (hb hby d5_26) rfl k) ?_
        by_cases hc5 : (vs.getD sI 0) = (mb + (1 : Int32))
        · refine own_go (b := s₁.setTop (mkF m 41 #[rv ar, iv sh, iv mb, iv ((vs.length.toInt32) - (1 : Int32)), iv (sI.toInt32)] [])) (fun t k => XS.icmpYes X0.here hx rfl (pc0 := 27) (pc' := 41) rfl (hb hby d5_27) rfl (teq hc5).1 (by decide) (by decide) k) ?_
          refine own_go (b := s₁.setTop (mkF m 43 #[rv ar, iv sh, iv mb, iv ((vs.length.toInt32) - (1 : Int32)), iv (sI.toInt32)] [(.int (sI.toInt32))])) (fun t k => XS.iload X0.here hx rfl (hb hby d5_41) rfl  k) ?_
          exact own_retI X0 hx hlk hrt (hb hby d5_43) (Nat.le_of_ble_eq_true rfl) (Nat.le_of_ble_eq_true rfl) (⟨congrArg (fun q => some (Value.int (Nat.toInt32 q))) ((own_probe_stop (Or.inr hc5)).symm.trans hpI), N0, e0⟩)
        · refine own_go (b := s₁.setTop (mkF m 30 #[rv ar, iv sh, iv mb, iv ((vs.length.toInt32) - (1 : Int32)), iv (sI.toInt32)] [])) (fun t k => XS.icmpNo X0.here hx rfl (hb hby d5_27) rfl (feq hc5).1 k) ?_
          obtain ⟨g', hg', hr', he⟩ := own_reach_step hsI hrI (fun q => q.elim hc3 hc5)
          omega
    | succ f ih =>
      intro sI hsI hrI hpI
      refine own_go (b := s₁.setTop (mkF m 14 #[rv ar, iv sh, iv mb, iv ((vs.length.toInt32) - (1 : Int32)), iv (sI.toInt32)] [(.ref ar)])) (fun t k => XS.aloadN X0.here hx rfl (hb hby d5_13) rfl rfl k) ?_
      refine own_go (b := s₁.setTop (mkF m 16 #[rv ar, iv sh, iv mb, iv ((vs.length.toInt32) - (1 : Int32)), iv (sI.toInt32)] [(.int (sI.toInt32)), (.ref ar)])) (fun t k => XS.iload X0.here hx rfl (hb hby d5_14) rfl  k) ?_
      obtain ⟨cl6, Ar6, Sz6, Ln6, Hs6⟩ := id Va
      have hb6 := own_Ai_at Sz6 Ln6 Hs6 (i := sI) hsI
      refine own_go (b := s₁.setTop (mkF m 17 #[rv ar, iv sh, iv mb, iv ((vs.length.toInt32) - (1 : Int32)), iv (sI.toInt32)] [(.int (vs.getD sI 0))])) (fun t k => X0.iaload hx (j := (sI.toInt32)) (v := (.int (vs.getD sI 0))) (by rw [e0]; exact Ar6.1) (State.isArrayOf_alike hZ.alike Ar6.2.1) Ar6.2.2 hb6.1 hb6.2 (g := (mkF m 16 #[rv ar, iv sh, iv mb, iv ((vs.length.toInt32) - (1 : Int32)), iv (sI.toInt32)] [(.int (sI.toInt32)), (.ref ar)])) rfl rfl (hb hby d5_16) t k) ?_
      by_cases hc7 : (vs.getD sI 0) = (0 : Int32)
      · refine own_go (b := s₁.setTop (mkF m 41 #[rv ar, iv sh, iv mb, iv ((vs.length.toInt32) - (1 : Int32)), iv (sI.toInt32)] [])) (fun t k => XS.ifYes X0.here hx rfl (pc0 := 17) (pc' := 41) rfl (hb hby d5_17) rfl ((if0 _ _).trans (teq hc7).1) (by decide) (by decide) k) ?_
        refine own_go (b := s₁.setTop (mkF m 43 #[rv ar, iv sh, iv mb, iv ((vs.length.toInt32) - (1 : Int32)), iv (sI.toInt32)] [(.int (sI.toInt32))])) (fun t k => XS.iload X0.here hx rfl (hb hby d5_41) rfl  k) ?_
        exact own_retI X0 hx hlk hrt (hb hby d5_43) (Nat.le_of_ble_eq_true rfl) (Nat.le_of_ble_eq_true rfl) (⟨congrArg (fun q => some (Value.int (Nat.toInt32 q))) ((own_probe_stop (Or.inl hc7)).symm.trans hpI), N0, e0⟩)
      · refine own_go (b := s₁.setTop (mkF m 20 #[rv ar, iv sh, iv mb, iv ((vs.length.toInt32) - (1 : Int32)), iv (sI.toInt32)] [])) (fun t k => XS.ifNo X0.here hx rfl (hb hby d5_17) rfl ((if0 _ _).trans (feq hc7).1) k) ?_
        refine own_go (b := s₁.setTop (mkF m 21 #[rv ar, iv sh, iv mb, iv ((vs.length.toInt32) - (1 : Int32)), iv (sI.toInt32)] [(.ref ar)])) (fun t k => XS.aloadN X0.here hx rfl (hb hby d5_20) rfl rfl k) ?_
        refine own_go (b := s₁.setTop (mkF m 23 #[rv ar, iv sh, iv mb, iv ((vs.length.toInt32) - (1 : Int32)), iv (sI.toInt32)] [(.int (sI.toInt32)), (.ref ar)])) (fun t k => XS.iload X0.here hx rfl (hb hby d5_21) rfl  k) ?_
        obtain ⟨cl8, Ar8, Sz8, Ln8, Hs8⟩ := id Va
        have hb8 := own_Ai_at Sz8 Ln8 Hs8 (i := sI) hsI
        refine own_go (b := s₁.setTop (mkF m 24 #[rv ar, iv sh, iv mb, iv ((vs.length.toInt32) - (1 : Int32)), iv (sI.toInt32)] [(.int (vs.getD sI 0))])) (fun t k => X0.iaload hx (j := (sI.toInt32)) (v := (.int (vs.getD sI 0))) (by rw [e0]; exact Ar8.1) (State.isArrayOf_alike hZ.alike Ar8.2.1) Ar8.2.2 hb8.1 hb8.2 (g := (mkF m 23 #[rv ar, iv sh, iv mb, iv ((vs.length.toInt32) - (1 : Int32)), iv (sI.toInt32)] [(.int (sI.toInt32)), (.ref ar)])) rfl rfl (hb hby d5_23) t k) ?_
        refine own_go (b := s₁.setTop (mkF m 25 #[rv ar, iv sh, iv mb, iv ((vs.length.toInt32) - (1 : Int32)), iv (sI.toInt32)] [(.int mb), (.int (vs.getD sI 0))])) (fun t k => XS.iloadN X0.here hx rfl (hb hby d5_24) rfl  k) ?_
        refine own_go (b := s₁.setTop (mkF m 26 #[rv ar, iv sh, iv mb, iv ((vs.length.toInt32) - (1 : Int32)), iv (sI.toInt32)] [(.int 1), (.int mb), (.int (vs.getD sI 0))])) (fun t k => XS.iconst X0.here hx rfl (hb hby d5_25) k) ?_
        refine own_go (b := s₁.setTop (mkF m 27 #[rv ar, iv sh, iv mb, iv ((vs.length.toInt32) - (1 : Int32)), iv (sI.toInt32)] [(.int (mb + (1 : Int32))), (.int (vs.getD sI 0))])) (fun t k => XS.iadd X0.here hx rfl (hb hby d5_26) rfl k) ?_
        by_cases hc9 : (vs.getD sI 0) = (mb + (1 : Int32))
        · refine own_go (b := s₁.setTop (mkF m 41 #[rv ar, iv sh, iv mb, iv ((vs.length.toInt32) - (1 : Int32)), iv (sI.toInt32)] [])) (fun t k => XS.icmpYes X0.here hx rfl (pc0 := 27) (pc' := 41) rfl (hb hby d5_27) rfl (teq hc9).1 (by decide) (by decide) k) ?_
          refine own_go (b := s₁.setTop (mkF m 43 #[rv ar, iv sh, iv mb, iv ((vs.length.toInt32) - (1 : Int32)), iv (sI.toInt32)] [(.int (sI.toInt32))])) (fun t k => XS.iload X0.here hx rfl (hb hby d5_41) rfl  k) ?_
          exact own_retI X0 hx hlk hrt (hb hby d5_43) (Nat.le_of_ble_eq_true rfl) (Nat.le_of_ble_eq_true rfl) (⟨congrArg (fun q => some (Value.int (Nat.toInt32 q))) ((own_probe_stop (Or.inr hc9)).symm.trans hpI), N0, e0⟩)
        · refine own_go (b := s₁.setTop (mkF m 30 #[rv ar, iv sh, iv mb, iv ((vs.length.toInt32) - (1 : Int32)), iv (sI.toInt32)] [])) (fun t k => XS.icmpNo X0.here hx rfl (hb hby d5_27) rfl (feq hc9).1 k) ?_
          obtain ⟨g', hg', hr', he⟩ := own_reach_step hsI hrI (fun q => q.elim hc7 hc9)
          obtain rfl : g' = f := by omega
          refine own_go (b := s₁.setTop (mkF m 32 #[rv ar, iv sh, iv mb, iv ((vs.length.toInt32) - (1 : Int32)), iv (sI.toInt32)] [(.int (sI.toInt32))])) (fun t k => XS.iload X0.here hx rfl (hb hby d5_30) rfl  k) ?_
          refine own_go (b := s₁.setTop (mkF m 33 #[rv ar, iv sh, iv mb, iv ((vs.length.toInt32) - (1 : Int32)), iv (sI.toInt32)] [(.int 1), (.int (sI.toInt32))])) (fun t k => XS.iconst X0.here hx rfl (hb hby d5_32) k) ?_
          refine own_go (b := s₁.setTop (mkF m 34 #[rv ar, iv sh, iv mb, iv ((vs.length.toInt32) - (1 : Int32)), iv (sI.toInt32)] [(.int ((sI.toInt32) + (1 : Int32)))])) (fun t k => XS.iadd X0.here hx rfl (hb hby d5_33) rfl k) ?_
          refine own_go (b := s₁.setTop (mkF m 35 #[rv ar, iv sh, iv mb, iv ((vs.length.toInt32) - (1 : Int32)), iv (sI.toInt32)] [(.int ((vs.length.toInt32) - (1 : Int32))), (.int ((sI.toInt32) + (1 : Int32)))])) (fun t k => XS.iloadN X0.here hx rfl (hb hby d5_34) rfl  k) ?_
          refine own_go (b := s₁.setTop (mkF m 36 #[rv ar, iv sh, iv mb, iv ((vs.length.toInt32) - (1 : Int32)), iv (sI.toInt32)] [(.int (((sI.toInt32) + (1 : Int32)) &&& ((vs.length.toInt32) - (1 : Int32))))])) (fun t k => XS.iand X0.here hx rfl (hb hby d5_35) rfl k) ?_
          refine own_go (b := s₁.setTop (mkF m 38 #[rv ar, iv sh, iv mb, iv ((vs.length.toInt32) - (1 : Int32)), iv (((sI.toInt32) + (1 : Int32)) &&& ((vs.length.toInt32) - (1 : Int32)))] [])) (fun t k => XS.istore X0.here hx rfl (hb hby d5_36) rfl (l' := #[rv ar, iv sh, iv mb, iv ((vs.length.toInt32) - (1 : Int32)), iv (((sI.toInt32) + (1 : Int32)) &&& ((vs.length.toInt32) - (1 : Int32)))]) rfl k) ?_
          refine own_go (b := s₁.setTop (mkF m 13 #[rv ar, iv sh, iv mb, iv ((vs.length.toInt32) - (1 : Int32)), iv (((sI.toInt32) + (1 : Int32)) &&& ((vs.length.toInt32) - (1 : Int32)))] [])) (fun t k => XS.goto X0.here hx rfl (pc0 := 38) (pc' := 13) rfl (hb hby d5_38) (by decide) (by decide) k) ?_
          rw [own_next h2t hsI]
          exact ih _ (Nat.mod_lt _ (by omega)) hr' (he.symm.trans hpI)
  exact LOOP _ _ (own_hash_lt h2t mb) (own_reach_free (own_hash_lt h2t mb) hjf hj0) rfl
theorem d1_0 : decode prog_106_method_1_code 0 = .ok (.aload_n 0, 1) := by decide +kernel
theorem d1_1 : decode prog_106_method_1_code 1 = .ok (.invokespecial 1, 3) := by decide +kernel
theorem d1_4 : decode prog_106_method_1_code 4 = .ok (.aload_n 0, 1) := by decide +kernel
theorem d1_5 : decode prog_106_method_1_code 5 = .ok (.bipush 8, 2) := by decide +kernel
theorem d1_7 : decode prog_106_method_1_code 7 = .ok (.newarray .int, 2) := by decide +kernel
theorem d1_9 : decode prog_106_method_1_code 9 = .ok (.putfield 9, 3) := by decide +kernel
theorem d1_12 : decode prog_106_method_1_code 12 = .ok (.aload_n 0, 1) := by decide +kernel
theorem d1_13 : decode prog_106_method_1_code 13 = .ok (.getstatic 13, 3) := by decide +kernel
theorem d1_16 : decode prog_106_method_1_code 16 = .ok (.putfield 17, 3) := by decide +kernel
theorem d1_19 : decode prog_106_method_1_code 19 = .ok (.return_, 1) := by decide +kernel
theorem pd_0 : parseMethodDescriptor "()V" = some ⟨[], none⟩ := by decide +kernel
theorem ef_1 (m : MethodId) (ss : Addr) : entryFrame m #[(.ref ss)] 1 = mkF m 0 #[rv ss] [] := by first | (simp [entryFrame, mkF, argsToLocals, Value.category]; done) | rfl
def Q1 (Z : State) (ss : Addr) (lo : Nat) (h0 : Heap) (n0 : Nat) (v : Option Value) (h : Heap) (L : List Loc) : Prop := v = none ∧ Fr n0 L ∧ Keep h0 h [ss] ∧ own_Set Z h lo ss []
set_option maxRecDepth 65536 in
set_option maxHeartbeats 40000000 in
theorem rm1 (l : Launch) (Z : State) (a0 : Array Value) (hw : ∀ d ∈ tables_1, d.before a0 Z = true) (ws : List Jvm.Cond) (ss : Addr) (lo : Nat) (h0 : Heap) (n0 : Nat) (Z0 : n0 ≤ h0.size) (Ex : Exa Z h0 ss "com/example/axiomloom/axiomloom/reasoner/IntSet") (F0x : Fld Z h0 ss "com/example/axiomloom/axiomloom/reasoner/IntSet" "slots" "[I" .null) (F1x : Fld Z h0 ss "com/example/axiomloom/axiomloom/reasoner/IntSet" "shift" "I" (.int (0 : Int32))) (F2x : Fld Z h0 ss "com/example/axiomloom/axiomloom/reasoner/IntSet" "size" "I" (.int (0 : Int32))) (SF : Sta Z Z.heap "com/example/axiomloom/axiomloom/reasoner/IntSet" "FIRST_SHIFT" "I" (.int 29)) (gs : n0 ≤ ss) (hlo : lo ≤ ss) (hlo2 : lo ≤ h0.size) (Od : Old Z n0 h0) :
    MetFree l (⟨"com/example/axiomloom/axiomloom/reasoner/IntSet", "<init>", "()V"⟩ : MethodName) (head1 (Jvm.Cond.code (⟨"com/example/axiomloom/axiomloom/reasoner/IntSet", "<init>", "()V"⟩ : MethodName) prog_106_method_1_code 1 none :: ws) ({ frames := 1, cells := 1, slots := 8, locals := 12 } : Room)) (fun a U => a = #[(.ref ss)] ∧ Z.Warmed39 U.vm ∧ U.heap = h0) (fun _ _ _ _ _ => True) (fun _ U o U' => ∃ v L, o = .returned v ∧ Q1 Z ss lo h0 n0 v U'.heap L ∧ FrameEnd U o U' L ({ frames := 1, cells := 1, slots := 8, locals := 12 } : Room).cells ({ frames := 1, cells := 1, slots := 8, locals := 12 } : Room).slots) := by
  refine MetFree.of_bodySF (plainFor_of_name pn_0) hisR ?_
  intro p e s m args below meth c s₁ Bd hml0 hP hK
  obtain ⟨rfl, hZ, hh⟩ := hP
  have hx := Bd.exec
  have hby := Bd.bytes
  have hml : c.maxLocals = 1 := hml0
  have hown : s.vm.findClass "com/example/axiomloom/axiomloom/reasoner/IntSet" = some m.cls := findClass_of_methodNamed Bd.named
  have hnm := (name_of_methodNamed Bd.named Bd.method).1
  have hlk : meth.locks = false := Bd.notSynchronized
  have hrt := Bd.returns
  have X0 : Stand p l e ({ frames := 1, cells := 1, slots := 8, locals := 12 } : Room) s m #[(.ref ss)] below meth c s₁ [] 0 0 := Stand.of_body Bd
  have e0 : s₁.heap = h0 := by rw [← hh, Bd.state]; rfl
  have N0 := Fr.nil n0
  show own_Endz p.tables e below (own_EndQ s ({ frames := 1, cells := 1, slots := 8, locals := 12 } : Room).cells ({ frames := 1, cells := 1, slots := 8, locals := 12 } : Room).slots (Q1 Z ss lo h0 n0)) (s₁.setTop (entryFrame m #[(.ref ss)] 1))
  refine own_cast (ef_1 m ss) ?_
  refine own_go (b := s₁.setTop (mkF m 1 #[rv ss] [(.ref ss)])) (fun t k => XS.aloadN X0.here hx rfl (hb hby d1_0) rfl rfl k) ?_
  obtain ⟨T1, X1, e1, st1⟩ := initO X0 hx hZ hown (hw _ (List.mem_of_getElem? (i := 10) rfl)) (hw _ (List.mem_of_getElem? (i := 11) rfl)) (hw _ (List.mem_of_getElem? (i := 12) rfl)) e0 (g := (mkF m 1 #[rv ss] [(.ref ss)])) rfl (by rw [hml]; rfl) rfl (hb hby d1_1) (by decide) (W := 0) (by show 2 * 0 + _ ≤ _; exact Nat.le_of_eq rfl) (by decide)
  refine own_go (b := T1.setTop (mkF m 4 #[rv ss] [])) st1 ?_
  refine own_go (b := T1.setTop (mkF m 5 #[rv ss] [(.ref ss)])) (fun t k => XS.aloadN X1.here hx rfl (hb hby d1_4) rfl rfl k) ?_
  refine own_go (b := T1.setTop (mkF m 7 #[rv ss] [(.int 8), (.ref ss)])) (fun t k => XS.bipush X1.here hx rfl (hb hby d1_5) k) ?_
  obtain ⟨T2, h2, k2, X2, e2, E2, A2, st2⟩ := newP X1 hx hZ (hw _ (List.mem_of_getElem? (i := 3) rfl)) e1 (g := (mkF m 7 #[rv ss] [(.int 8), (.ref ss)])) rfl (hb hby d1_7) rfl (by decide) (cap := 8) (by decide) (by decide) (by decide) (by decide)
  obtain ⟨b2, g2⟩ : ∃ z, z = h0.size := ⟨_, rfl⟩
  rw [← g2] at A2 st2
  have g_b2 : n0 ≤ b2 := Nat.le_trans Z0 (Nat.le_of_eq g2.symm)
  have sz_b2 : h0.size ≤ b2 := Nat.le_trans (Keep.refl h0 [ss]).1 (Nat.le_of_eq g2.symm)
  have Zs2 : n0 ≤ h2.size := Nat.le_trans Z0 E2.1
  have Kp2 : Keep h0 h2 [ss] := (Keep.refl h0 [ss]).ext E2
  have Ol2 := Od.ext E2
  have V_b2 : own_Ai Z h2 b2 (List.replicate 8 0) := own_Ai_new (n := 8) (by decide) A2
  refine own_go (b := T2.setTop (mkF m 9 #[rv ss] [(.ref b2), (.ref ss)])) st2 ?_
  obtain ⟨T3, h3, X3, e3, W3, st3⟩ := putF X2 hx hZ hown (host := "") (Or.inl (hw _ (List.mem_of_getElem? (i := 13) rfl))) Via.refl e2 (F0x.ext E2) (Ex.ext E2) (Or.inl (hw _ (List.mem_of_getElem? (i := 14) rfl))) (hw _ (List.mem_of_getElem? (i := 5) rfl)) (ty := (.array .int)) (by decide) rfl rfl (g := (mkF m 9 #[rv ss] [(.ref b2), (.ref ss)])) rfl rfl (hb hby d1_9)
  have Fw3 : Fld Z h3 ss "com/example/axiomloom/axiomloom/reasoner/IntSet" "slots" "[I" (.ref b2) := Fld.same W3 (F0x.ext E2)
  have Zs3 : n0 ≤ h3.size := Nat.le_trans Zs2 (Keep.of_wr W3).1
  have N3 := Fr.snoc X3 N0 gs
  have Kp3 : Keep h0 h3 [ss] := Kp2.wr W3 (Or.inl (List.mem_of_getElem? (i := 0) rfl))
  have Ol3 := Ol2.wr W3 gs
  refine own_go (b := T3.setTop (mkF m 12 #[rv ss] [])) st3 ?_
  refine own_go (b := T3.setTop (mkF m 13 #[rv ss] [(.ref ss)])) (fun t k => XS.aloadN X3.here hx rfl (hb hby d1_12) rfl rfl k) ?_
  obtain ⟨T4, X4, e4, st4⟩ := getS2 X3 hx hZ hown (host := "") (Or.inl (hw _ (List.mem_of_getElem? (i := 15) rfl))) Via.refl e3 (SF.ext Ol3.2) (g := (mkF m 13 #[rv ss] [(.ref ss)])) rfl (hb hby d1_13)
  refine own_go (b := T4.setTop (mkF m 16 #[rv ss] [(.int 29), (.ref ss)])) st4 ?_
  obtain ⟨T5, h5, X5, e5, W5, st5⟩ := putF X4 hx hZ hown (host := "") (Or.inl (hw _ (List.mem_of_getElem? (i := 17) rfl))) Via.refl e4 ((F1x.ext E2).other W3 (Or.inr (slot_ne (Or.inl (hw _ (List.mem_of_getElem? (i := 18) rfl))) (Or.inl (hw _ (List.mem_of_getElem? (i := 14) rfl))) (by decide) (t := .int) (t' := (.array .int)) (by decide) (by decide)))) ((Ex.ext E2).wr W3) (Or.inl (hw _ (List.mem_of_getElem? (i := 18) rfl))) (hw _ (List.mem_of_getElem? (i := 5) rfl)) (ty := .int) (by decide) rfl rfl (g := (mkF m 16 #[rv ss] [(.int 29), (.ref ss)])) rfl rfl (hb hby d1_16)
  have Fw5 : Fld Z h5 ss "com/example/axiomloom/axiomloom/reasoner/IntSet" "shift" "I" (.int 29) := Fld.same W5 ((F1x.ext E2).other W3 (Or.inr (slot_ne (Or.inl (hw _ (List.mem_of_getElem? (i := 18) rfl))) (Or.inl (hw _ (List.mem_of_getElem? (i := 14) rfl))) (by decide) (t := .int) (t' := (.array .int)) (by decide) (by decide))))
  have Zs5 : n0 ≤ h5.size := Nat.le_trans Zs3 (Keep.of_wr W5).1
  have N5 := Fr.snoc X5 N3 gs
  have Kp5 : Keep h0 h5 [ss] := Kp3.wr W5 (Or.inl (List.mem_of_getElem? (i := 0) rfl))
  have Ol5 := Ol3.wr W5 gs
  refine own_go (b := T5.setTop (mkF m 19 #[rv ss] [])) st5 ?_
  exact own_retV X5 hx hlk hrt (hb hby d1_19) (Nat.le_of_ble_eq_true rfl) (Nat.le_of_ble_eq_true rfl) (⟨rfl, N5, by rw [e5]; exact Kp5, by rw [e5]; exact ⟨b2, List.replicate 8 0, 29, hlo, Nat.le_trans hlo2 sz_b2, (Nat.ne_of_lt (Nat.lt_of_lt_of_le (Ex).lt (Nat.le_of_eq g2.symm))), (((Ex.ext E2).wr W3).wr W5), (Fw3.other W5 (Or.inr (slot_ne (Or.inl (hw _ (List.mem_of_getElem? (i := 14) rfl))) (Or.inl (hw _ (List.mem_of_getElem? (i := 18) rfl))) (by decide) (t := (.array .int)) (t' := .int) (by decide) (by decide)))), Fw5, (((F2x.ext E2).other W3 (Or.inr (slot_ne (Or.inl (hw _ (List.mem_of_getElem? (i := 33) rfl))) (Or.inl (hw _ (List.mem_of_getElem? (i := 14) rfl))) (by decide) (t := .int) (t' := (.array .int)) (by decide) (by decide)))).other W5 (Or.inr (slot_ne (Or.inl (hw _ (List.mem_of_getElem? (i := 33) rfl))) (Or.inl (hw _ (List.mem_of_getElem? (i := 18) rfl))) (by decide) (t := .int) (t' := .int) (by decide) (by decide)))), ((V_b2.other W3 (Ne.symm (Nat.ne_of_lt (Nat.lt_of_lt_of_le (Ex).lt (Nat.le_of_eq g2.symm))))).other W5 (Ne.symm (Nat.ne_of_lt (Nat.lt_of_lt_of_le (Ex).lt (Nat.le_of_eq g2.symm))))), own_rep_zero 8 (Or.inl rfl), Or.inl ⟨by simp, rfl⟩, Or.inl ⟨by simp, by simp⟩⟩⟩)
theorem d12_0 : decode prog_106_method_7_code 0 = .ok (.aload_n 0, 1) := by decide +kernel
theorem d12_1 : decode prog_106_method_7_code 1 = .ok (.getfield 9, 3) := by decide +kernel
theorem d12_4 : decode prog_106_method_7_code 4 = .ok (.arraylength, 1) := by decide +kernel
theorem d12_5 : decode prog_106_method_7_code 5 = .ok (.iconst 2, 1) := by decide +kernel
theorem d12_6 : decode prog_106_method_7_code 6 = .ok (.imul, 1) := by decide +kernel
theorem d12_7 : decode prog_106_method_7_code 7 = .ok (.newarray .int, 2) := by decide +kernel
theorem d12_9 : decode prog_106_method_7_code 9 = .ok (.astore_n 1, 1) := by decide +kernel
theorem d12_10 : decode prog_106_method_7_code 10 = .ok (.aload_n 0, 1) := by decide +kernel
theorem d12_11 : decode prog_106_method_7_code 11 = .ok (.getfield 17, 3) := by decide +kernel
theorem d12_14 : decode prog_106_method_7_code 14 = .ok (.iconst 1, 1) := by decide +kernel
theorem d12_15 : decode prog_106_method_7_code 15 = .ok (.isub, 1) := by decide +kernel
theorem d12_16 : decode prog_106_method_7_code 16 = .ok (.istore_n 2, 1) := by decide +kernel
theorem d12_17 : decode prog_106_method_7_code 17 = .ok (.aload_n 0, 1) := by decide +kernel
theorem d12_18 : decode prog_106_method_7_code 18 = .ok (.getfield 9, 3) := by decide +kernel
theorem d12_21 : decode prog_106_method_7_code 21 = .ok (.astore_n 3, 1) := by decide +kernel
theorem d12_22 : decode prog_106_method_7_code 22 = .ok (.aload_n 3, 1) := by decide +kernel
theorem d12_23 : decode prog_106_method_7_code 23 = .ok (.arraylength, 1) := by decide +kernel
theorem d12_24 : decode prog_106_method_7_code 24 = .ok (.istore 4, 2) := by decide +kernel
theorem d12_26 : decode prog_106_method_7_code 26 = .ok (.iconst 0, 1) := by decide +kernel
theorem d12_27 : decode prog_106_method_7_code 27 = .ok (.istore 5, 2) := by decide +kernel
theorem d12_29 : decode prog_106_method_7_code 29 = .ok (.iload 5, 2) := by decide +kernel
theorem d12_31 : decode prog_106_method_7_code 31 = .ok (.iload 4, 2) := by decide +kernel
theorem d12_33 : decode prog_106_method_7_code 33 = .ok (.if_icmp .ge 33, 3) := by decide +kernel
theorem d12_36 : decode prog_106_method_7_code 36 = .ok (.aload_n 3, 1) := by decide +kernel
theorem d12_37 : decode prog_106_method_7_code 37 = .ok (.iload 5, 2) := by decide +kernel
theorem d12_39 : decode prog_106_method_7_code 39 = .ok (.iaload, 1) := by decide +kernel
theorem d12_40 : decode prog_106_method_7_code 40 = .ok (.istore 6, 2) := by decide +kernel
theorem d12_42 : decode prog_106_method_7_code 42 = .ok (.iload 6, 2) := by decide +kernel
theorem d12_44 : decode prog_106_method_7_code 44 = .ok (.ifCond .eq 16, 3) := by decide +kernel
theorem d12_47 : decode prog_106_method_7_code 47 = .ok (.aload_n 1, 1) := by decide +kernel
theorem d12_48 : decode prog_106_method_7_code 48 = .ok (.aload_n 1, 1) := by decide +kernel
theorem d12_49 : decode prog_106_method_7_code 49 = .ok (.iload_n 2, 1) := by decide +kernel
theorem d12_50 : decode prog_106_method_7_code 50 = .ok (.iload 6, 2) := by decide +kernel
theorem d12_52 : decode prog_106_method_7_code 52 = .ok (.iconst 1, 1) := by decide +kernel
theorem d12_53 : decode prog_106_method_7_code 53 = .ok (.isub, 1) := by decide +kernel
theorem d12_54 : decode prog_106_method_7_code 54 = .ok (.invokestatic 20, 3) := by decide +kernel
theorem d12_57 : decode prog_106_method_7_code 57 = .ok (.iload 6, 2) := by decide +kernel
theorem d12_59 : decode prog_106_method_7_code 59 = .ok (.iastore, 1) := by decide +kernel
theorem d12_60 : decode prog_106_method_7_code 60 = .ok (.iinc 5 1, 3) := by decide +kernel
theorem d12_63 : decode prog_106_method_7_code 63 = .ok (.goto (-34), 3) := by decide +kernel
theorem d12_66 : decode prog_106_method_7_code 66 = .ok (.aload_n 0, 1) := by decide +kernel
theorem d12_67 : decode prog_106_method_7_code 67 = .ok (.aload_n 1, 1) := by decide +kernel
theorem d12_68 : decode prog_106_method_7_code 68 = .ok (.putfield 9, 3) := by decide +kernel
theorem d12_71 : decode prog_106_method_7_code 71 = .ok (.aload_n 0, 1) := by decide +kernel
theorem d12_72 : decode prog_106_method_7_code 72 = .ok (.iload_n 2, 1) := by decide +kernel
theorem d12_73 : decode prog_106_method_7_code 73 = .ok (.putfield 17, 3) := by decide +kernel
theorem d12_76 : decode prog_106_method_7_code 76 = .ok (.return_, 1) := by decide +kernel
theorem pd_1 : parseMethodDescriptor "([III)I" = some ⟨[(.array .int), .int, .int], some .int⟩ := by decide +kernel
theorem ef_12 (m : MethodId) (ss : Addr) : entryFrame m #[(.ref ss)] 7 = mkF m 0 #[rv ss, .unset, .unset, .unset, .unset, .unset, .unset] [] := by first | (simp [entryFrame, mkF, argsToLocals, Value.category]; done) | rfl
def Q12 (Z : State) (ss : Addr) (ar : Addr) (vs : List Int32) (es : List Int32) (zz : Int32) (h0 : Heap) (n0 : Nat) (v : Option Value) (h : Heap) (L : List Loc) : Prop := v = none ∧ Fr n0 L ∧ Keep h0 h [ss] ∧ ∃ (gr : Addr) (ws : List Int32), h0.size ≤ gr ∧ Exa Z h ss "com/example/axiomloom/axiomloom/reasoner/IntSet" ∧ Fld Z h ss "com/example/axiomloom/axiomloom/reasoner/IntSet" "slots" "[I" (.ref gr) ∧ Fld Z h ss "com/example/axiomloom/axiomloom/reasoner/IntSet" "shift" "I" (.int (28 : Int32)) ∧ Fld Z h ss "com/example/axiomloom/axiomloom/reasoner/IntSet" "size" "I" (.int zz) ∧ own_Ai Z h gr ws ∧ ws.length = 16 ∧ own_rep ws es
set_option maxRecDepth 65536 in
set_option maxHeartbeats 40000000 in
theorem rm12 (l : Launch) (Z : State) (a0 : Array Value) (hw : ∀ d ∈ tables_1, d.before a0 Z = true) (ws : List Jvm.Cond) (ss : Addr) (ar : Addr) (vs : List Int32) (es : List Int32) (zz : Int32) (h0 : Heap) (n0 : Nat) (Z0 : n0 ≤ h0.size) (Ex : Exa Z h0 ss "com/example/axiomloom/axiomloom/reasoner/IntSet") (F0x : Fld Z h0 ss "com/example/axiomloom/axiomloom/reasoner/IntSet" "slots" "[I" (.ref ar)) (F1x : Fld Z h0 ss "com/example/axiomloom/axiomloom/reasoner/IntSet" "shift" "I" (.int (29 : Int32))) (F2x : Fld Z h0 ss "com/example/axiomloom/axiomloom/reasoner/IntSet" "size" "I" (.int zz)) (Va : own_Ai Z h0 ar vs) (hg8 : own_good vs) (hr : own_rep vs es) (hl8 : vs.length = 8) (gs : n0 ≤ ss) (hne : ss ≠ ar) :
    MetFree l (⟨"com/example/axiomloom/axiomloom/reasoner/IntSet", "grow", "()V"⟩ : MethodName) (head1 (Jvm.Cond.code (⟨"com/example/axiomloom/axiomloom/reasoner/IntSet", "grow", "()V"⟩ : MethodName) prog_106_method_7_code 7 none :: ws) ({ frames := 1, cells := 1, slots := 16, locals := 17 } : Room)) (fun a U => a = #[(.ref ss)] ∧ Z.Warmed39 U.vm ∧ U.heap = h0) (fun _ _ _ _ _ => True) (fun _ U o U' => ∃ v L, o = .returned v ∧ Q12 Z ss ar vs es zz h0 n0 v U'.heap L ∧ FrameEnd U o U' L ({ frames := 1, cells := 1, slots := 16, locals := 17 } : Room).cells ({ frames := 1, cells := 1, slots := 16, locals := 17 } : Room).slots) := by
  refine MetFree.of_bodySF (plainFor_of_name pn_0) hisR ?_
  intro p e s m args below meth c s₁ Bd hml0 hP hK
  obtain ⟨rfl, hZ, hh⟩ := hP
  have hx := Bd.exec
  have hby := Bd.bytes
  have hml : c.maxLocals = 7 := hml0
  have hown : s.vm.findClass "com/example/axiomloom/axiomloom/reasoner/IntSet" = some m.cls := findClass_of_methodNamed Bd.named
  have hnm := (name_of_methodNamed Bd.named Bd.method).1
  have hlk : meth.locks = false := Bd.notSynchronized
  have hrt := Bd.returns
  have X0 : Stand p l e ({ frames := 1, cells := 1, slots := 16, locals := 17 } : Room) s m #[(.ref ss)] below meth c s₁ [] 0 0 := Stand.of_body Bd
  have e0 : s₁.heap = h0 := by rw [← hh, Bd.state]; rfl
  have N0 := Fr.nil n0
  show own_Endz p.tables e below (own_EndQ s ({ frames := 1, cells := 1, slots := 16, locals := 17 } : Room).cells ({ frames := 1, cells := 1, slots := 16, locals := 17 } : Room).slots (Q12 Z ss ar vs es zz h0 n0)) (s₁.setTop (entryFrame m #[(.ref ss)] 7))
  refine own_cast (ef_12 m ss) ?_
  refine own_go (b := s₁.setTop (mkF m 1 #[rv ss, .unset, .unset, .unset, .unset, .unset, .unset] [(.ref ss)])) (fun t k => XS.aloadN X0.here hx rfl (hb hby d12_0) rfl rfl k) ?_
  obtain ⟨T1, X1, e1, st1⟩ := getF X0 hx hZ hown (host := "") (Or.inl (hw _ (List.mem_of_getElem? (i := 13) rfl))) Via.refl e0 F0x (g := (mkF m 1 #[rv ss, .unset, .unset, .unset, .unset, .unset, .unset] [(.ref ss)])) rfl rfl (hb hby d12_1)
  refine own_go (b := T1.setTop (mkF m 4 #[rv ss, .unset, .unset, .unset, .unset, .unset, .unset] [(.ref ar)])) st1 ?_
  obtain ⟨cl2, Ar2, Sz2, Ln2, Hs2⟩ := id Va
  refine own_go (b := T1.setTop (mkF m 5 #[rv ss, .unset, .unset, .unset, .unset, .unset, .unset] [(.int (cl2.slots.size.toInt32))])) (fun t k => X1.arraylength hx (by rw [e1]; exact Ar2.1) (State.isArrayOf_alike hZ.alike Ar2.2.1) (g := (mkF m 4 #[rv ss, .unset, .unset, .unset, .unset, .unset, .unset] [(.ref ar)])) rfl rfl (hb hby d12_4) t k) ?_
  rw [Sz2]
  rw [show vs.length.toInt32 = (8 : Int32) from by rw [hl8]; rfl]
  refine own_go (b := T1.setTop (mkF m 6 #[rv ss, .unset, .unset, .unset, .unset, .unset, .unset] [(.int 2), (.int 8)])) (fun t k => XS.iconst X1.here hx rfl (hb hby d12_5) k) ?_
  refine own_go (b := T1.setTop (mkF m 7 #[rv ss, .unset, .unset, .unset, .unset, .unset, .unset] [(.int ((8 : Int32) * (2 : Int32)))])) (fun t k => XS.imul X1.here hx rfl (hb hby d12_6) rfl k) ?_
  rw [show ((8 : Int32) * (2 : Int32)) = (16 : Int32) from by decide]
  obtain ⟨T3, h3, k3, X3, e3, E3, A3, st3⟩ := newP X1 hx hZ (hw _ (List.mem_of_getElem? (i := 3) rfl)) e1 (g := (mkF m 7 #[rv ss, .unset, .unset, .unset, .unset, .unset, .unset] [(.int 16)])) rfl (hb hby d12_7) rfl (by decide) (cap := 16) (by decide) (by decide) (by decide) (by decide)
  obtain ⟨b3, g3⟩ : ∃ z, z = h0.size := ⟨_, rfl⟩
  rw [← g3] at A3 st3
  have g_b3 : n0 ≤ b3 := Nat.le_trans Z0 (Nat.le_of_eq g3.symm)
  have sz_b3 : h0.size ≤ b3 := Nat.le_trans (Keep.refl h0 [ss]).1 (Nat.le_of_eq g3.symm)
  have Zs3 : n0 ≤ h3.size := Nat.le_trans Z0 E3.1
  have Kp3 : Keep h0 h3 [ss] := (Keep.refl h0 [ss]).ext E3
  have V_b3 : own_Ai Z h3 b3 (List.replicate 16 0) := own_Ai_new (n := 16) (by decide) A3
  refine own_go (b := T3.setTop (mkF m 9 #[rv ss, .unset, .unset, .unset, .unset, .unset, .unset] [(.ref b3)])) st3 ?_
  refine own_go (b := T3.setTop (mkF m 10 #[rv ss, rv b3, .unset, .unset, .unset, .unset, .unset] [])) (fun t k => XS.astoreN X3.here hx rfl (hb hby d12_9) rfl rfl (l' := #[rv ss, rv b3, .unset, .unset, .unset, .unset, .unset]) rfl k) ?_
  refine own_go (b := T3.setTop (mkF m 11 #[rv ss, rv b3, .unset, .unset, .unset, .unset, .unset] [(.ref ss)])) (fun t k => XS.aloadN X3.here hx rfl (hb hby d12_10) rfl rfl k) ?_
  obtain ⟨T4, X4, e4, st4⟩ := getF X3 hx hZ hown (host := "") (Or.inl (hw _ (List.mem_of_getElem? (i := 17) rfl))) Via.refl e3 (F1x.ext E3) (g := (mkF m 11 #[rv ss, rv b3, .unset, .unset, .unset, .unset, .unset] [(.ref ss)])) rfl rfl (hb hby d12_11)
  refine own_go (b := T4.setTop (mkF m 14 #[rv ss, rv b3, .unset, .unset, .unset, .unset, .unset] [(.int 29)])) st4 ?_
  refine own_go (b := T4.setTop (mkF m 15 #[rv ss, rv b3, .unset, .unset, .unset, .unset, .unset] [(.int 1), (.int 29)])) (fun t k => XS.iconst X4.here hx rfl (hb hby d12_14) k) ?_
  refine own_go (b := T4.setTop (mkF m 16 #[rv ss, rv b3, .unset, .unset, .unset, .unset, .unset] [(.int ((29 : Int32) - (1 : Int32)))])) (fun t k => XS.isub X4.here hx rfl (hb hby d12_15) rfl k) ?_
  rw [show ((29 : Int32) - (1 : Int32)) = (28 : Int32) from by decide]
  refine own_go (b := T4.setTop (mkF m 17 #[rv ss, rv b3, iv 28, .unset, .unset, .unset, .unset] [])) (fun t k => XS.istoreN X4.here hx rfl (hb hby d12_16) rfl (l' := #[rv ss, rv b3, iv 28, .unset, .unset, .unset, .unset]) rfl k) ?_
  refine own_go (b := T4.setTop (mkF m 18 #[rv ss, rv b3, iv 28, .unset, .unset, .unset, .unset] [(.ref ss)])) (fun t k => XS.aloadN X4.here hx rfl (hb hby d12_17) rfl rfl k) ?_
  obtain ⟨T5, X5, e5, st5⟩ := getF X4 hx hZ hown (host := "") (Or.inl (hw _ (List.mem_of_getElem? (i := 13) rfl))) Via.refl e4 (F0x.ext E3) (g := (mkF m 18 #[rv ss, rv b3, iv 28, .unset, .unset, .unset, .unset] [(.ref ss)])) rfl rfl (hb hby d12_18)
  refine own_go (b := T5.setTop (mkF m 21 #[rv ss, rv b3, iv 28, .unset, .unset, .unset, .unset] [(.ref ar)])) st5 ?_
  refine own_go (b := T5.setTop (mkF m 22 #[rv ss, rv b3, iv 28, rv ar, .unset, .unset, .unset] [])) (fun t k => XS.astoreN X5.here hx rfl (hb hby d12_21) rfl rfl (l' := #[rv ss, rv b3, iv 28, rv ar, .unset, .unset, .unset]) rfl k) ?_
  refine own_go (b := T5.setTop (mkF m 23 #[rv ss, rv b3, iv 28, rv ar, .unset, .unset, .unset] [(.ref ar)])) (fun t k => XS.aloadN X5.here hx rfl (hb hby d12_22) rfl rfl k) ?_
  obtain ⟨cl6, Ar6, Sz6, Ln6, Hs6⟩ := id (Va.ext E3)
  refine own_go (b := T5.setTop (mkF m 24 #[rv ss, rv b3, iv 28, rv ar, .unset, .unset, .unset] [(.int (cl6.slots.size.toInt32))])) (fun t k => X5.arraylength hx (by rw [e5]; exact Ar6.1) (State.isArrayOf_alike hZ.alike Ar6.2.1) (g := (mkF m 23 #[rv ss, rv b3, iv 28, rv ar, .unset, .unset, .unset] [(.ref ar)])) rfl rfl (hb hby d12_23) t k) ?_
  rw [Sz6]
  rw [show vs.length.toInt32 = (8 : Int32) from by rw [hl8]; rfl]
  refine own_go (b := T5.setTop (mkF m 26 #[rv ss, rv b3, iv 28, rv ar, iv 8, .unset, .unset] [])) (fun t k => XS.istore X5.here hx rfl (hb hby d12_24) rfl (l' := #[rv ss, rv b3, iv 28, rv ar, iv 8, .unset, .unset]) rfl k) ?_
  refine own_go (b := T5.setTop (mkF m 27 #[rv ss, rv b3, iv 28, rv ar, iv 8, .unset, .unset] [(.int 0)])) (fun t k => XS.iconst X5.here hx rfl (hb hby d12_26) k) ?_
  refine own_go (b := T5.setTop (mkF m 29 #[rv ss, rv b3, iv 28, rv ar, iv 8, iv 0, .unset] [])) (fun t k => XS.istore X5.here hx rfl (hb hby d12_27) rfl (l' := #[rv ss, rv b3, iv 28, rv ar, iv 8, iv 0, .unset]) rfl k) ?_
  have neg : ss ≠ b3 := (Nat.ne_of_lt (Nat.lt_of_lt_of_le (Ex).lt (Nat.le_of_eq g3.symm)))
  have nag : ar ≠ b3 := (Nat.ne_of_lt (Nat.lt_of_lt_of_le (Va).lt (Nat.le_of_eq g3.symm)))
  have LOOP : ∀ (kI iI : Nat) (wsI : List Int32) (s6 : Slot) (TJ : State) (hJ : Heap) (lJ : List Loc) (XJ : Stand p l e ({ frames := 1, cells := 1, slots := 16, locals := 17 } : Room) s m #[(.ref ss)] below meth c TJ lJ 1 16) (eJ : TJ.heap = hJ) (NJ : Fr n0 lJ) (ZJ : n0 ≤ hJ.size) (KJ : Keep h0 hJ [ss]) (EJ : Exa Z hJ ss "com/example/axiomloom/axiomloom/reasoner/IntSet") (FJ0 : Fld Z hJ ss "com/example/axiomloom/axiomloom/reasoner/IntSet" "slots" "[I" (.ref ar)) (FJ1 : Fld Z hJ ss "com/example/axiomloom/axiomloom/reasoner/IntSet" "shift" "I" (.int 29)) (FJ2 : Fld Z hJ ss "com/example/axiomloom/axiomloom/reasoner/IntSet" "size" "I" (.int zz)) (VaJ : own_Ai Z hJ ar vs) (VgJ : own_Ai Z hJ b3 wsI) (h16 : wsI.length = 16) (hrI : own_rep wsI (own_pre vs iI)) (hkI : iI + kI = 8) (ho6 : One s6), own_Endz p.tables e below (own_EndQ s ({ frames := 1, cells := 1, slots := 16, locals := 17 } : Room).cells ({ frames := 1, cells := 1, slots := 16, locals := 17 } : Room).slots (Q12 Z ss ar vs es zz h0 n0)) (TJ.setTop (mkF m 29 #[rv ss, rv b3, iv 28, rv ar, iv 8, iv (iI.toInt32), s6] [])) := by
    intro kI
    induction kI with
    | zero =>
      intro iI wsI s6 TJ hJ lJ XJ eJ NJ ZJ KJ EJ FJ0 FJ1 FJ2 VaJ VgJ h16 hrI hkI ho6
      refine own_go (b := TJ.setTop (mkF m 31 #[rv ss, rv b3, iv 28, rv ar, iv 8, iv (iI.toInt32), s6] [(.int (iI.toInt32))])) (fun t k => XS.iload XJ.here hx rfl (hb hby d12_29) rfl  k) ?_
      refine own_go (b := TJ.setTop (mkF m 33 #[rv ss, rv b3, iv 28, rv ar, iv 8, iv (iI.toInt32), s6] [(.int 8), (.int (iI.toInt32))])) (fun t k => XS.iload XJ.here hx rfl (hb hby d12_31) rfl  k) ?_
      have hi8 : ¬ (iI.toInt32) < (8 : Int32) := fun q => by have q' := (own_lt32 (i := iI) (j := 8) (by omega) (by decide)).mp q; omega
      refine own_go (b := TJ.setTop (mkF m 66 #[rv ss, rv b3, iv 28, rv ar, iv 8, iv (iI.toInt32), s6] [])) (fun t k => XS.icmpYes XJ.here hx rfl (pc0 := 33) (pc' := 66) rfl (hb hby d12_33) rfl (flt hi8).2.1 (by decide) (by decide) k) ?_
      refine own_go (b := TJ.setTop (mkF m 67 #[rv ss, rv b3, iv 28, rv ar, iv 8, iv (iI.toInt32), s6] [(.ref ss)])) (fun t k => XS.aloadN XJ.here hx rfl (hb hby d12_66) rfl rfl k) ?_
      refine own_go (b := TJ.setTop (mkF m 68 #[rv ss, rv b3, iv 28, rv ar, iv 8, iv (iI.toInt32), s6] [(.ref b3), (.ref ss)])) (fun t k => XS.aloadN XJ.here hx rfl (hb hby d12_67) rfl rfl k) ?_
      obtain ⟨T7, h7, X7, e7, W7, st7⟩ := putF XJ hx hZ hown (host := "") (Or.inl (hw _ (List.mem_of_getElem? (i := 13) rfl))) Via.refl eJ FJ0 EJ (Or.inl (hw _ (List.mem_of_getElem? (i := 14) rfl))) (hw _ (List.mem_of_getElem? (i := 5) rfl)) (ty := (.array .int)) (by decide) rfl rfl (g := (mkF m 68 #[rv ss, rv b3, iv 28, rv ar, iv 8, iv (iI.toInt32), s6] [(.ref b3), (.ref ss)])) rfl rfl (hb hby d12_68)
      have Fw7 : Fld Z h7 ss "com/example/axiomloom/axiomloom/reasoner/IntSet" "slots" "[I" (.ref b3) := Fld.same W7 FJ0
      have Zs7 : n0 ≤ h7.size := Nat.le_trans ZJ (Keep.of_wr W7).1
      have N7 := Fr.snoc X7 NJ gs
      have Kp7 : Keep h0 h7 [ss] := KJ.wr W7 (Or.inl (List.mem_of_getElem? (i := 0) rfl))
      refine own_go (b := T7.setTop (mkF m 71 #[rv ss, rv b3, iv 28, rv ar, iv 8, iv (iI.toInt32), s6] [])) st7 ?_
      refine own_go (b := T7.setTop (mkF m 72 #[rv ss, rv b3, iv 28, rv ar, iv 8, iv (iI.toInt32), s6] [(.ref ss)])) (fun t k => XS.aloadN X7.here hx rfl (hb hby d12_71) rfl rfl k) ?_
      refine own_go (b := T7.setTop (mkF m 73 #[rv ss, rv b3, iv 28, rv ar, iv 8, iv (iI.toInt32), s6] [(.int 28), (.ref ss)])) (fun t k => XS.iloadN X7.here hx rfl (hb hby d12_72) rfl  k) ?_
      obtain ⟨T8, h8, X8, e8, W8, st8⟩ := putF X7 hx hZ hown (host := "") (Or.inl (hw _ (List.mem_of_getElem? (i := 17) rfl))) Via.refl e7 (FJ1.other W7 (Or.inr (slot_ne (Or.inl (hw _ (List.mem_of_getElem? (i := 18) rfl))) (Or.inl (hw _ (List.mem_of_getElem? (i := 14) rfl))) (by decide) (t := .int) (t' := (.array .int)) (by decide) (by decide)))) (EJ.wr W7) (Or.inl (hw _ (List.mem_of_getElem? (i := 18) rfl))) (hw _ (List.mem_of_getElem? (i := 5) rfl)) (ty := .int) (by decide) rfl rfl (g := (mkF m 73 #[rv ss, rv b3, iv 28, rv ar, iv 8, iv (iI.toInt32), s6] [(.int 28), (.ref ss)])) rfl rfl (hb hby d12_73)
      have Fw8 : Fld Z h8 ss "com/example/axiomloom/axiomloom/reasoner/IntSet" "shift" "I" (.int 28) := Fld.same W8 (FJ1.other W7 (Or.inr (slot_ne (Or.inl (hw _ (List.mem_of_getElem? (i := 18) rfl))) (Or.inl (hw _ (List.mem_of_getElem? (i := 14) rfl))) (by decide) (t := .int) (t' := (.array .int)) (by decide) (by decide))))
      have Zs8 : n0 ≤ h8.size := Nat.le_trans Zs7 (Keep.of_wr W8).1
      have N8 := Fr.snoc X8 N7 gs
      have Kp8 : Keep h0 h8 [ss] := Kp7.wr W8 (Or.inl (List.mem_of_getElem? (i := 0) rfl))
      refine own_go (b := T8.setTop (mkF m 76 #[rv ss, rv b3, iv 28, rv ar, iv 8, iv (iI.toInt32), s6] [])) st8 ?_
      exact own_retV X8 hx hlk hrt (hb hby d12_76) (Nat.le_of_ble_eq_true rfl) (Nat.le_of_ble_eq_true rfl) (⟨rfl, N8, by rw [e8]; exact Kp8, by rw [e8]; exact ⟨b3, wsI, sz_b3, ((EJ.wr W7).wr W8), (Fw7.other W8 (Or.inr (slot_ne (Or.inl (hw _ (List.mem_of_getElem? (i := 14) rfl))) (Or.inl (hw _ (List.mem_of_getElem? (i := 18) rfl))) (by decide) (t := (.array .int)) (t' := .int) (by decide) (by decide)))), Fw8, ((FJ2.other W7 (Or.inr (slot_ne (Or.inl (hw _ (List.mem_of_getElem? (i := 33) rfl))) (Or.inl (hw _ (List.mem_of_getElem? (i := 14) rfl))) (by decide) (t := .int) (t' := (.array .int)) (by decide) (by decide)))).other W8 (Or.inr (slot_ne (Or.inl (hw _ (List.mem_of_getElem? (i := 33) rfl))) (Or.inl (hw _ (List.mem_of_getElem? (i := 18) rfl))) (by decide) (t := .int) (t' := .int) (by decide) (by decide)))), ((VgJ.other W7 (Ne.symm neg)).other W8 (Ne.symm neg)), h16, own_pre_rep hr (by rw [show own_pre vs vs.length = own_pre vs iI from by rw [hl8]; congr 1; omega]; exact hrI) (by have := hr.2.2.2.1; omega)⟩⟩)
    | succ kI ih =>
      intro iI wsI s6 TJ hJ lJ XJ eJ NJ ZJ KJ EJ FJ0 FJ1 FJ2 VaJ VgJ h16 hrI hkI ho6
      refine own_go (b := TJ.setTop (mkF m 31 #[rv ss, rv b3, iv 28, rv ar, iv 8, iv (iI.toInt32), s6] [(.int (iI.toInt32))])) (fun t k => XS.iload XJ.here hx rfl (hb hby d12_29) rfl  k) ?_
      refine own_go (b := TJ.setTop (mkF m 33 #[rv ss, rv b3, iv 28, rv ar, iv 8, iv (iI.toInt32), s6] [(.int 8), (.int (iI.toInt32))])) (fun t k => XS.iload XJ.here hx rfl (hb hby d12_31) rfl  k) ?_
      have hi8 : (iI.toInt32) < (8 : Int32) := (own_lt32 (i := iI) (j := 8) (by omega) (by decide)).mpr (by omega)
      refine own_go (b := TJ.setTop (mkF m 36 #[rv ss, rv b3, iv 28, rv ar, iv 8, iv (iI.toInt32), s6] [])) (fun t k => XS.icmpNo XJ.here hx rfl (hb hby d12_33) rfl (tlt hi8).2.1 k) ?_
      refine own_go (b := TJ.setTop (mkF m 37 #[rv ss, rv b3, iv 28, rv ar, iv 8, iv (iI.toInt32), s6] [(.ref ar)])) (fun t k => XS.aloadN XJ.here hx rfl (hb hby d12_36) rfl rfl k) ?_
      refine own_go (b := TJ.setTop (mkF m 39 #[rv ss, rv b3, iv 28, rv ar, iv 8, iv (iI.toInt32), s6] [(.int (iI.toInt32)), (.ref ar)])) (fun t k => XS.iload XJ.here hx rfl (hb hby d12_37) rfl  k) ?_
      obtain ⟨cl9, Ar9, Sz9, Ln9, Hs9⟩ := id VaJ
      have hb9 := own_Ai_at Sz9 Ln9 Hs9 (i := iI) (by omega)
      refine own_go (b := TJ.setTop (mkF m 40 #[rv ss, rv b3, iv 28, rv ar, iv 8, iv (iI.toInt32), s6] [(.int (vs.getD iI 0))])) (fun t k => XJ.iaload hx (j := (iI.toInt32)) (v := (.int (vs.getD iI 0))) (by rw [eJ]; exact Ar9.1) (State.isArrayOf_alike hZ.alike Ar9.2.1) Ar9.2.2 hb9.1 hb9.2 (g := (mkF m 39 #[rv ss, rv b3, iv 28, rv ar, iv 8, iv (iI.toInt32), s6] [(.int (iI.toInt32)), (.ref ar)])) rfl rfl (hb hby d12_39) t k) ?_
      refine own_go (b := TJ.setTop (mkF m 42 #[rv ss, rv b3, iv 28, rv ar, iv 8, iv (iI.toInt32), iv (vs.getD iI 0)] [])) (fun t k => XS.istore XJ.here hx rfl (hb hby d12_40) rfl (l' := #[rv ss, rv b3, iv 28, rv ar, iv 8, iv (iI.toInt32), iv (vs.getD iI 0)]) (XS.store1 (o := s6) rfl ho6 rfl) k) ?_
      refine own_go (b := TJ.setTop (mkF m 44 #[rv ss, rv b3, iv 28, rv ar, iv 8, iv (iI.toInt32), iv (vs.getD iI 0)] [(.int (vs.getD iI 0))])) (fun t k => XS.iload XJ.here hx rfl (hb hby d12_42) rfl  k) ?_
      by_cases hc10 : (vs.getD iI 0) = (0 : Int32)
      · refine own_go (b := TJ.setTop (mkF m 60 #[rv ss, rv b3, iv 28, rv ar, iv 8, iv (iI.toInt32), iv (vs.getD iI 0)] [])) (fun t k => XS.ifYes XJ.here hx rfl (pc0 := 44) (pc' := 60) rfl (hb hby d12_44) rfl ((if0 _ _).trans (teq hc10).1) (by decide) (by decide) k) ?_
        refine own_go (b := TJ.setTop (mkF m 63 #[rv ss, rv b3, iv 28, rv ar, iv 8, iv ((iI.toInt32) + (1 : Int32)), iv (vs.getD iI 0)] [])) (fun t k => XS.iinc XJ.here hx rfl (hb hby d12_60) rfl (l' := #[rv ss, rv b3, iv 28, rv ar, iv 8, iv ((iI.toInt32) + (1 : Int32)), iv (vs.getD iI 0)]) rfl k) ?_
        refine own_go (b := TJ.setTop (mkF m 29 #[rv ss, rv b3, iv 28, rv ar, iv 8, iv ((iI.toInt32) + (1 : Int32)), iv (vs.getD iI 0)] [])) (fun t k => XS.goto XJ.here hx rfl (pc0 := 63) (pc' := 29) rfl (hb hby d12_63) (by decide) (by decide) k) ?_
        rw [own_add1 (by omega)]
        exact ih (iI + 1) _ _ _ _ _ XJ eJ NJ ZJ KJ EJ FJ0 FJ1 FJ2 VaJ VgJ (by exact h16) (by rw [show own_pre vs (iI + 1) = own_pre vs iI from if_pos hc10]; exact hrI) (by omega) (One.val rfl)
      · refine own_go (b := TJ.setTop (mkF m 47 #[rv ss, rv b3, iv 28, rv ar, iv 8, iv (iI.toInt32), iv (vs.getD iI 0)] [])) (fun t k => XS.ifNo XJ.here hx rfl (hb hby d12_44) rfl ((if0 _ _).trans (feq hc10).1) k) ?_
        refine own_go (b := TJ.setTop (mkF m 48 #[rv ss, rv b3, iv 28, rv ar, iv 8, iv (iI.toInt32), iv (vs.getD iI 0)] [(.ref b3)])) (fun t k => XS.aloadN XJ.here hx rfl (hb hby d12_47) rfl rfl k) ?_
        refine own_go (b := TJ.setTop (mkF m 49 #[rv ss, rv b3, iv 28, rv ar, iv 8, iv (iI.toInt32), iv (vs.getD iI 0)] [(.ref b3), (.ref b3)])) (fun t k => XS.aloadN XJ.here hx rfl (hb hby d12_48) rfl rfl k) ?_
        refine own_go (b := TJ.setTop (mkF m 50 #[rv ss, rv b3, iv 28, rv ar, iv 8, iv (iI.toInt32), iv (vs.getD iI 0)] [(.int 28), (.ref b3), (.ref b3)])) (fun t k => XS.iloadN XJ.here hx rfl (hb hby d12_49) rfl  k) ?_
        refine own_go (b := TJ.setTop (mkF m 52 #[rv ss, rv b3, iv 28, rv ar, iv 8, iv (iI.toInt32), iv (vs.getD iI 0)] [(.int (vs.getD iI 0)), (.int 28), (.ref b3), (.ref b3)])) (fun t k => XS.iload XJ.here hx rfl (hb hby d12_50) rfl  k) ?_
        refine own_go (b := TJ.setTop (mkF m 53 #[rv ss, rv b3, iv 28, rv ar, iv 8, iv (iI.toInt32), iv (vs.getD iI 0)] [(.int 1), (.int (vs.getD iI 0)), (.int 28), (.ref b3), (.ref b3)])) (fun t k => XS.iconst XJ.here hx rfl (hb hby d12_52) k) ?_
        refine own_go (b := TJ.setTop (mkF m 54 #[rv ss, rv b3, iv 28, rv ar, iv 8, iv (iI.toInt32), iv (vs.getD iI 0)] [(.int ((vs.getD iI 0) - (1 : Int32))), (.int 28), (.ref b3), (.ref b3)])) (fun t k => XS.isub XJ.here hx rfl (hb hby d12_53) rfl k) ?_
        obtain ⟨_, _, ⟨T11, L11, k11, n11⟩, -, X11, ⟨Lc11, hQ11, l11, y11, z11⟩, st11⟩ := Jvm.LawKit.callS XJ hx (y := (⟨"com/example/axiomloom/axiomloom/reasoner/IntSet", "find", "([III)I"⟩ : MethodName)) hown (mvT hZ (hw _ (List.mem_of_getElem? (i := 28) rfl))) (mvT hZ (hw _ (List.mem_of_getElem? (i := 29) rfl))) (mvT hZ (hw _ (List.mem_of_getElem? (i := 6) rfl))) (mvT hZ (hw _ (List.mem_of_getElem? (i := 30) rfl))) (by decide) (backOf (W := 1) (rm5 l Z a0 hw [] b3 (28 : Int32) ((vs.getD iI 0) - (1 : Int32)) wsI hJ n0 ZJ VgJ (Or.inr ⟨h16, rfl⟩) (own_rep_free hrI)) hZ (hw _ (List.mem_of_getElem? (i := 30) rfl)) (hw _ (List.mem_of_getElem? (i := 6) rfl)) (by decide) (by decide)) (g := (mkF m 54 #[rv ss, rv b3, iv 28, rv ar, iv 8, iv (iI.toInt32), iv (vs.getD iI 0)] [(.int ((vs.getD iI 0) - (1 : Int32))), (.int 28), (.ref b3), (.ref b3)])) rfl (by rw [hml]; rfl) (argsL := [(.ref b3), (.int 28), (.int ((vs.getD iI 0) - (1 : Int32)))]) (rest := [(.ref b3)]) (lenOf pd_1 rfl) rfl (by show 2 * 0 + _ ≤ _; exact Nat.le_of_eq rfl) (hb hby d12_54) (fun _ _ => ⟨rfl, eJ, (by decide : 1 + 0 ≤ _), (by decide : 16 + 0 ≤ _)⟩)
        dsimp only [Pt.U, Pt.locs, Pt.cells, Pt.slots] at X11 l11 y11 z11 st11 hQ11
        subst l11 y11 z11
        obtain ⟨rfl, N11q, e11⟩ := hQ11
        have N11 := Fr.app NJ N11q
        obtain ⟨lq11, X11, N11⟩ : ∃ lq, Stand p l e ({ frames := 1, cells := 1, slots := 16, locals := 17 } : Room) s m #[(.ref ss)] below meth c T11 lq 1 16 ∧ Fr n0 lq := ⟨_, X11, N11⟩
        refine own_go (b := T11.setTop (mkF m 57 #[rv ss, rv b3, iv 28, rv ar, iv 8, iv (iI.toInt32), iv (vs.getD iI 0)] [(.int ((own_find wsI ((vs.getD iI 0) - (1 : Int32))).toInt32)), (.ref b3)])) st11 ?_
        have hnp := own_pre_not hg8 (i := iI) (by omega) hc10
        have hx0 : (vs.getD iI 0 - 1) + 1 ≠ 0 := by rw [own_sub_add]; exact hc10
        have hfz := ((own_rep_find hrI hx0).resolve_right (fun q => hnp q.2)).1
        have hrN := own_rep_add hrI hx0 hfz (by have := own_pre_len vs iI; omega)
        rw [own_sub_add] at hrN
        refine own_go (b := T11.setTop (mkF m 59 #[rv ss, rv b3, iv 28, rv ar, iv 8, iv (iI.toInt32), iv (vs.getD iI 0)] [(.int (vs.getD iI 0)), (.int ((own_find wsI ((vs.getD iI 0) - (1 : Int32))).toInt32)), (.ref b3)])) (fun t k => XS.iload X11.here hx rfl (hb hby d12_57) rfl  k) ?_
        obtain ⟨cl12, Ar12, Sz12, Ln12, Hs12⟩ := id VgJ
        obtain ⟨T13, h13, X13, e13, W13, st13⟩ := stI X11 hx hZ e11 Ar12 (j := ((own_find wsI ((vs.getD iI 0) - (1 : Int32))).toInt32)) (own_Ai_at Sz12 Ln12 Hs12 (i := (own_find wsI ((vs.getD iI 0) - (1 : Int32)))) (own_find_lt hrI.1 _)).1 (g := (mkF m 59 #[rv ss, rv b3, iv 28, rv ar, iv 8, iv (iI.toInt32), iv (vs.getD iI 0)] [(.int (vs.getD iI 0)), (.int ((own_find wsI ((vs.getD iI 0) - (1 : Int32))).toInt32)), (.ref b3)])) rfl rfl (hb hby d12_59)
        have V_b3_13 : own_Ai Z h13 b3 (wsI.set (own_find wsI ((vs.getD iI 0) - (1 : Int32))) (vs.getD iI 0)) := own_Ai_set Ar12 Sz12 Ln12 Hs12 (i := (own_find wsI ((vs.getD iI 0) - (1 : Int32)))) (own_find_lt hrI.1 _) W13
        have Zs13 : n0 ≤ h13.size := Nat.le_trans ZJ (Keep.of_wr W13).1
        have N13 := Fr.snoc X13 N11 g_b3
        have Kp13 : Keep h0 h13 [ss] := KJ.wr W13 (Or.inr sz_b3)
        refine own_go (b := T13.setTop (mkF m 60 #[rv ss, rv b3, iv 28, rv ar, iv 8, iv (iI.toInt32), iv (vs.getD iI 0)] [])) st13 ?_
        refine own_go (b := T13.setTop (mkF m 63 #[rv ss, rv b3, iv 28, rv ar, iv 8, iv ((iI.toInt32) + (1 : Int32)), iv (vs.getD iI 0)] [])) (fun t k => XS.iinc X13.here hx rfl (hb hby d12_60) rfl (l' := #[rv ss, rv b3, iv 28, rv ar, iv 8, iv ((iI.toInt32) + (1 : Int32)), iv (vs.getD iI 0)]) rfl k) ?_
        refine own_go (b := T13.setTop (mkF m 29 #[rv ss, rv b3, iv 28, rv ar, iv 8, iv ((iI.toInt32) + (1 : Int32)), iv (vs.getD iI 0)] [])) (fun t k => XS.goto X13.here hx rfl (pc0 := 63) (pc' := 29) rfl (hb hby d12_63) (by decide) (by decide) k) ?_
        rw [own_add1 (by omega)]
        exact ih (iI + 1) _ _ _ _ _ X13 e13 N13 Zs13 Kp13 (EJ.wr W13) (FJ0.other W13 (Or.inl neg)) (FJ1.other W13 (Or.inl neg)) (FJ2.other W13 (Or.inl neg)) (VaJ.other W13 nag) V_b3_13 (by rw [List.length_set]; exact h16) (by rw [show own_pre vs (iI + 1) = (vs.getD iI 0 - 1) :: own_pre vs iI from if_neg hc10]; exact hrN) (by omega) (One.val rfl)
  exact LOOP 8 0 _ _ _ _ _ X5 e5 N0 Zs3 Kp3 (Ex.ext E3) (F0x.ext E3) (F1x.ext E3) (F2x.ext E3) (Va.ext E3) V_b3 (by simp) (own_rep_zero 16 (Or.inr rfl)) rfl One.u
theorem own_case {n k : Nat} (h : (n = 8 ∧ k ≤ 6) ∨ (n = 16 ∧ k ≤ 8)) (hk : k ≤ 7) : ((n = 8 ∧ k ≤ 5) ∨ (n = 16 ∧ k ≤ 7)) ∨ (n = 8 ∧ k = 6) := by omega
theorem own_ngrow {n k : Nat} (h : (n = 8 ∧ k ≤ 5) ∨ (n = 16 ∧ k ≤ 7)) : ¬ n.toInt32 * 3 < (k + 1).toInt32 * 4 := by
  rw [(own_mul4 (n := n) (by omega)).2.1, (own_mul4 (n := k + 1) (by omega)).1, own_lt32 (by omega) (by omega)]; omega
theorem own_grows {n k : Nat} (h : n = 8 ∧ k = 6) : n.toInt32 * 3 < (k + 1).toInt32 * 4 := by
  rw [(own_mul4 (n := n) (by omega)).2.1, (own_mul4 (n := k + 1) (by omega)).1, own_lt32 (by omega) (by omega)]; omega
theorem own_hk1 {as : List Int32} {x : Int32} {k n : Nat} (hk : ∀ j, j < k → j < n → as.getD j 0 ≠ x) (h : ¬ as.getD k 0 = x) : ∀ j, j < k + 1 → j < n → as.getD j 0 ≠ x := fun j hj hn => by
  by_cases e : j = k
  · subst e; exact h
  · exact hk j (by omega) hn
theorem own_hk2 {as : List Int32} {x : Int32} {k n : Nat} (hk : ∀ j, j < k → j < n → as.getD j 0 ≠ x) (h : ¬ k < n) : ∀ j, j < k + 1 → j < n → as.getD j 0 ≠ x := fun j hj hn => hk j (by omega) hn
theorem d4_0 : decode prog_106_method_2_code 0 = .ok (.aload_n 0, 1) := by decide +kernel
theorem d4_1 : decode prog_106_method_2_code 1 = .ok (.getfield 9, 3) := by decide +kernel
theorem d4_4 : decode prog_106_method_2_code 4 = .ok (.aload_n 0, 1) := by decide +kernel
theorem d4_5 : decode prog_106_method_2_code 5 = .ok (.getfield 17, 3) := by decide +kernel
theorem d4_8 : decode prog_106_method_2_code 8 = .ok (.iload_n 1, 1) := by decide +kernel
theorem d4_9 : decode prog_106_method_2_code 9 = .ok (.invokestatic 20, 3) := by decide +kernel
theorem d4_12 : decode prog_106_method_2_code 12 = .ok (.istore_n 2, 1) := by decide +kernel
theorem d4_13 : decode prog_106_method_2_code 13 = .ok (.aload_n 0, 1) := by decide +kernel
theorem d4_14 : decode prog_106_method_2_code 14 = .ok (.getfield 9, 3) := by decide +kernel
theorem d4_17 : decode prog_106_method_2_code 17 = .ok (.iload_n 2, 1) := by decide +kernel
theorem d4_18 : decode prog_106_method_2_code 18 = .ok (.iaload, 1) := by decide +kernel
theorem d4_19 : decode prog_106_method_2_code 19 = .ok (.ifCond .eq 5, 3) := by decide +kernel
theorem d4_22 : decode prog_106_method_2_code 22 = .ok (.iconst 0, 1) := by decide +kernel
theorem d4_23 : decode prog_106_method_2_code 23 = .ok (.ireturn, 1) := by decide +kernel
theorem d4_24 : decode prog_106_method_2_code 24 = .ok (.aload_n 0, 1) := by decide +kernel
theorem d4_25 : decode prog_106_method_2_code 25 = .ok (.getfield 9, 3) := by decide +kernel
theorem d4_28 : decode prog_106_method_2_code 28 = .ok (.iload_n 2, 1) := by decide +kernel
theorem d4_29 : decode prog_106_method_2_code 29 = .ok (.iload_n 1, 1) := by decide +kernel
theorem d4_30 : decode prog_106_method_2_code 30 = .ok (.iconst 1, 1) := by decide +kernel
theorem d4_31 : decode prog_106_method_2_code 31 = .ok (.iadd, 1) := by decide +kernel
theorem d4_32 : decode prog_106_method_2_code 32 = .ok (.iastore, 1) := by decide +kernel
theorem d4_33 : decode prog_106_method_2_code 33 = .ok (.aload_n 0, 1) := by decide +kernel
theorem d4_34 : decode prog_106_method_2_code 34 = .ok (.dup, 1) := by decide +kernel
theorem d4_35 : decode prog_106_method_2_code 35 = .ok (.getfield 24, 3) := by decide +kernel
theorem d4_38 : decode prog_106_method_2_code 38 = .ok (.iconst 1, 1) := by decide +kernel
theorem d4_39 : decode prog_106_method_2_code 39 = .ok (.iadd, 1) := by decide +kernel
theorem d4_40 : decode prog_106_method_2_code 40 = .ok (.putfield 24, 3) := by decide +kernel
theorem d4_43 : decode prog_106_method_2_code 43 = .ok (.aload_n 0, 1) := by decide +kernel
theorem d4_44 : decode prog_106_method_2_code 44 = .ok (.getfield 24, 3) := by decide +kernel
theorem d4_47 : decode prog_106_method_2_code 47 = .ok (.iconst 4, 1) := by decide +kernel
theorem d4_48 : decode prog_106_method_2_code 48 = .ok (.imul, 1) := by decide +kernel
theorem d4_49 : decode prog_106_method_2_code 49 = .ok (.aload_n 0, 1) := by decide +kernel
theorem d4_50 : decode prog_106_method_2_code 50 = .ok (.getfield 9, 3) := by decide +kernel
theorem d4_53 : decode prog_106_method_2_code 53 = .ok (.arraylength, 1) := by decide +kernel
theorem d4_54 : decode prog_106_method_2_code 54 = .ok (.iconst 3, 1) := by decide +kernel
theorem d4_55 : decode prog_106_method_2_code 55 = .ok (.imul, 1) := by decide +kernel
theorem d4_56 : decode prog_106_method_2_code 56 = .ok (.if_icmp .le 7, 3) := by decide +kernel
theorem d4_59 : decode prog_106_method_2_code 59 = .ok (.aload_n 0, 1) := by decide +kernel
theorem d4_60 : decode prog_106_method_2_code 60 = .ok (.invokevirtual 27, 3) := by decide +kernel
theorem d4_63 : decode prog_106_method_2_code 63 = .ok (.iconst 1, 1) := by decide +kernel
theorem d4_64 : decode prog_106_method_2_code 64 = .ok (.ireturn, 1) := by decide +kernel
theorem ef_4 (m : MethodId) (ss : Addr) (mb : Int32) : entryFrame m #[(.ref ss), (.int mb)] 3 = mkF m 0 #[rv ss, iv mb, .unset] [] := by first | (simp [entryFrame, mkF, argsToLocals, Value.category]; done) | rfl
def Q4 (Z : State) (ss : Addr) (mb : Int32) (lo : Nat) (es : List Int32) (h0 : Heap) (n0 : Nat) (v : Option Value) (h : Heap) (L : List Loc) : Prop := ∃ (z : Int32) (ws : List Addr), v = some (.int z) ∧ Fr n0 L ∧ Keep h0 h ws ∧ (∀ y ∈ ws, lo ≤ y) ∧ own_Set Z h lo ss (own_ins es mb)
set_option maxRecDepth 65536 in
set_option maxHeartbeats 40000000 in
theorem rm4 (l : Launch) (Z : State) (a0 : Array Value) (hw : ∀ d ∈ tables_1, d.before a0 Z = true) (ws : List Jvm.Cond) (ss : Addr) (mb : Int32) (lo : Nat) (es : List Int32) (h0 : Heap) (n0 : Nat) (Z0 : n0 ≤ h0.size) (hS : own_Set Z h0 lo ss es) (hmb : mb + 1 ≠ 0) (hlo : n0 ≤ lo) (hlo2 : lo ≤ h0.size) (hel : es.length ≤ 7) :
    MetFree l (⟨"com/example/axiomloom/axiomloom/reasoner/IntSet", "add", "(I)Z"⟩ : MethodName) (head1 (Jvm.Cond.code (⟨"com/example/axiomloom/axiomloom/reasoner/IntSet", "add", "(I)Z"⟩ : MethodName) prog_106_method_2_code 3 (some .boolean) :: ws) ({ frames := 2, cells := 1, slots := 16, locals := 35 } : Room)) (fun a U => a = #[(.ref ss), (.int mb)] ∧ Z.Warmed39 U.vm ∧ U.heap = h0) (fun _ _ _ _ _ => True) (fun _ U o U' => ∃ v L, o = .returned v ∧ Q4 Z ss mb lo es h0 n0 v U'.heap L ∧ FrameEnd U o U' L ({ frames := 2, cells := 1, slots := 16, locals := 35 } : Room).cells ({ frames := 2, cells := 1, slots := 16, locals := 35 } : Room).slots) := by
  refine MetFree.of_bodySF (plainFor_of_name pn_0) hisR ?_
  intro p e s m args below meth c s₁ Bd hml0 hP hK
  obtain ⟨rfl, hZ, hh⟩ := hP
  have hx := Bd.exec
  have hby := Bd.bytes
  have hml : c.maxLocals = 3 := hml0
  have hown : s.vm.findClass "com/example/axiomloom/axiomloom/reasoner/IntSet" = some m.cls := findClass_of_methodNamed Bd.named
  have hnm := (name_of_methodNamed Bd.named Bd.method).1
  have hlk : meth.locks = false := Bd.notSynchronized
  have hrt := Bd.returns
  have X0 : Stand p l e ({ frames := 2, cells := 1, slots := 16, locals := 35 } : Room) s m #[(.ref ss), (.int mb)] below meth c s₁ [] 0 0 := Stand.of_body Bd
  have e0 : s₁.heap = h0 := by rw [← hh, Bd.state]; rfl
  have N0 := Fr.nil n0
  show own_Endz p.tables e below (own_EndQ s ({ frames := 2, cells := 1, slots := 16, locals := 35 } : Room).cells ({ frames := 2, cells := 1, slots := 16, locals := 35 } : Room).slots (Q4 Z ss mb lo es h0 n0)) (s₁.setTop (entryFrame m #[(.ref ss), (.int mb)] 3))
  refine own_cast (ef_4 m ss mb) ?_
  obtain ⟨ar, vs, sh, lo1, lo2, hne, Ex, F0x, F1x, F2x, Va, hr, h28, hsz⟩ := id hS
  refine own_go (b := s₁.setTop (mkF m 1 #[rv ss, iv mb, .unset] [(.ref ss)])) (fun t k => XS.aloadN X0.here hx rfl (hb hby d4_0) rfl rfl k) ?_
  obtain ⟨T1, X1, e1, st1⟩ := getF X0 hx hZ hown (host := "") (Or.inl (hw _ (List.mem_of_getElem? (i := 13) rfl))) Via.refl e0 F0x (g := (mkF m 1 #[rv ss, iv mb, .unset] [(.ref ss)])) rfl rfl (hb hby d4_1)
  refine own_go (b := T1.setTop (mkF m 4 #[rv ss, iv mb, .unset] [(.ref ar)])) st1 ?_
  refine own_go (b := T1.setTop (mkF m 5 #[rv ss, iv mb, .unset] [(.ref ss), (.ref ar)])) (fun t k => XS.aloadN X1.here hx rfl (hb hby d4_4) rfl rfl k) ?_
  obtain ⟨T2, X2, e2, st2⟩ := getF X1 hx hZ hown (host := "") (Or.inl (hw _ (List.mem_of_getElem? (i := 17) rfl))) Via.refl e1 F1x (g := (mkF m 5 #[rv ss, iv mb, .unset] [(.ref ss), (.ref ar)])) rfl rfl (hb hby d4_5)
  refine own_go (b := T2.setTop (mkF m 8 #[rv ss, iv mb, .unset] [(.int sh), (.ref ar)])) st2 ?_
  refine own_go (b := T2.setTop (mkF m 9 #[rv ss, iv mb, .unset] [(.int mb), (.int sh), (.ref ar)])) (fun t k => XS.iloadN X2.here hx rfl (hb hby d4_8) rfl  k) ?_
  obtain ⟨_, _, ⟨T3, L3, k3, n3⟩, -, X3, ⟨Lc3, hQ3, l3, y3, z3⟩, st3⟩ := Jvm.LawKit.callS X2 hx (y := (⟨"com/example/axiomloom/axiomloom/reasoner/IntSet", "find", "([III)I"⟩ : MethodName)) hown (mvT hZ (hw _ (List.mem_of_getElem? (i := 28) rfl))) (mvT hZ (hw _ (List.mem_of_getElem? (i := 29) rfl))) (mvT hZ (hw _ (List.mem_of_getElem? (i := 6) rfl))) (mvT hZ (hw _ (List.mem_of_getElem? (i := 30) rfl))) (by decide) (backOf (W := 0) (rm5 l Z a0 hw [] ar sh mb vs h0 n0 Z0 Va h28 (own_rep_free hr)) hZ (hw _ (List.mem_of_getElem? (i := 30) rfl)) (hw _ (List.mem_of_getElem? (i := 6) rfl)) (by decide) (by decide)) (g := (mkF m 9 #[rv ss, iv mb, .unset] [(.int mb), (.int sh), (.ref ar)])) rfl (by rw [hml]; rfl) (argsL := [(.ref ar), (.int sh), (.int mb)]) (rest := []) (lenOf pd_1 rfl) rfl (by show 2 * 0 + _ ≤ _; exact Nat.le_of_eq rfl) (hb hby d4_9) (fun _ _ => ⟨rfl, e2, (by decide : 0 + 0 ≤ _), (by decide : 0 + 0 ≤ _)⟩)
  dsimp only [Pt.U, Pt.locs, Pt.cells, Pt.slots] at X3 l3 y3 z3 st3 hQ3
  subst l3 y3 z3
  obtain ⟨rfl, N3q, e3⟩ := hQ3
  have N3 := Fr.app N0 N3q
  obtain ⟨lq3, X3, N3⟩ : ∃ lq, Stand p l e ({ frames := 2, cells := 1, slots := 16, locals := 35 } : Room) s m #[(.ref ss), (.int mb)] below meth c T3 lq 0 0 ∧ Fr n0 lq := ⟨_, X3, N3⟩
  refine own_go (b := T3.setTop (mkF m 12 #[rv ss, iv mb, .unset] [(.int ((own_find vs mb).toInt32))])) st3 ?_
  refine own_go (b := T3.setTop (mkF m 13 #[rv ss, iv mb, iv ((own_find vs mb).toInt32)] [])) (fun t k => XS.istoreN X3.here hx rfl (hb hby d4_12) rfl (l' := #[rv ss, iv mb, iv ((own_find vs mb).toInt32)]) rfl k) ?_
  refine own_go (b := T3.setTop (mkF m 14 #[rv ss, iv mb, iv ((own_find vs mb).toInt32)] [(.ref ss)])) (fun t k => XS.aloadN X3.here hx rfl (hb hby d4_13) rfl rfl k) ?_
  obtain ⟨T4, X4, e4, st4⟩ := getF X3 hx hZ hown (host := "") (Or.inl (hw _ (List.mem_of_getElem? (i := 13) rfl))) Via.refl e3 F0x (g := (mkF m 14 #[rv ss, iv mb, iv ((own_find vs mb).toInt32)] [(.ref ss)])) rfl rfl (hb hby d4_14)
  refine own_go (b := T4.setTop (mkF m 17 #[rv ss, iv mb, iv ((own_find vs mb).toInt32)] [(.ref ar)])) st4 ?_
  refine own_go (b := T4.setTop (mkF m 18 #[rv ss, iv mb, iv ((own_find vs mb).toInt32)] [(.int ((own_find vs mb).toInt32)), (.ref ar)])) (fun t k => XS.iloadN X4.here hx rfl (hb hby d4_17) rfl  k) ?_
  obtain ⟨cl5, Ar5, Sz5, Ln5, Hs5⟩ := id Va
  have hb5 := own_Ai_at Sz5 Ln5 Hs5 (i := (own_find vs mb)) (own_find_lt hr.1 _)
  refine own_go (b := T4.setTop (mkF m 19 #[rv ss, iv mb, iv ((own_find vs mb).toInt32)] [(.int (vs.getD (own_find vs mb) 0))])) (fun t k => X4.iaload hx (j := ((own_find vs mb).toInt32)) (v := (.int (vs.getD (own_find vs mb) 0))) (by rw [e4]; exact Ar5.1) (State.isArrayOf_alike hZ.alike Ar5.2.1) Ar5.2.2 hb5.1 hb5.2 (g := (mkF m 18 #[rv ss, iv mb, iv ((own_find vs mb).toInt32)] [(.int ((own_find vs mb).toInt32)), (.ref ar)])) rfl rfl (hb hby d4_18) t k) ?_
  by_cases hc6 : (vs.getD (own_find vs mb) 0) = (0 : Int32)
  · refine own_go (b := T4.setTop (mkF m 24 #[rv ss, iv mb, iv ((own_find vs mb).toInt32)] [])) (fun t k => XS.ifYes X4.here hx rfl (pc0 := 19) (pc' := 24) rfl (hb hby d4_19) rfl ((if0 _ _).trans (teq hc6).1) (by decide) (by decide) k) ?_
    refine own_go (b := T4.setTop (mkF m 25 #[rv ss, iv mb, iv ((own_find vs mb).toInt32)] [(.ref ss)])) (fun t k => XS.aloadN X4.here hx rfl (hb hby d4_24) rfl rfl k) ?_
    obtain ⟨T7, X7, e7, st7⟩ := getF X4 hx hZ hown (host := "") (Or.inl (hw _ (List.mem_of_getElem? (i := 13) rfl))) Via.refl e4 F0x (g := (mkF m 25 #[rv ss, iv mb, iv ((own_find vs mb).toInt32)] [(.ref ss)])) rfl rfl (hb hby d4_25)
    refine own_go (b := T7.setTop (mkF m 28 #[rv ss, iv mb, iv ((own_find vs mb).toInt32)] [(.ref ar)])) st7 ?_
    refine own_go (b := T7.setTop (mkF m 29 #[rv ss, iv mb, iv ((own_find vs mb).toInt32)] [(.int ((own_find vs mb).toInt32)), (.ref ar)])) (fun t k => XS.iloadN X7.here hx rfl (hb hby d4_28) rfl  k) ?_
    refine own_go (b := T7.setTop (mkF m 30 #[rv ss, iv mb, iv ((own_find vs mb).toInt32)] [(.int mb), (.int ((own_find vs mb).toInt32)), (.ref ar)])) (fun t k => XS.iloadN X7.here hx rfl (hb hby d4_29) rfl  k) ?_
    refine own_go (b := T7.setTop (mkF m 31 #[rv ss, iv mb, iv ((own_find vs mb).toInt32)] [(.int 1), (.int mb), (.int ((own_find vs mb).toInt32)), (.ref ar)])) (fun t k => XS.iconst X7.here hx rfl (hb hby d4_30) k) ?_
    refine own_go (b := T7.setTop (mkF m 32 #[rv ss, iv mb, iv ((own_find vs mb).toInt32)] [(.int (mb + (1 : Int32))), (.int ((own_find vs mb).toInt32)), (.ref ar)])) (fun t k => XS.iadd X7.here hx rfl (hb hby d4_31) rfl k) ?_
    obtain ⟨cl8, Ar8, Sz8, Ln8, Hs8⟩ := id Va
    obtain ⟨T9, h9, X9, e9, W9, st9⟩ := stI X7 hx hZ e7 Ar8 (j := ((own_find vs mb).toInt32)) (own_Ai_at Sz8 Ln8 Hs8 (i := (own_find vs mb)) (own_find_lt hr.1 _)).1 (g := (mkF m 32 #[rv ss, iv mb, iv ((own_find vs mb).toInt32)] [(.int (mb + (1 : Int32))), (.int ((own_find vs mb).toInt32)), (.ref ar)])) rfl rfl (hb hby d4_32)
    have V_ar_9 : own_Ai Z h9 ar (vs.set (own_find vs mb) (mb + (1 : Int32))) := own_Ai_set Ar8 Sz8 Ln8 Hs8 (i := (own_find vs mb)) (own_find_lt hr.1 _) W9
    have Zs9 : n0 ≤ h9.size := Nat.le_trans Z0 (Keep.of_wr W9).1
    have N9 := Fr.snoc X9 N3 (Nat.le_trans hlo lo2)
    have Kp9 : Keep h0 h9 [ss, ar] := (Keep.refl h0 [ss, ar]).wr W9 (Or.inl (List.mem_of_getElem? (i := 1) rfl))
    refine own_go (b := T9.setTop (mkF m 33 #[rv ss, iv mb, iv ((own_find vs mb).toInt32)] [])) st9 ?_
    refine own_go (b := T9.setTop (mkF m 34 #[rv ss, iv mb, iv ((own_find vs mb).toInt32)] [(.ref ss)])) (fun t k => XS.aloadN X9.here hx rfl (hb hby d4_33) rfl rfl k) ?_
    refine own_go (b := T9.setTop (mkF m 35 #[rv ss, iv mb, iv ((own_find vs mb).toInt32)] [(.ref ss), (.ref ss)])) (fun t k => XS.dup X9.here hx rfl (hb hby d4_34) rfl rfl k) ?_
    obtain ⟨T10, X10, e10, st10⟩ := getF X9 hx hZ hown (host := "") (Or.inl (hw _ (List.mem_of_getElem? (i := 32) rfl))) Via.refl e9 (F2x.other W9 (Or.inl hne)) (g := (mkF m 35 #[rv ss, iv mb, iv ((own_find vs mb).toInt32)] [(.ref ss), (.ref ss)])) rfl rfl (hb hby d4_35)
    refine own_go (b := T10.setTop (mkF m 38 #[rv ss, iv mb, iv ((own_find vs mb).toInt32)] [(.int (es.length.toInt32)), (.ref ss)])) st10 ?_
    refine own_go (b := T10.setTop (mkF m 39 #[rv ss, iv mb, iv ((own_find vs mb).toInt32)] [(.int 1), (.int (es.length.toInt32)), (.ref ss)])) (fun t k => XS.iconst X10.here hx rfl (hb hby d4_38) k) ?_
    refine own_go (b := T10.setTop (mkF m 40 #[rv ss, iv mb, iv ((own_find vs mb).toInt32)] [(.int ((es.length.toInt32) + (1 : Int32))), (.ref ss)])) (fun t k => XS.iadd X10.here hx rfl (hb hby d4_39) rfl k) ?_
    rw [own_add1 (i := es.length) (by omega)]
    obtain ⟨T11, h11, X11, e11, W11, st11⟩ := putF X10 hx hZ hown (host := "") (Or.inl (hw _ (List.mem_of_getElem? (i := 32) rfl))) Via.refl e10 (F2x.other W9 (Or.inl hne)) (Ex.wr W9) (Or.inl (hw _ (List.mem_of_getElem? (i := 33) rfl))) (hw _ (List.mem_of_getElem? (i := 5) rfl)) (ty := .int) (by decide) rfl rfl (g := (mkF m 40 #[rv ss, iv mb, iv ((own_find vs mb).toInt32)] [(.int ((es.length + 1).toInt32)), (.ref ss)])) rfl rfl (hb hby d4_40)
    have Fw11 : Fld Z h11 ss "com/example/axiomloom/axiomloom/reasoner/IntSet" "size" "I" (.int ((es.length + 1).toInt32)) := Fld.same W11 (F2x.other W9 (Or.inl hne))
    have Zs11 : n0 ≤ h11.size := Nat.le_trans Zs9 (Keep.of_wr W11).1
    have N11 := Fr.snoc X11 N9 (Nat.le_trans hlo lo1)
    have Kp11 : Keep h0 h11 [ss, ar] := Kp9.wr W11 (Or.inl (List.mem_of_getElem? (i := 0) rfl))
    refine own_go (b := T11.setTop (mkF m 43 #[rv ss, iv mb, iv ((own_find vs mb).toInt32)] [])) st11 ?_
    refine own_go (b := T11.setTop (mkF m 44 #[rv ss, iv mb, iv ((own_find vs mb).toInt32)] [(.ref ss)])) (fun t k => XS.aloadN X11.here hx rfl (hb hby d4_43) rfl rfl k) ?_
    obtain ⟨T12, X12, e12, st12⟩ := getF X11 hx hZ hown (host := "") (Or.inl (hw _ (List.mem_of_getElem? (i := 32) rfl))) Via.refl e11 Fw11 (g := (mkF m 44 #[rv ss, iv mb, iv ((own_find vs mb).toInt32)] [(.ref ss)])) rfl rfl (hb hby d4_44)
    refine own_go (b := T12.setTop (mkF m 47 #[rv ss, iv mb, iv ((own_find vs mb).toInt32)] [(.int ((es.length + 1).toInt32))])) st12 ?_
    refine own_go (b := T12.setTop (mkF m 48 #[rv ss, iv mb, iv ((own_find vs mb).toInt32)] [(.int 4), (.int ((es.length + 1).toInt32))])) (fun t k => XS.iconst X12.here hx rfl (hb hby d4_47) k) ?_
    refine own_go (b := T12.setTop (mkF m 49 #[rv ss, iv mb, iv ((own_find vs mb).toInt32)] [(.int (((es.length + 1).toInt32) * (4 : Int32)))])) (fun t k => XS.imul X12.here hx rfl (hb hby d4_48) rfl k) ?_
    refine own_go (b := T12.setTop (mkF m 50 #[rv ss, iv mb, iv ((own_find vs mb).toInt32)] [(.ref ss), (.int (((es.length + 1).toInt32) * (4 : Int32)))])) (fun t k => XS.aloadN X12.here hx rfl (hb hby d4_49) rfl rfl k) ?_
    obtain ⟨T13, X13, e13, st13⟩ := getF X12 hx hZ hown (host := "") (Or.inl (hw _ (List.mem_of_getElem? (i := 13) rfl))) Via.refl e12 ((F0x.other W9 (Or.inl hne)).other W11 (Or.inr (slot_ne (Or.inl (hw _ (List.mem_of_getElem? (i := 14) rfl))) (Or.inl (hw _ (List.mem_of_getElem? (i := 33) rfl))) (by decide) (t := (.array .int)) (t' := .int) (by decide) (by decide)))) (g := (mkF m 50 #[rv ss, iv mb, iv ((own_find vs mb).toInt32)] [(.ref ss), (.int (((es.length + 1).toInt32) * (4 : Int32)))])) rfl rfl (hb hby d4_50)
    refine own_go (b := T13.setTop (mkF m 53 #[rv ss, iv mb, iv ((own_find vs mb).toInt32)] [(.ref ar), (.int (((es.length + 1).toInt32) * (4 : Int32)))])) st13 ?_
    obtain ⟨cl14, Ar14, Sz14, Ln14, Hs14⟩ := id (V_ar_9.other W11 (Ne.symm hne))
    refine own_go (b := T13.setTop (mkF m 54 #[rv ss, iv mb, iv ((own_find vs mb).toInt32)] [(.int (cl14.slots.size.toInt32)), (.int (((es.length + 1).toInt32) * (4 : Int32)))])) (fun t k => X13.arraylength hx (by rw [e13]; exact Ar14.1) (State.isArrayOf_alike hZ.alike Ar14.2.1) (g := (mkF m 53 #[rv ss, iv mb, iv ((own_find vs mb).toInt32)] [(.ref ar), (.int (((es.length + 1).toInt32) * (4 : Int32)))])) rfl rfl (hb hby d4_53) t k) ?_
    rw [Sz14]
    rw [List.length_set]
    refine own_go (b := T13.setTop (mkF m 55 #[rv ss, iv mb, iv ((own_find vs mb).toInt32)] [(.int 3), (.int (vs.length.toInt32)), (.int (((es.length + 1).toInt32) * (4 : Int32)))])) (fun t k => XS.iconst X13.here hx rfl (hb hby d4_54) k) ?_
    refine own_go (b := T13.setTop (mkF m 56 #[rv ss, iv mb, iv ((own_find vs mb).toInt32)] [(.int ((vs.length.toInt32) * (3 : Int32))), (.int (((es.length + 1).toInt32) * (4 : Int32)))])) (fun t k => XS.imul X13.here hx rfl (hb hby d4_55) rfl k) ?_
    have hnm := ((own_rep_find hr hmb).resolve_right (fun q => q.1 hc6)).2
    have hins : own_ins es mb = mb :: es := if_neg hnm
    have hrA := own_rep_add hr hmb hc6 (by omega)
    rcases own_case hsz hel with hA | hB
    · have hcg := own_ngrow hA
      refine own_go (b := T13.setTop (mkF m 63 #[rv ss, iv mb, iv ((own_find vs mb).toInt32)] [])) (fun t k => XS.icmpYes X13.here hx rfl (pc0 := 56) (pc' := 63) rfl (hb hby d4_56) rfl (flt hcg).2.2.2 (by decide) (by decide) k) ?_
      refine own_go (b := T13.setTop (mkF m 64 #[rv ss, iv mb, iv ((own_find vs mb).toInt32)] [(.int 1)])) (fun t k => XS.iconst X13.here hx rfl (hb hby d4_63) k) ?_
      exact own_retN X13 hx hlk (t := .boolean) hrt (by simp) (hb hby d4_64) (Nat.le_of_ble_eq_true rfl) (Nat.le_of_ble_eq_true rfl) (⟨_, _, rfl, N11, by rw [e13]; exact Kp11, allS lo1 (allS lo2 all0), by rw [e13, hins]; exact ⟨ar, _, sh, lo1, lo2, hne, ((Ex.wr W9).wr W11), ((F0x.other W9 (Or.inl hne)).other W11 (Or.inr (slot_ne (Or.inl (hw _ (List.mem_of_getElem? (i := 14) rfl))) (Or.inl (hw _ (List.mem_of_getElem? (i := 33) rfl))) (by decide) (t := (.array .int)) (t' := .int) (by decide) (by decide)))), ((F1x.other W9 (Or.inl hne)).other W11 (Or.inr (slot_ne (Or.inl (hw _ (List.mem_of_getElem? (i := 18) rfl))) (Or.inl (hw _ (List.mem_of_getElem? (i := 33) rfl))) (by decide) (t := .int) (t' := .int) (by decide) (by decide)))), Fw11, (V_ar_9.other W11 (Ne.symm hne)), hrA, by rw [List.length_set]; exact h28, by rw [List.length_set]; simp only [List.length_cons]; omega⟩⟩)
    · have hcg := own_grows hB
      obtain rfl : sh = 29 := by rcases h28 with q | q; exact q.2; omega
      refine own_go (b := T13.setTop (mkF m 59 #[rv ss, iv mb, iv ((own_find vs mb).toInt32)] [])) (fun t k => XS.icmpNo X13.here hx rfl (hb hby d4_56) rfl (tlt hcg).2.2.2 k) ?_
      refine own_go (b := T13.setTop (mkF m 60 #[rv ss, iv mb, iv ((own_find vs mb).toInt32)] [(.ref ss)])) (fun t k => XS.aloadN X13.here hx rfl (hb hby d4_59) rfl rfl k) ?_
      have ltS := (((Ex.wr W9).wr W11)).lt
      obtain ⟨cq15, q15, q15'⟩ := ((Ex.wr W9).wr W11).cell
      obtain ⟨_, _, ⟨T15, L15, k15, n15⟩, -, X15, ⟨Lc15, hQ15, l15, y15, z15⟩, st15⟩ := X13.privateBack hx (y := (⟨"com/example/axiomloom/axiomloom/reasoner/IntSet", "grow", "()V"⟩ : MethodName)) hown (mvT hZ (hw _ (List.mem_of_getElem? (i := 54) rfl))) (mvT hZ (hw _ (List.mem_of_getElem? (i := 55) rfl))) (own_selp (args := #[]) (mvT hZ (hw _ (List.mem_of_getElem? (i := 26) rfl))) rfl (Cond.privateMethod_at (mvP hZ (hw _ (List.mem_of_getElem? (i := 56) rfl)) (args := #[]))) (mvT hZ (hw _ (List.mem_of_getElem? (i := 55) rfl))) (by decide)) (Cond.privateMethod_at (mvP hZ (hw _ (List.mem_of_getElem? (i := 56) rfl)) (args := #[]))) (mvT hZ (hw _ (List.mem_of_getElem? (i := 57) rfl))) (by decide) (backOf (W := 0) (rm12 l Z a0 hw [] ss ar (vs.set (own_find vs mb) (mb + 1)) (mb :: es) ((es.length + 1).toInt32) h11 n0 Zs11 ((Ex.wr W9).wr W11) ((F0x.other W9 (Or.inl hne)).other W11 (Or.inr (slot_ne (Or.inl (hw _ (List.mem_of_getElem? (i := 14) rfl))) (Or.inl (hw _ (List.mem_of_getElem? (i := 33) rfl))) (by decide) (t := (.array .int)) (t' := .int) (by decide) (by decide)))) ((F1x.other W9 (Or.inl hne)).other W11 (Or.inr (slot_ne (Or.inl (hw _ (List.mem_of_getElem? (i := 18) rfl))) (Or.inl (hw _ (List.mem_of_getElem? (i := 33) rfl))) (by decide) (t := .int) (t' := .int) (by decide) (by decide)))) Fw11 (V_ar_9.other W11 (Ne.symm hne)) hrA.2.1 hrA (by rw [List.length_set]; exact hB.1) (Nat.le_trans hlo lo1) hne) hZ (hw _ (List.mem_of_getElem? (i := 57) rfl)) (hw _ (List.mem_of_getElem? (i := 6) rfl)) (by decide) (by decide)) (g := (mkF m 60 #[rv ss, iv mb, iv ((own_find vs mb).toInt32)] [(.ref ss)])) rfl (by rw [hml]; rfl) (Steps.refl _) (a := ss) (by rw [e13]; exact q15) q15' (argsL := []) (rest := []) (lenOf pd_0 rfl) rfl (by show 2 * 0 + _ ≤ _; exact Nat.le_of_eq rfl) (hb hby d4_60) (fun _ _ => ⟨rfl, e13, (by decide : 0 + 1 ≤ _), (by decide : 0 + 16 ≤ _)⟩)
      dsimp only [Pt.U, Pt.locs, Pt.cells, Pt.slots] at X15 l15 y15 z15 st15 hQ15
      subst l15 y15 z15
      obtain ⟨rfl, N15q, K15, gr, wsG, hgr, Eg, Fg0, Fg1, Fg2, Vg, hl16, hrg⟩ := hQ15
      have Zs15 : n0 ≤ T15.heap.size := Nat.le_trans Zs11 K15.1
      have N15 := Fr.app N11 N15q
      have Kp15 : Keep h0 T15.heap [ss, ar] := Kp11.trans K15 (by intro x hx; simp only [List.mem_cons, List.not_mem_nil, or_false] at hx; rcases hx with rfl <;> first | exact Or.inr (by assumption) | exact Or.inl (by simp))
      obtain ⟨lq15, X15, N15⟩ : ∃ lq, Stand p l e ({ frames := 2, cells := 1, slots := 16, locals := 35 } : Room) s m #[(.ref ss), (.int mb)] below meth c T15 lq 1 16 ∧ Fr n0 lq := ⟨_, X15, N15⟩
      refine own_tr (b := T15.setTop (mkF m 63 #[rv ss, iv mb, iv ((own_find vs mb).toInt32)] [])) st15 ?_
      refine own_go (b := T15.setTop (mkF m 64 #[rv ss, iv mb, iv ((own_find vs mb).toInt32)] [(.int 1)])) (fun t k => XS.iconst X15.here hx rfl (hb hby d4_63) k) ?_
      exact own_retN X15 hx hlk (t := .boolean) hrt (by simp) (hb hby d4_64) (Nat.le_of_ble_eq_true rfl) (Nat.le_of_ble_eq_true rfl) (⟨_, _, rfl, N15, Kp15, allS lo1 (allS lo2 all0), by rw [hins]; exact ⟨gr, wsG, 28, lo1, Nat.le_trans hlo2 (Nat.le_trans Kp11.1 hgr), Nat.ne_of_lt (Nat.lt_of_lt_of_le ltS hgr), Eg, Fg0, Fg1, Fg2, Vg, hrg, Or.inr ⟨hl16, rfl⟩, Or.inr ⟨hl16, by simp only [List.length_cons]; omega⟩⟩⟩)
  · refine own_go (b := T4.setTop (mkF m 22 #[rv ss, iv mb, iv ((own_find vs mb).toInt32)] [])) (fun t k => XS.ifNo X4.here hx rfl (hb hby d4_19) rfl ((if0 _ _).trans (feq hc6).1) k) ?_
    refine own_go (b := T4.setTop (mkF m 23 #[rv ss, iv mb, iv ((own_find vs mb).toInt32)] [(.int 0)])) (fun t k => XS.iconst X4.here hx rfl (hb hby d4_22) k) ?_
    exact own_retN X4 hx hlk (t := .boolean) hrt (by simp) (hb hby d4_23) (Nat.le_of_ble_eq_true rfl) (Nat.le_of_ble_eq_true rfl) (⟨_, _, rfl, N3, by rw [e4]; exact Keep.refl h0 [ss, ar], allS lo1 (allS lo2 all0), by rw [e4, show own_ins es mb = es from if_pos ((own_rep_find hr hmb).resolve_left (fun q => hc6 q.1)).2]; exact hS⟩)
theorem d3_0 : decode method_3_code 0 = .ok (.iload_n 2, 1) := by decide +kernel
theorem d3_1 : decode method_3_code 1 = .ok (.iload_n 3, 1) := by decide +kernel
theorem d3_2 : decode method_3_code 2 = .ok (.if_icmp .ge 11, 3) := by decide +kernel
theorem d3_5 : decode method_3_code 5 = .ok (.aload_n 0, 1) := by decide +kernel
theorem d3_6 : decode method_3_code 6 = .ok (.aload_n 1, 1) := by decide +kernel
theorem d3_7 : decode method_3_code 7 = .ok (.iload_n 2, 1) := by decide +kernel
theorem d3_8 : decode method_3_code 8 = .ok (.iaload, 1) := by decide +kernel
theorem d3_9 : decode method_3_code 9 = .ok (.invokevirtual 31, 3) := by decide +kernel
theorem d3_12 : decode method_3_code 12 = .ok (.pop, 1) := by decide +kernel
theorem d3_13 : decode method_3_code 13 = .ok (.return_, 1) := by decide +kernel
theorem pn_1 : plainName "com/example/axiomloom/axiomloom/reasoner/IntSetToArrayPinLaw" = true := by first | (simp [plainName, overriddenIn]; done) | decide +kernel
theorem pd_2 : parseMethodDescriptor "(I)Z" = some ⟨[.int], some .boolean⟩ := by decide +kernel
theorem ef_3 (m : MethodId) (ss : Addr) (mm : Addr) (ix : Int32) (ct : Int32) : entryFrame m #[(.ref ss), (.ref mm), (.int ix), (.int ct)] 4 = mkF m 0 #[rv ss, rv mm, iv ix, iv ct] [] := by first | (simp [entryFrame, mkF, argsToLocals, Value.category]; done) | rfl
def Q3 (Z : State) (ss : Addr) (mm : Addr) (ix : Int32) (ct : Int32) (lo : Nat) (ms : List Int32) (es : List Int32) (i : Nat) (cnt : Nat) (h0 : Heap) (n0 : Nat) (v : Option Value) (h : Heap) (L : List Loc) : Prop := ∃ ws : List Addr, v = none ∧ Fr n0 L ∧ Keep h0 h ws ∧ (∀ y ∈ ws, lo ≤ y) ∧ own_Set Z h lo ss (if i < cnt then own_ins es (ms.getD i 0) else es)
set_option maxRecDepth 65536 in
set_option maxHeartbeats 40000000 in
theorem rm3 (l : Launch) (Z : State) (a0 : Array Value) (hw : ∀ d ∈ tables_1, d.before a0 Z = true) (ws : List Jvm.Cond) (ss : Addr) (mm : Addr) (ix : Int32) (ct : Int32) (lo : Nat) (ms : List Int32) (es : List Int32) (i : Nat) (cnt : Nat) (h0 : Heap) (n0 : Nat) (Z0 : n0 ≤ h0.size) (hix : ix = i.toInt32) (hct : ct = cnt.toInt32) (hS : own_Set Z h0 lo ss es) (Vm : own_Ai Z h0 mm ms) (hi : i < ms.length) (hi8 : i ≤ 8) (hcnt : cnt ≤ 8) (hms : ∀ e ∈ ms, e + 1 ≠ 0) (hlo : n0 ≤ lo) (hlo2 : lo ≤ h0.size) (hel : es.length ≤ 7) :
    MetFree l (⟨"com/example/axiomloom/axiomloom/reasoner/IntSetToArrayPinLaw", "addIf", "(Lcom/example/axiomloom/axiomloom/reasoner/IntSet;[III)V"⟩ : MethodName) (head1 (Jvm.Cond.code (⟨"com/example/axiomloom/axiomloom/reasoner/IntSetToArrayPinLaw", "addIf", "(Lcom/example/axiomloom/axiomloom/reasoner/IntSet;[III)V"⟩ : MethodName) method_3_code 4 none :: ws) ({ frames := 3, cells := 1, slots := 16, locals := 49 } : Room)) (fun a U => a = #[(.ref ss), (.ref mm), (.int ix), (.int ct)] ∧ Z.Warmed39 U.vm ∧ U.heap = h0) (fun _ _ _ _ _ => True) (fun _ U o U' => ∃ v L, o = .returned v ∧ Q3 Z ss mm ix ct lo ms es i cnt h0 n0 v U'.heap L ∧ FrameEnd U o U' L ({ frames := 3, cells := 1, slots := 16, locals := 49 } : Room).cells ({ frames := 3, cells := 1, slots := 16, locals := 49 } : Room).slots) := by
  refine MetFree.of_bodySF (plainFor_of_name pn_1) hisR ?_
  intro p e s m args below meth c s₁ Bd hml0 hP hK
  obtain ⟨rfl, hZ, hh⟩ := hP
  have hx := Bd.exec
  have hby := Bd.bytes
  have hml : c.maxLocals = 4 := hml0
  have hown : s.vm.findClass "com/example/axiomloom/axiomloom/reasoner/IntSetToArrayPinLaw" = some m.cls := findClass_of_methodNamed Bd.named
  have hnm := (name_of_methodNamed Bd.named Bd.method).1
  have hlk : meth.locks = false := Bd.notSynchronized
  have hrt := Bd.returns
  have X0 : Stand p l e ({ frames := 3, cells := 1, slots := 16, locals := 49 } : Room) s m #[(.ref ss), (.ref mm), (.int ix), (.int ct)] below meth c s₁ [] 0 0 := Stand.of_body Bd
  have e0 : s₁.heap = h0 := by rw [← hh, Bd.state]; rfl
  have N0 := Fr.nil n0
  show own_Endz p.tables e below (own_EndQ s ({ frames := 3, cells := 1, slots := 16, locals := 49 } : Room).cells ({ frames := 3, cells := 1, slots := 16, locals := 49 } : Room).slots (Q3 Z ss mm ix ct lo ms es i cnt h0 n0)) (s₁.setTop (entryFrame m #[(.ref ss), (.ref mm), (.int ix), (.int ct)] 4))
  refine own_cast (ef_3 m ss mm ix ct) ?_
  subst hix
  subst hct
  refine own_go (b := s₁.setTop (mkF m 1 #[rv ss, rv mm, iv (i.toInt32), iv (cnt.toInt32)] [(.int (i.toInt32))])) (fun t k => XS.iloadN X0.here hx rfl (hb hby d3_0) rfl  k) ?_
  refine own_go (b := s₁.setTop (mkF m 2 #[rv ss, rv mm, iv (i.toInt32), iv (cnt.toInt32)] [(.int (cnt.toInt32)), (.int (i.toInt32))])) (fun t k => XS.iloadN X0.here hx rfl (hb hby d3_1) rfl  k) ?_
  by_cases hc1 : (i.toInt32) < (cnt.toInt32)
  · refine own_go (b := s₁.setTop (mkF m 5 #[rv ss, rv mm, iv (i.toInt32), iv (cnt.toInt32)] [])) (fun t k => XS.icmpNo X0.here hx rfl (hb hby d3_2) rfl (tlt hc1).2.1 k) ?_
    refine own_go (b := s₁.setTop (mkF m 6 #[rv ss, rv mm, iv (i.toInt32), iv (cnt.toInt32)] [(.ref ss)])) (fun t k => XS.aloadN X0.here hx rfl (hb hby d3_5) rfl rfl k) ?_
    refine own_go (b := s₁.setTop (mkF m 7 #[rv ss, rv mm, iv (i.toInt32), iv (cnt.toInt32)] [(.ref mm), (.ref ss)])) (fun t k => XS.aloadN X0.here hx rfl (hb hby d3_6) rfl rfl k) ?_
    refine own_go (b := s₁.setTop (mkF m 8 #[rv ss, rv mm, iv (i.toInt32), iv (cnt.toInt32)] [(.int (i.toInt32)), (.ref mm), (.ref ss)])) (fun t k => XS.iloadN X0.here hx rfl (hb hby d3_7) rfl  k) ?_
    obtain ⟨cl2, Ar2, Sz2, Ln2, Hs2⟩ := id Vm
    have hb2 := own_Ai_at Sz2 Ln2 Hs2 (i := i) hi
    refine own_go (b := s₁.setTop (mkF m 9 #[rv ss, rv mm, iv (i.toInt32), iv (cnt.toInt32)] [(.int (ms.getD i 0)), (.ref ss)])) (fun t k => X0.iaload hx (j := (i.toInt32)) (v := (.int (ms.getD i 0))) (by rw [e0]; exact Ar2.1) (State.isArrayOf_alike hZ.alike Ar2.2.1) Ar2.2.2 hb2.1 hb2.2 (g := (mkF m 8 #[rv ss, rv mm, iv (i.toInt32), iv (cnt.toInt32)] [(.int (i.toInt32)), (.ref mm), (.ref ss)])) rfl rfl (hb hby d3_8) t k) ?_
    obtain ⟨cq3, kq3, q3a, q3b, q3c⟩ := isOf hZ e0 (own_SetE hS)
    obtain ⟨_, _, ⟨T3, L3, k3, n3⟩, -, X3, ⟨Lc3, hQ3, l3, y3, z3⟩, st3⟩ := X0.virtualBack hx (y := (⟨"com/example/axiomloom/axiomloom/reasoner/IntSet", "add", "(I)Z"⟩ : MethodName)) (z := (⟨"com/example/axiomloom/axiomloom/reasoner/IntSet", "add", "(I)Z"⟩ : MethodName)) hown (mvT hZ (hw _ (List.mem_of_getElem? (i := 23) rfl))) (mvT hZ (hw _ (List.mem_of_getElem? (i := 24) rfl))) (notFace_of_selects (args := #[]) (mvT hZ (hw _ (List.mem_of_getElem? (i := 26) rfl)))) (mvT hZ (hw _ (List.mem_of_getElem? (i := 26) rfl))) (mvT hZ (hw _ (List.mem_of_getElem? (i := 25) rfl))) (by decide) (backOf (W := 0) (rm4 l Z a0 hw [] ss (ms.getD i 0) lo es h0 n0 Z0 hS (hms _ (own_getD_mem hi)) hlo hlo2 hel) hZ (hw _ (List.mem_of_getElem? (i := 27) rfl)) (hw _ (List.mem_of_getElem? (i := 6) rfl)) (by decide) (by decide)) q3a q3c (g := (mkF m 9 #[rv ss, rv mm, iv (i.toInt32), iv (cnt.toInt32)] [(.int (ms.getD i 0)), (.ref ss)])) rfl (by rw [hml]; rfl) (Steps.refl _) (argsL := [(.int (ms.getD i 0))]) (rest := []) (lenOf pd_2 rfl) rfl (by show 2 * 0 + _ ≤ _; exact Nat.le_of_eq rfl) (hb hby d3_9) (fun _ _ => ⟨rfl, e0, (by decide : 0 + 1 ≤ _), (by decide : 0 + 16 ≤ _)⟩)
    dsimp only [Pt.U, Pt.locs, Pt.cells, Pt.slots] at X3 l3 y3 z3 st3 hQ3
    subst l3 y3 z3
    obtain ⟨zr3, wz, rfl, N3q, K3, hws, hS'⟩ := hQ3
    have N3 := Fr.app N0 N3q
    obtain ⟨lq3, X3, N3⟩ : ∃ lq, Stand p l e ({ frames := 3, cells := 1, slots := 16, locals := 49 } : Room) s m #[(.ref ss), (.ref mm), (.int ((i.toInt32))), (.int ((cnt.toInt32)))] below meth c T3 lq 1 16 ∧ Fr n0 lq := ⟨_, X3, N3⟩
    refine own_tr (b := T3.setTop (mkF m 12 #[rv ss, rv mm, iv (i.toInt32), iv (cnt.toInt32)] [(.int zr3)])) st3 ?_
    refine own_go (b := T3.setTop (mkF m 13 #[rv ss, rv mm, iv (i.toInt32), iv (cnt.toInt32)] [])) (fun t k => XS.pop X3.here hx rfl (hb hby d3_12) rfl rfl k) ?_
    exact own_retV X3 hx hlk hrt (hb hby d3_13) (Nat.le_of_ble_eq_true rfl) (Nat.le_of_ble_eq_true rfl) (⟨wz, rfl, N3, K3, hws, by rw [if_pos ((own_lt32 (by omega) (by omega)).mp hc1)]; exact hS'⟩)
  · refine own_go (b := s₁.setTop (mkF m 13 #[rv ss, rv mm, iv (i.toInt32), iv (cnt.toInt32)] [])) (fun t k => XS.icmpYes X0.here hx rfl (pc0 := 2) (pc' := 13) rfl (hb hby d3_2) rfl (flt hc1).2.1 (by decide) (by decide) k) ?_
    exact own_retV X0 hx hlk hrt (hb hby d3_13) (Nat.le_of_ble_eq_true rfl) (Nat.le_of_ble_eq_true rfl) (⟨[], rfl, N0, by rw [e0]; exact Keep.refl _ _, (fun y hy => nomatch hy), by rw [e0, if_neg (fun q => hc1 ((own_lt32 (by omega) (by omega)).mpr q))]; exact hS⟩)
theorem d6_0 : decode prog_106_method_5_code 0 = .ok (.aload_n 0, 1) := by decide +kernel
theorem d6_1 : decode prog_106_method_5_code 1 = .ok (.getfield 24, 3) := by decide +kernel
theorem d6_4 : decode prog_106_method_5_code 4 = .ok (.newarray .int, 2) := by decide +kernel
theorem d6_6 : decode prog_106_method_5_code 6 = .ok (.astore_n 1, 1) := by decide +kernel
theorem d6_7 : decode prog_106_method_5_code 7 = .ok (.iconst 0, 1) := by decide +kernel
theorem d6_8 : decode prog_106_method_5_code 8 = .ok (.istore_n 2, 1) := by decide +kernel
theorem d6_9 : decode prog_106_method_5_code 9 = .ok (.aload_n 0, 1) := by decide +kernel
theorem d6_10 : decode prog_106_method_5_code 10 = .ok (.getfield 9, 3) := by decide +kernel
theorem d6_13 : decode prog_106_method_5_code 13 = .ok (.astore_n 3, 1) := by decide +kernel
theorem d6_14 : decode prog_106_method_5_code 14 = .ok (.aload_n 3, 1) := by decide +kernel
theorem d6_15 : decode prog_106_method_5_code 15 = .ok (.arraylength, 1) := by decide +kernel
theorem d6_16 : decode prog_106_method_5_code 16 = .ok (.istore 4, 2) := by decide +kernel
theorem d6_18 : decode prog_106_method_5_code 18 = .ok (.iconst 0, 1) := by decide +kernel
theorem d6_19 : decode prog_106_method_5_code 19 = .ok (.istore 5, 2) := by decide +kernel
theorem d6_21 : decode prog_106_method_5_code 21 = .ok (.iload 5, 2) := by decide +kernel
theorem d6_23 : decode prog_106_method_5_code 23 = .ok (.iload 4, 2) := by decide +kernel
theorem d6_25 : decode prog_106_method_5_code 25 = .ok (.if_icmp .ge 30, 3) := by decide +kernel
theorem d6_28 : decode prog_106_method_5_code 28 = .ok (.aload_n 3, 1) := by decide +kernel
theorem d6_29 : decode prog_106_method_5_code 29 = .ok (.iload 5, 2) := by decide +kernel
theorem d6_31 : decode prog_106_method_5_code 31 = .ok (.iaload, 1) := by decide +kernel
theorem d6_32 : decode prog_106_method_5_code 32 = .ok (.istore 6, 2) := by decide +kernel
theorem d6_34 : decode prog_106_method_5_code 34 = .ok (.iload 6, 2) := by decide +kernel
theorem d6_36 : decode prog_106_method_5_code 36 = .ok (.ifCond .eq 13, 3) := by decide +kernel
theorem d6_39 : decode prog_106_method_5_code 39 = .ok (.aload_n 1, 1) := by decide +kernel
theorem d6_40 : decode prog_106_method_5_code 40 = .ok (.iload_n 2, 1) := by decide +kernel
theorem d6_41 : decode prog_106_method_5_code 41 = .ok (.iinc 2 1, 3) := by decide +kernel
theorem d6_44 : decode prog_106_method_5_code 44 = .ok (.iload 6, 2) := by decide +kernel
theorem d6_46 : decode prog_106_method_5_code 46 = .ok (.iconst 1, 1) := by decide +kernel
theorem d6_47 : decode prog_106_method_5_code 47 = .ok (.isub, 1) := by decide +kernel
theorem d6_48 : decode prog_106_method_5_code 48 = .ok (.iastore, 1) := by decide +kernel
theorem d6_49 : decode prog_106_method_5_code 49 = .ok (.iinc 5 1, 3) := by decide +kernel
theorem d6_52 : decode prog_106_method_5_code 52 = .ok (.goto (-31), 3) := by decide +kernel
theorem d6_55 : decode prog_106_method_5_code 55 = .ok (.aload_n 1, 1) := by decide +kernel
theorem d6_56 : decode prog_106_method_5_code 56 = .ok (.areturn, 1) := by decide +kernel
theorem ef_6 (m : MethodId) (ss : Addr) : entryFrame m #[(.ref ss)] 7 = mkF m 0 #[rv ss, .unset, .unset, .unset, .unset, .unset, .unset] [] := by first | (simp [entryFrame, mkF, argsToLocals, Value.category]; done) | rfl
def Q6 (Z : State) (ss : Addr) (lo : Nat) (es : List Int32) (h0 : Heap) (n0 : Nat) (v : Option Value) (h : Heap) (L : List Loc) : Prop := ∃ (a : Addr) (as : List Int32), v = some (.ref a) ∧ Fr n0 L ∧ Keep h0 h [] ∧ h0.size ≤ a ∧ own_Ai Z h a as ∧ as.Perm es
set_option maxRecDepth 65536 in
set_option maxHeartbeats 40000000 in
theorem rm6 (l : Launch) (Z : State) (a0 : Array Value) (hw : ∀ d ∈ tables_1, d.before a0 Z = true) (ws : List Jvm.Cond) (ss : Addr) (lo : Nat) (es : List Int32) (h0 : Heap) (n0 : Nat) (Z0 : n0 ≤ h0.size) (hS : own_Set Z h0 lo ss es) (hel : es.length ≤ 8) :
    MetFree l (⟨"com/example/axiomloom/axiomloom/reasoner/IntSet", "toArray", "()[I"⟩ : MethodName) (head1 (Jvm.Cond.code (⟨"com/example/axiomloom/axiomloom/reasoner/IntSet", "toArray", "()[I"⟩ : MethodName) prog_106_method_5_code 7 (some (.array .int)) :: ws) ({ frames := 0, cells := 1, slots := 8, locals := 0 } : Room)) (fun a U => a = #[(.ref ss)] ∧ Z.Warmed39 U.vm ∧ U.heap = h0) (fun _ _ _ _ _ => True) (fun _ U o U' => ∃ v L, o = .returned v ∧ Q6 Z ss lo es h0 n0 v U'.heap L ∧ FrameEnd U o U' L ({ frames := 0, cells := 1, slots := 8, locals := 0 } : Room).cells ({ frames := 0, cells := 1, slots := 8, locals := 0 } : Room).slots) := by
  refine MetFree.of_bodySF (plainFor_of_name pn_0) hisR ?_
  intro p e s m args below meth c s₁ Bd hml0 hP hK
  obtain ⟨rfl, hZ, hh⟩ := hP
  have hx := Bd.exec
  have hby := Bd.bytes
  have hml : c.maxLocals = 7 := hml0
  have hown : s.vm.findClass "com/example/axiomloom/axiomloom/reasoner/IntSet" = some m.cls := findClass_of_methodNamed Bd.named
  have hnm := (name_of_methodNamed Bd.named Bd.method).1
  have hlk : meth.locks = false := Bd.notSynchronized
  have hrt := Bd.returns
  have X0 : Stand p l e ({ frames := 0, cells := 1, slots := 8, locals := 0 } : Room) s m #[(.ref ss)] below meth c s₁ [] 0 0 := Stand.of_body Bd
  have e0 : s₁.heap = h0 := by rw [← hh, Bd.state]; rfl
  have N0 := Fr.nil n0
  show own_Endz p.tables e below (own_EndQ s ({ frames := 0, cells := 1, slots := 8, locals := 0 } : Room).cells ({ frames := 0, cells := 1, slots := 8, locals := 0 } : Room).slots (Q6 Z ss lo es h0 n0)) (s₁.setTop (entryFrame m #[(.ref ss)] 7))
  refine own_cast (ef_6 m ss) ?_
  obtain ⟨ar, vs, sh, lo1, lo2, hne, Ex, F0x, F1x, F2x, Va, hr, h28, hsz⟩ := id hS
  have hpl := (own_pf_perm hr).length_eq
  have hv16 : vs.length ≤ 16 := by omega
  refine own_go (b := s₁.setTop (mkF m 1 #[rv ss, .unset, .unset, .unset, .unset, .unset, .unset] [(.ref ss)])) (fun t k => XS.aloadN X0.here hx rfl (hb hby d6_0) rfl rfl k) ?_
  obtain ⟨T1, X1, e1, st1⟩ := getF X0 hx hZ hown (host := "") (Or.inl (hw _ (List.mem_of_getElem? (i := 32) rfl))) Via.refl e0 F2x (g := (mkF m 1 #[rv ss, .unset, .unset, .unset, .unset, .unset, .unset] [(.ref ss)])) rfl rfl (hb hby d6_1)
  refine own_go (b := T1.setTop (mkF m 4 #[rv ss, .unset, .unset, .unset, .unset, .unset, .unset] [(.int (es.length.toInt32))])) st1 ?_
  obtain ⟨T2, h2, k2, X2, e2, E2, A2, st2⟩ := newP X1 hx hZ (hw _ (List.mem_of_getElem? (i := 3) rfl)) e1 (g := (mkF m 4 #[rv ss, .unset, .unset, .unset, .unset, .unset, .unset] [(.int (es.length.toInt32))])) rfl (hb hby d6_4) rfl (own_nn (by omega)) (cap := 8) (by rw [own_n32 (by omega)]; exact hel) (by decide) (by decide) (by decide)
  obtain ⟨b2, g2⟩ : ∃ z, z = h0.size := ⟨_, rfl⟩
  rw [← g2] at A2 st2
  have g_b2 : n0 ≤ b2 := Nat.le_trans Z0 (Nat.le_of_eq g2.symm)
  have sz_b2 : h0.size ≤ b2 := Nat.le_trans (Keep.refl h0 []).1 (Nat.le_of_eq g2.symm)
  have Zs2 : n0 ≤ h2.size := Nat.le_trans Z0 E2.1
  have Kp2 : Keep h0 h2 [] := (Keep.refl h0 []).ext E2
  have V_b2 : own_Ai Z h2 b2 (List.replicate es.length 0) := own_Ai_new (n := es.length) (by omega) A2
  refine own_go (b := T2.setTop (mkF m 6 #[rv ss, .unset, .unset, .unset, .unset, .unset, .unset] [(.ref b2)])) st2 ?_
  refine own_go (b := T2.setTop (mkF m 7 #[rv ss, rv b2, .unset, .unset, .unset, .unset, .unset] [])) (fun t k => XS.astoreN X2.here hx rfl (hb hby d6_6) rfl rfl (l' := #[rv ss, rv b2, .unset, .unset, .unset, .unset, .unset]) rfl k) ?_
  refine own_go (b := T2.setTop (mkF m 8 #[rv ss, rv b2, .unset, .unset, .unset, .unset, .unset] [(.int 0)])) (fun t k => XS.iconst X2.here hx rfl (hb hby d6_7) k) ?_
  refine own_go (b := T2.setTop (mkF m 9 #[rv ss, rv b2, iv 0, .unset, .unset, .unset, .unset] [])) (fun t k => XS.istoreN X2.here hx rfl (hb hby d6_8) rfl (l' := #[rv ss, rv b2, iv 0, .unset, .unset, .unset, .unset]) rfl k) ?_
  refine own_go (b := T2.setTop (mkF m 10 #[rv ss, rv b2, iv 0, .unset, .unset, .unset, .unset] [(.ref ss)])) (fun t k => XS.aloadN X2.here hx rfl (hb hby d6_9) rfl rfl k) ?_
  obtain ⟨T3, X3, e3, st3⟩ := getF X2 hx hZ hown (host := "") (Or.inl (hw _ (List.mem_of_getElem? (i := 13) rfl))) Via.refl e2 (F0x.ext E2) (g := (mkF m 10 #[rv ss, rv b2, iv 0, .unset, .unset, .unset, .unset] [(.ref ss)])) rfl rfl (hb hby d6_10)
  refine own_go (b := T3.setTop (mkF m 13 #[rv ss, rv b2, iv 0, .unset, .unset, .unset, .unset] [(.ref ar)])) st3 ?_
  refine own_go (b := T3.setTop (mkF m 14 #[rv ss, rv b2, iv 0, rv ar, .unset, .unset, .unset] [])) (fun t k => XS.astoreN X3.here hx rfl (hb hby d6_13) rfl rfl (l' := #[rv ss, rv b2, iv 0, rv ar, .unset, .unset, .unset]) rfl k) ?_
  refine own_go (b := T3.setTop (mkF m 15 #[rv ss, rv b2, iv 0, rv ar, .unset, .unset, .unset] [(.ref ar)])) (fun t k => XS.aloadN X3.here hx rfl (hb hby d6_14) rfl rfl k) ?_
  obtain ⟨cl4, Ar4, Sz4, Ln4, Hs4⟩ := id (Va.ext E2)
  refine own_go (b := T3.setTop (mkF m 16 #[rv ss, rv b2, iv 0, rv ar, .unset, .unset, .unset] [(.int (cl4.slots.size.toInt32))])) (fun t k => X3.arraylength hx (by rw [e3]; exact Ar4.1) (State.isArrayOf_alike hZ.alike Ar4.2.1) (g := (mkF m 15 #[rv ss, rv b2, iv 0, rv ar, .unset, .unset, .unset] [(.ref ar)])) rfl rfl (hb hby d6_15) t k) ?_
  rw [Sz4]
  refine own_go (b := T3.setTop (mkF m 18 #[rv ss, rv b2, iv 0, rv ar, iv (vs.length.toInt32), .unset, .unset] [])) (fun t k => XS.istore X3.here hx rfl (hb hby d6_16) rfl (l' := #[rv ss, rv b2, iv 0, rv ar, iv (vs.length.toInt32), .unset, .unset]) rfl k) ?_
  refine own_go (b := T3.setTop (mkF m 19 #[rv ss, rv b2, iv 0, rv ar, iv (vs.length.toInt32), .unset, .unset] [(.int 0)])) (fun t k => XS.iconst X3.here hx rfl (hb hby d6_18) k) ?_
  refine own_go (b := T3.setTop (mkF m 21 #[rv ss, rv b2, iv 0, rv ar, iv (vs.length.toInt32), iv 0, .unset] [])) (fun t k => XS.istore X3.here hx rfl (hb hby d6_19) rfl (l' := #[rv ss, rv b2, iv 0, rv ar, iv (vs.length.toInt32), iv 0, .unset]) rfl k) ?_
  have nag : ar ≠ b2 := (Nat.ne_of_lt (Nat.lt_of_lt_of_le (Va).lt (Nat.le_of_eq g2.symm)))
  have LOOP : ∀ (kI iI : Nat) (s6 : Slot) (TJ : State) (hJ : Heap) (lJ : List Loc) (XJ : Stand p l e ({ frames := 0, cells := 1, slots := 8, locals := 0 } : Room) s m #[(.ref ss)] below meth c TJ lJ 1 8) (eJ : TJ.heap = hJ) (NJ : Fr n0 lJ) (ZJ : n0 ≤ hJ.size) (KJ : Keep h0 hJ []) (VaJ : own_Ai Z hJ ar vs) (VgJ : own_Ai Z hJ b2 (own_fill vs es.length iI)) (hkI : iI + kI = vs.length) (ho6 : One s6), own_Endz p.tables e below (own_EndQ s ({ frames := 0, cells := 1, slots := 8, locals := 0 } : Room).cells ({ frames := 0, cells := 1, slots := 8, locals := 0 } : Room).slots (Q6 Z ss lo es h0 n0)) (TJ.setTop (mkF m 21 #[rv ss, rv b2, iv ((own_pf vs iI).length.toInt32), rv ar, iv (vs.length.toInt32), iv (iI.toInt32), s6] [])) := by
    intro kI
    induction kI with
    | zero =>
      intro iI s6 TJ hJ lJ XJ eJ NJ ZJ KJ VaJ VgJ hkI ho6
      refine own_go (b := TJ.setTop (mkF m 23 #[rv ss, rv b2, iv ((own_pf vs iI).length.toInt32), rv ar, iv (vs.length.toInt32), iv (iI.toInt32), s6] [(.int (iI.toInt32))])) (fun t k => XS.iload XJ.here hx rfl (hb hby d6_21) rfl  k) ?_
      refine own_go (b := TJ.setTop (mkF m 25 #[rv ss, rv b2, iv ((own_pf vs iI).length.toInt32), rv ar, iv (vs.length.toInt32), iv (iI.toInt32), s6] [(.int (vs.length.toInt32)), (.int (iI.toInt32))])) (fun t k => XS.iload XJ.here hx rfl (hb hby d6_23) rfl  k) ?_
      have hi8 : ¬ (iI.toInt32) < (vs.length.toInt32) := fun q => by have q' := (own_lt32 (by omega) (by omega)).mp q; omega
      refine own_go (b := TJ.setTop (mkF m 55 #[rv ss, rv b2, iv ((own_pf vs iI).length.toInt32), rv ar, iv (vs.length.toInt32), iv (iI.toInt32), s6] [])) (fun t k => XS.icmpYes XJ.here hx rfl (pc0 := 25) (pc' := 55) rfl (hb hby d6_25) rfl (flt hi8).2.1 (by decide) (by decide) k) ?_
      refine own_go (b := TJ.setTop (mkF m 56 #[rv ss, rv b2, iv ((own_pf vs iI).length.toInt32), rv ar, iv (vs.length.toInt32), iv (iI.toInt32), s6] [(.ref b2)])) (fun t k => XS.aloadN XJ.here hx rfl (hb hby d6_55) rfl rfl k) ?_
      exact own_retA XJ hx hlk hrt rfl rfl (hb hby d6_56) (Nat.le_of_ble_eq_true rfl) (Nat.le_of_ble_eq_true rfl) (⟨b2, own_pf vs vs.length, rfl, NJ, by rw [eJ]; exact KJ, sz_b2, by rw [eJ]; have q := VgJ; rw [show iI = vs.length from by omega, own_fill_fin hpl] at q; exact q, own_pf_perm hr⟩)
    | succ kI ih =>
      intro iI s6 TJ hJ lJ XJ eJ NJ ZJ KJ VaJ VgJ hkI ho6
      refine own_go (b := TJ.setTop (mkF m 23 #[rv ss, rv b2, iv ((own_pf vs iI).length.toInt32), rv ar, iv (vs.length.toInt32), iv (iI.toInt32), s6] [(.int (iI.toInt32))])) (fun t k => XS.iload XJ.here hx rfl (hb hby d6_21) rfl  k) ?_
      refine own_go (b := TJ.setTop (mkF m 25 #[rv ss, rv b2, iv ((own_pf vs iI).length.toInt32), rv ar, iv (vs.length.toInt32), iv (iI.toInt32), s6] [(.int (vs.length.toInt32)), (.int (iI.toInt32))])) (fun t k => XS.iload XJ.here hx rfl (hb hby d6_23) rfl  k) ?_
      have hi8 : (iI.toInt32) < (vs.length.toInt32) := (own_lt32 (by omega) (by omega)).mpr (by omega)
      have hm1 : (own_pf vs (iI + 1)).length ≤ es.length := by rw [← hpl]; exact own_pf_mono (by omega)
      have hm0 : (own_pf vs iI).length ≤ es.length := by rw [← hpl]; exact own_pf_mono (by omega)
      refine own_go (b := TJ.setTop (mkF m 28 #[rv ss, rv b2, iv ((own_pf vs iI).length.toInt32), rv ar, iv (vs.length.toInt32), iv (iI.toInt32), s6] [])) (fun t k => XS.icmpNo XJ.here hx rfl (hb hby d6_25) rfl (tlt hi8).2.1 k) ?_
      refine own_go (b := TJ.setTop (mkF m 29 #[rv ss, rv b2, iv ((own_pf vs iI).length.toInt32), rv ar, iv (vs.length.toInt32), iv (iI.toInt32), s6] [(.ref ar)])) (fun t k => XS.aloadN XJ.here hx rfl (hb hby d6_28) rfl rfl k) ?_
      refine own_go (b := TJ.setTop (mkF m 31 #[rv ss, rv b2, iv ((own_pf vs iI).length.toInt32), rv ar, iv (vs.length.toInt32), iv (iI.toInt32), s6] [(.int (iI.toInt32)), (.ref ar)])) (fun t k => XS.iload XJ.here hx rfl (hb hby d6_29) rfl  k) ?_
      obtain ⟨cl5, Ar5, Sz5, Ln5, Hs5⟩ := id VaJ
      have hb5 := own_Ai_at Sz5 Ln5 Hs5 (i := iI) (by omega)
      refine own_go (b := TJ.setTop (mkF m 32 #[rv ss, rv b2, iv ((own_pf vs iI).length.toInt32), rv ar, iv (vs.length.toInt32), iv (iI.toInt32), s6] [(.int (vs.getD iI 0))])) (fun t k => XJ.iaload hx (j := (iI.toInt32)) (v := (.int (vs.getD iI 0))) (by rw [eJ]; exact Ar5.1) (State.isArrayOf_alike hZ.alike Ar5.2.1) Ar5.2.2 hb5.1 hb5.2 (g := (mkF m 31 #[rv ss, rv b2, iv ((own_pf vs iI).length.toInt32), rv ar, iv (vs.length.toInt32), iv (iI.toInt32), s6] [(.int (iI.toInt32)), (.ref ar)])) rfl rfl (hb hby d6_31) t k) ?_
      refine own_go (b := TJ.setTop (mkF m 34 #[rv ss, rv b2, iv ((own_pf vs iI).length.toInt32), rv ar, iv (vs.length.toInt32), iv (iI.toInt32), iv (vs.getD iI 0)] [])) (fun t k => XS.istore XJ.here hx rfl (hb hby d6_32) rfl (l' := #[rv ss, rv b2, iv ((own_pf vs iI).length.toInt32), rv ar, iv (vs.length.toInt32), iv (iI.toInt32), iv (vs.getD iI 0)]) (XS.store1 (o := s6) rfl ho6 rfl) k) ?_
      refine own_go (b := TJ.setTop (mkF m 36 #[rv ss, rv b2, iv ((own_pf vs iI).length.toInt32), rv ar, iv (vs.length.toInt32), iv (iI.toInt32), iv (vs.getD iI 0)] [(.int (vs.getD iI 0))])) (fun t k => XS.iload XJ.here hx rfl (hb hby d6_34) rfl  k) ?_
      by_cases hc6 : (vs.getD iI 0) = (0 : Int32)
      · refine own_go (b := TJ.setTop (mkF m 49 #[rv ss, rv b2, iv ((own_pf vs iI).length.toInt32), rv ar, iv (vs.length.toInt32), iv (iI.toInt32), iv (vs.getD iI 0)] [])) (fun t k => XS.ifYes XJ.here hx rfl (pc0 := 36) (pc' := 49) rfl (hb hby d6_36) rfl ((if0 _ _).trans (teq hc6).1) (by decide) (by decide) k) ?_
        refine own_go (b := TJ.setTop (mkF m 52 #[rv ss, rv b2, iv ((own_pf vs iI).length.toInt32), rv ar, iv (vs.length.toInt32), iv ((iI.toInt32) + (1 : Int32)), iv (vs.getD iI 0)] [])) (fun t k => XS.iinc XJ.here hx rfl (hb hby d6_49) rfl (l' := #[rv ss, rv b2, iv ((own_pf vs iI).length.toInt32), rv ar, iv (vs.length.toInt32), iv ((iI.toInt32) + (1 : Int32)), iv (vs.getD iI 0)]) rfl k) ?_
        refine own_go (b := TJ.setTop (mkF m 21 #[rv ss, rv b2, iv ((own_pf vs iI).length.toInt32), rv ar, iv (vs.length.toInt32), iv ((iI.toInt32) + (1 : Int32)), iv (vs.getD iI 0)] [])) (fun t k => XS.goto XJ.here hx rfl (pc0 := 52) (pc' := 21) rfl (hb hby d6_52) (by decide) (by decide) k) ?_
        rw [own_add1 (i := iI) (by omega)]
        rw [← own_pf_zero (by omega) hc6]
        exact ih (iI + 1) _ _ _ _ XJ eJ NJ ZJ KJ VaJ (by have q := VgJ; unfold own_fill at q ⊢; rw [own_pf_zero (by omega) hc6]; exact q) (by omega) (One.val rfl)
      · refine own_go (b := TJ.setTop (mkF m 39 #[rv ss, rv b2, iv ((own_pf vs iI).length.toInt32), rv ar, iv (vs.length.toInt32), iv (iI.toInt32), iv (vs.getD iI 0)] [])) (fun t k => XS.ifNo XJ.here hx rfl (hb hby d6_36) rfl ((if0 _ _).trans (feq hc6).1) k) ?_
        have hm2 : (own_pf vs iI).length < es.length := by rw [own_pf_one (by omega) hc6] at hm1; simp at hm1; omega
        refine own_go (b := TJ.setTop (mkF m 40 #[rv ss, rv b2, iv ((own_pf vs iI).length.toInt32), rv ar, iv (vs.length.toInt32), iv (iI.toInt32), iv (vs.getD iI 0)] [(.ref b2)])) (fun t k => XS.aloadN XJ.here hx rfl (hb hby d6_39) rfl rfl k) ?_
        refine own_go (b := TJ.setTop (mkF m 41 #[rv ss, rv b2, iv ((own_pf vs iI).length.toInt32), rv ar, iv (vs.length.toInt32), iv (iI.toInt32), iv (vs.getD iI 0)] [(.int ((own_pf vs iI).length.toInt32)), (.ref b2)])) (fun t k => XS.iloadN XJ.here hx rfl (hb hby d6_40) rfl  k) ?_
        refine own_go (b := TJ.setTop (mkF m 44 #[rv ss, rv b2, iv (((own_pf vs iI).length.toInt32) + (1 : Int32)), rv ar, iv (vs.length.toInt32), iv (iI.toInt32), iv (vs.getD iI 0)] [(.int ((own_pf vs iI).length.toInt32)), (.ref b2)])) (fun t k => XS.iinc XJ.here hx rfl (hb hby d6_41) rfl (l' := #[rv ss, rv b2, iv (((own_pf vs iI).length.toInt32) + (1 : Int32)), rv ar, iv (vs.length.toInt32), iv (iI.toInt32), iv (vs.getD iI 0)]) rfl k) ?_
        refine own_go (b := TJ.setTop (mkF m 46 #[rv ss, rv b2, iv (((own_pf vs iI).length.toInt32) + (1 : Int32)), rv ar, iv (vs.length.toInt32), iv (iI.toInt32), iv (vs.getD iI 0)] [(.int (vs.getD iI 0)), (.int ((own_pf vs iI).length.toInt32)), (.ref b2)])) (fun t k => XS.iload XJ.here hx rfl (hb hby d6_44) rfl  k) ?_
        refine own_go (b := TJ.setTop (mkF m 47 #[rv ss, rv b2, iv (((own_pf vs iI).length.toInt32) + (1 : Int32)), rv ar, iv (vs.length.toInt32), iv (iI.toInt32), iv (vs.getD iI 0)] [(.int 1), (.int (vs.getD iI 0)), (.int ((own_pf vs iI).length.toInt32)), (.ref b2)])) (fun t k => XS.iconst XJ.here hx rfl (hb hby d6_46) k) ?_
        refine own_go (b := TJ.setTop (mkF m 48 #[rv ss, rv b2, iv (((own_pf vs iI).length.toInt32) + (1 : Int32)), rv ar, iv (vs.length.toInt32), iv (iI.toInt32), iv (vs.getD iI 0)] [(.int ((vs.getD iI 0) - (1 : Int32))), (.int ((own_pf vs iI).length.toInt32)), (.ref b2)])) (fun t k => XS.isub XJ.here hx rfl (hb hby d6_47) rfl k) ?_
        obtain ⟨cl7, Ar7, Sz7, Ln7, Hs7⟩ := id VgJ
        obtain ⟨T8, h8, X8, e8, W8, st8⟩ := stI XJ hx hZ eJ Ar7 (j := ((own_pf vs iI).length.toInt32)) (own_Ai_at Sz7 Ln7 Hs7 (i := (own_pf vs iI).length) (by rw [own_fill_len hm0]; exact hm2)).1 (g := (mkF m 48 #[rv ss, rv b2, iv (((own_pf vs iI).length.toInt32) + (1 : Int32)), rv ar, iv (vs.length.toInt32), iv (iI.toInt32), iv (vs.getD iI 0)] [(.int ((vs.getD iI 0) - (1 : Int32))), (.int ((own_pf vs iI).length.toInt32)), (.ref b2)])) rfl rfl (hb hby d6_48)
        have V_b2_8 : own_Ai Z h8 b2 ((own_fill vs es.length iI).set (own_pf vs iI).length ((vs.getD iI 0) - (1 : Int32))) := own_Ai_set Ar7 Sz7 Ln7 Hs7 (i := (own_pf vs iI).length) (by rw [own_fill_len hm0]; exact hm2) W8
        have Zs8 : n0 ≤ h8.size := Nat.le_trans ZJ (Keep.of_wr W8).1
        have N8 := Fr.snoc X8 NJ g_b2
        have Kp8 : Keep h0 h8 [] := KJ.wr W8 (Or.inr sz_b2)
        refine own_go (b := T8.setTop (mkF m 49 #[rv ss, rv b2, iv (((own_pf vs iI).length.toInt32) + (1 : Int32)), rv ar, iv (vs.length.toInt32), iv (iI.toInt32), iv (vs.getD iI 0)] [])) st8 ?_
        refine own_go (b := T8.setTop (mkF m 52 #[rv ss, rv b2, iv (((own_pf vs iI).length.toInt32) + (1 : Int32)), rv ar, iv (vs.length.toInt32), iv ((iI.toInt32) + (1 : Int32)), iv (vs.getD iI 0)] [])) (fun t k => XS.iinc X8.here hx rfl (hb hby d6_49) rfl (l' := #[rv ss, rv b2, iv (((own_pf vs iI).length.toInt32) + (1 : Int32)), rv ar, iv (vs.length.toInt32), iv ((iI.toInt32) + (1 : Int32)), iv (vs.getD iI 0)]) rfl k) ?_
        refine own_go (b := T8.setTop (mkF m 21 #[rv ss, rv b2, iv (((own_pf vs iI).length.toInt32) + (1 : Int32)), rv ar, iv (vs.length.toInt32), iv ((iI.toInt32) + (1 : Int32)), iv (vs.getD iI 0)] [])) (fun t k => XS.goto X8.here hx rfl (pc0 := 52) (pc' := 21) rfl (hb hby d6_52) (by decide) (by decide) k) ?_
        rw [own_add1 (i := iI) (by omega)]
        rw [own_add1 (by omega), show (own_pf vs iI).length + 1 = (own_pf vs (iI + 1)).length from by rw [own_pf_one (by omega) hc6]; simp]
        exact ih (iI + 1) _ _ _ _ X8 e8 N8 Zs8 Kp8 (VaJ.other W8 nag) (by have q := V_b2_8; rw [own_fill_set (by omega) hc6 hm1] at q; exact q) (by omega) (One.val rfl)
  exact LOOP vs.length 0 _ _ _ _ X3 e3 N0 Zs2 Kp2 (Va.ext E2) V_b2 (Nat.zero_add _) One.u
theorem d11_0 : decode method_6_code 0 = .ok (.iload_n 1, 1) := by decide +kernel
theorem d11_1 : decode method_6_code 1 = .ok (.ifCond .le 10, 3) := by decide +kernel
theorem d11_4 : decode method_6_code 4 = .ok (.aload_n 0, 1) := by decide +kernel
theorem d11_5 : decode method_6_code 5 = .ok (.iconst 0, 1) := by decide +kernel
theorem d11_6 : decode method_6_code 6 = .ok (.iaload, 1) := by decide +kernel
theorem d11_7 : decode method_6_code 7 = .ok (.iload_n 2, 1) := by decide +kernel
theorem d11_8 : decode method_6_code 8 = .ok (.if_icmp .eq 91, 3) := by decide +kernel
theorem d11_11 : decode method_6_code 11 = .ok (.iload_n 1, 1) := by decide +kernel
theorem d11_12 : decode method_6_code 12 = .ok (.iconst 1, 1) := by decide +kernel
theorem d11_13 : decode method_6_code 13 = .ok (.if_icmp .le 10, 3) := by decide +kernel
theorem d11_16 : decode method_6_code 16 = .ok (.aload_n 0, 1) := by decide +kernel
theorem d11_17 : decode method_6_code 17 = .ok (.iconst 1, 1) := by decide +kernel
theorem d11_18 : decode method_6_code 18 = .ok (.iaload, 1) := by decide +kernel
theorem d11_19 : decode method_6_code 19 = .ok (.iload_n 2, 1) := by decide +kernel
theorem d11_20 : decode method_6_code 20 = .ok (.if_icmp .eq 79, 3) := by decide +kernel
theorem d11_23 : decode method_6_code 23 = .ok (.iload_n 1, 1) := by decide +kernel
theorem d11_24 : decode method_6_code 24 = .ok (.iconst 2, 1) := by decide +kernel
theorem d11_25 : decode method_6_code 25 = .ok (.if_icmp .le 10, 3) := by decide +kernel
theorem d11_28 : decode method_6_code 28 = .ok (.aload_n 0, 1) := by decide +kernel
theorem d11_29 : decode method_6_code 29 = .ok (.iconst 2, 1) := by decide +kernel
theorem d11_30 : decode method_6_code 30 = .ok (.iaload, 1) := by decide +kernel
theorem d11_31 : decode method_6_code 31 = .ok (.iload_n 2, 1) := by decide +kernel
theorem d11_32 : decode method_6_code 32 = .ok (.if_icmp .eq 67, 3) := by decide +kernel
theorem d11_35 : decode method_6_code 35 = .ok (.iload_n 1, 1) := by decide +kernel
theorem d11_36 : decode method_6_code 36 = .ok (.iconst 3, 1) := by decide +kernel
theorem d11_37 : decode method_6_code 37 = .ok (.if_icmp .le 10, 3) := by decide +kernel
theorem d11_40 : decode method_6_code 40 = .ok (.aload_n 0, 1) := by decide +kernel
theorem d11_41 : decode method_6_code 41 = .ok (.iconst 3, 1) := by decide +kernel
theorem d11_42 : decode method_6_code 42 = .ok (.iaload, 1) := by decide +kernel
theorem d11_43 : decode method_6_code 43 = .ok (.iload_n 2, 1) := by decide +kernel
theorem d11_44 : decode method_6_code 44 = .ok (.if_icmp .eq 55, 3) := by decide +kernel
theorem d11_47 : decode method_6_code 47 = .ok (.iload_n 1, 1) := by decide +kernel
theorem d11_48 : decode method_6_code 48 = .ok (.iconst 4, 1) := by decide +kernel
theorem d11_49 : decode method_6_code 49 = .ok (.if_icmp .le 10, 3) := by decide +kernel
theorem d11_52 : decode method_6_code 52 = .ok (.aload_n 0, 1) := by decide +kernel
theorem d11_53 : decode method_6_code 53 = .ok (.iconst 4, 1) := by decide +kernel
theorem d11_54 : decode method_6_code 54 = .ok (.iaload, 1) := by decide +kernel
theorem d11_55 : decode method_6_code 55 = .ok (.iload_n 2, 1) := by decide +kernel
theorem d11_56 : decode method_6_code 56 = .ok (.if_icmp .eq 43, 3) := by decide +kernel
theorem d11_59 : decode method_6_code 59 = .ok (.iload_n 1, 1) := by decide +kernel
theorem d11_60 : decode method_6_code 60 = .ok (.iconst 5, 1) := by decide +kernel
theorem d11_61 : decode method_6_code 61 = .ok (.if_icmp .le 10, 3) := by decide +kernel
theorem d11_64 : decode method_6_code 64 = .ok (.aload_n 0, 1) := by decide +kernel
theorem d11_65 : decode method_6_code 65 = .ok (.iconst 5, 1) := by decide +kernel
theorem d11_66 : decode method_6_code 66 = .ok (.iaload, 1) := by decide +kernel
theorem d11_67 : decode method_6_code 67 = .ok (.iload_n 2, 1) := by decide +kernel
theorem d11_68 : decode method_6_code 68 = .ok (.if_icmp .eq 31, 3) := by decide +kernel
theorem d11_71 : decode method_6_code 71 = .ok (.iload_n 1, 1) := by decide +kernel
theorem d11_72 : decode method_6_code 72 = .ok (.bipush 6, 2) := by decide +kernel
theorem d11_74 : decode method_6_code 74 = .ok (.if_icmp .le 11, 3) := by decide +kernel
theorem d11_77 : decode method_6_code 77 = .ok (.aload_n 0, 1) := by decide +kernel
theorem d11_78 : decode method_6_code 78 = .ok (.bipush 6, 2) := by decide +kernel
theorem d11_80 : decode method_6_code 80 = .ok (.iaload, 1) := by decide +kernel
theorem d11_81 : decode method_6_code 81 = .ok (.iload_n 2, 1) := by decide +kernel
theorem d11_82 : decode method_6_code 82 = .ok (.if_icmp .eq 17, 3) := by decide +kernel
theorem d11_85 : decode method_6_code 85 = .ok (.iload_n 1, 1) := by decide +kernel
theorem d11_86 : decode method_6_code 86 = .ok (.bipush 7, 2) := by decide +kernel
theorem d11_88 : decode method_6_code 88 = .ok (.if_icmp .le 15, 3) := by decide +kernel
theorem d11_91 : decode method_6_code 91 = .ok (.aload_n 0, 1) := by decide +kernel
theorem d11_92 : decode method_6_code 92 = .ok (.bipush 7, 2) := by decide +kernel
theorem d11_94 : decode method_6_code 94 = .ok (.iaload, 1) := by decide +kernel
theorem d11_95 : decode method_6_code 95 = .ok (.iload_n 2, 1) := by decide +kernel
theorem d11_96 : decode method_6_code 96 = .ok (.if_icmp .ne 7, 3) := by decide +kernel
theorem d11_99 : decode method_6_code 99 = .ok (.iconst 1, 1) := by decide +kernel
theorem d11_100 : decode method_6_code 100 = .ok (.goto 4, 3) := by decide +kernel
theorem d11_103 : decode method_6_code 103 = .ok (.iconst 0, 1) := by decide +kernel
theorem d11_104 : decode method_6_code 104 = .ok (.ireturn, 1) := by decide +kernel
theorem ef_11 (m : MethodId) (aa : Addr) (ln : Int32) (xx : Int32) : entryFrame m #[(.ref aa), (.int ln), (.int xx)] 3 = mkF m 0 #[rv aa, iv ln, iv xx] [] := by first | (simp [entryFrame, mkF, argsToLocals, Value.category]; done) | rfl
def Q11 (Z : State) (aa : Addr) (ln : Int32) (xx : Int32) (as : List Int32) (n : Nat) (h0 : Heap) (n0 : Nat) (v : Option Value) (h : Heap) (L : List Loc) : Prop := v = some (.int 1) ∧ Fr n0 L ∧ h = h0
set_option maxRecDepth 65536 in
set_option maxHeartbeats 40000000 in
theorem rm11 (l : Launch) (Z : State) (a0 : Array Value) (hw : ∀ d ∈ tables_1, d.before a0 Z = true) (ws : List Jvm.Cond) (aa : Addr) (ln : Int32) (xx : Int32) (as : List Int32) (n : Nat) (h0 : Heap) (n0 : Nat) (Z0 : n0 ≤ h0.size) (Va : own_Ai Z h0 aa as) (hln : ln = n.toInt32) (hn : n ≤ 8) (hnl : n ≤ as.length) (hxm : xx ∈ as.take n) :
    MetFree l (⟨"com/example/axiomloom/axiomloom/reasoner/IntSetToArrayPinLaw", "has", "([III)Z"⟩ : MethodName) (head1 (Jvm.Cond.code (⟨"com/example/axiomloom/axiomloom/reasoner/IntSetToArrayPinLaw", "has", "([III)Z"⟩ : MethodName) method_6_code 3 (some .boolean) :: ws) ({ frames := 0, cells := 0, slots := 0, locals := 0 } : Room)) (fun a U => a = #[(.ref aa), (.int ln), (.int xx)] ∧ Z.Warmed39 U.vm ∧ U.heap = h0) (fun _ _ _ _ _ => True) (fun _ U o U' => ∃ v L, o = .returned v ∧ Q11 Z aa ln xx as n h0 n0 v U'.heap L ∧ FrameEnd U o U' L ({ frames := 0, cells := 0, slots := 0, locals := 0 } : Room).cells ({ frames := 0, cells := 0, slots := 0, locals := 0 } : Room).slots) := by
  refine MetFree.of_bodySF (plainFor_of_name pn_1) hisR ?_
  intro p e s m args below meth c s₁ Bd hml0 hP hK
  obtain ⟨rfl, hZ, hh⟩ := hP
  have hx := Bd.exec
  have hby := Bd.bytes
  have hml : c.maxLocals = 3 := hml0
  have hown : s.vm.findClass "com/example/axiomloom/axiomloom/reasoner/IntSetToArrayPinLaw" = some m.cls := findClass_of_methodNamed Bd.named
  have hnm := (name_of_methodNamed Bd.named Bd.method).1
  have hlk : meth.locks = false := Bd.notSynchronized
  have hrt := Bd.returns
  have X0 : Stand p l e ({ frames := 0, cells := 0, slots := 0, locals := 0 } : Room) s m #[(.ref aa), (.int ln), (.int xx)] below meth c s₁ [] 0 0 := Stand.of_body Bd
  have e0 : s₁.heap = h0 := by rw [← hh, Bd.state]; rfl
  have N0 := Fr.nil n0
  show own_Endz p.tables e below (own_EndQ s ({ frames := 0, cells := 0, slots := 0, locals := 0 } : Room).cells ({ frames := 0, cells := 0, slots := 0, locals := 0 } : Room).slots (Q11 Z aa ln xx as n h0 n0)) (s₁.setTop (entryFrame m #[(.ref aa), (.int ln), (.int xx)] 3))
  refine own_cast (ef_11 m aa ln xx) ?_
  subst hln
  have J7 : ∀ (TJ : State) (XJ : Stand p l e ({ frames := 0, cells := 0, slots := 0, locals := 0 } : Room) s m #[(.ref aa), (.int ((n.toInt32))), (.int xx)] below meth c TJ [] 0 0) (eJ : TJ.heap = h0) (hk : ∀ j, j < 7 → j < n → as.getD j 0 ≠ xx), own_Endz p.tables e below (own_EndQ s ({ frames := 0, cells := 0, slots := 0, locals := 0 } : Room).cells ({ frames := 0, cells := 0, slots := 0, locals := 0 } : Room).slots (Q11 Z aa ((n.toInt32)) xx as n h0 n0)) (TJ.setTop (mkF m 85 #[rv aa, iv (n.toInt32), iv xx] [])) := by
    intro TJ XJ eJ hk
    refine own_go (b := TJ.setTop (mkF m 86 #[rv aa, iv (n.toInt32), iv xx] [(.int (n.toInt32))])) (fun t k => XS.iloadN XJ.here hx rfl (hb hby d11_85) rfl  k) ?_
    refine own_go (b := TJ.setTop (mkF m 88 #[rv aa, iv (n.toInt32), iv xx] [(.int 7), (.int (n.toInt32))])) (fun t k => XS.bipush XJ.here hx rfl (hb hby d11_86) k) ?_
    by_cases hc1 : (7 : Int32) < (n.toInt32)
    · refine own_go (b := TJ.setTop (mkF m 91 #[rv aa, iv (n.toInt32), iv xx] [])) (fun t k => XS.icmpNo XJ.here hx rfl (hb hby d11_88) rfl (tlt hc1).2.2.2 k) ?_
      have hlt7 := (own_lt32 (i := 7) (by omega) (by omega)).mp hc1
      refine own_go (b := TJ.setTop (mkF m 92 #[rv aa, iv (n.toInt32), iv xx] [(.ref aa)])) (fun t k => XS.aloadN XJ.here hx rfl (hb hby d11_91) rfl rfl k) ?_
      refine own_go (b := TJ.setTop (mkF m 94 #[rv aa, iv (n.toInt32), iv xx] [(.int 7), (.ref aa)])) (fun t k => XS.bipush XJ.here hx rfl (hb hby d11_92) k) ?_
      obtain ⟨cl2, Ar2, Sz2, Ln2, Hs2⟩ := id Va
      have hb2 := own_Ai_at Sz2 Ln2 Hs2 (i := 7) (by omega)
      refine own_go (b := TJ.setTop (mkF m 95 #[rv aa, iv (n.toInt32), iv xx] [(.int (as.getD 7 0))])) (fun t k => XJ.iaload hx (j := (7 : Int32)) (v := (.int (as.getD 7 0))) (by rw [eJ]; exact Ar2.1) (State.isArrayOf_alike hZ.alike Ar2.2.1) Ar2.2.2 hb2.1 hb2.2 (g := (mkF m 94 #[rv aa, iv (n.toInt32), iv xx] [(.int 7), (.ref aa)])) rfl rfl (hb hby d11_94) t k) ?_
      refine own_go (b := TJ.setTop (mkF m 96 #[rv aa, iv (n.toInt32), iv xx] [(.int xx), (.int (as.getD 7 0))])) (fun t k => XS.iloadN XJ.here hx rfl (hb hby d11_95) rfl  k) ?_
      by_cases hc3 : (as.getD 7 0) = xx
      · refine own_go (b := TJ.setTop (mkF m 99 #[rv aa, iv (n.toInt32), iv xx] [])) (fun t k => XS.icmpNo XJ.here hx rfl (hb hby d11_96) rfl (teq hc3).2 k) ?_
        refine own_go (b := TJ.setTop (mkF m 100 #[rv aa, iv (n.toInt32), iv xx] [(.int 1)])) (fun t k => XS.iconst XJ.here hx rfl (hb hby d11_99) k) ?_
        refine own_go (b := TJ.setTop (mkF m 104 #[rv aa, iv (n.toInt32), iv xx] [(.int 1)])) (fun t k => XS.goto XJ.here hx rfl (pc0 := 100) (pc' := 104) rfl (hb hby d11_100) (by decide) (by decide) k) ?_
        exact own_retN XJ hx hlk (t := .boolean) hrt (by simp) (hb hby d11_104) (Nat.le_of_ble_eq_true rfl) (Nat.le_of_ble_eq_true rfl) (⟨rfl, N0, eJ⟩)
      · refine own_go (b := TJ.setTop (mkF m 103 #[rv aa, iv (n.toInt32), iv xx] [])) (fun t k => XS.icmpYes XJ.here hx rfl (pc0 := 96) (pc' := 103) rfl (hb hby d11_96) rfl (feq hc3).2 (by decide) (by decide) k) ?_
        refine own_go (b := TJ.setTop (mkF m 104 #[rv aa, iv (n.toInt32), iv xx] [(.int 0)])) (fun t k => XS.iconst XJ.here hx rfl (hb hby d11_103) k) ?_
        exact own_retN XJ hx hlk (t := .boolean) hrt (by simp) (hb hby d11_104) (Nat.le_of_ble_eq_true rfl) (Nat.le_of_ble_eq_true rfl) (by obtain ⟨j, hj1, hj2, hj3⟩ := own_take_mem hxm; exact absurd hj3 ((own_hk1 hk hc3) j (by omega) hj1))
    · refine own_go (b := TJ.setTop (mkF m 103 #[rv aa, iv (n.toInt32), iv xx] [])) (fun t k => XS.icmpYes XJ.here hx rfl (pc0 := 88) (pc' := 103) rfl (hb hby d11_88) rfl (flt hc1).2.2.2 (by decide) (by decide) k) ?_
      refine own_go (b := TJ.setTop (mkF m 104 #[rv aa, iv (n.toInt32), iv xx] [(.int 0)])) (fun t k => XS.iconst XJ.here hx rfl (hb hby d11_103) k) ?_
      exact own_retN XJ hx hlk (t := .boolean) hrt (by simp) (hb hby d11_104) (Nat.le_of_ble_eq_true rfl) (Nat.le_of_ble_eq_true rfl) (by obtain ⟨j, hj1, hj2, hj3⟩ := own_take_mem hxm; exact absurd hj3 ((own_hk2 hk (fun q => hc1 ((own_lt32 (i := 7) (by omega) (by omega)).mpr q))) j (by omega) hj1))
  have J6 : ∀ (TJ : State) (XJ : Stand p l e ({ frames := 0, cells := 0, slots := 0, locals := 0 } : Room) s m #[(.ref aa), (.int ((n.toInt32))), (.int xx)] below meth c TJ [] 0 0) (eJ : TJ.heap = h0) (hk : ∀ j, j < 6 → j < n → as.getD j 0 ≠ xx), own_Endz p.tables e below (own_EndQ s ({ frames := 0, cells := 0, slots := 0, locals := 0 } : Room).cells ({ frames := 0, cells := 0, slots := 0, locals := 0 } : Room).slots (Q11 Z aa ((n.toInt32)) xx as n h0 n0)) (TJ.setTop (mkF m 71 #[rv aa, iv (n.toInt32), iv xx] [])) := by
    intro TJ XJ eJ hk
    refine own_go (b := TJ.setTop (mkF m 72 #[rv aa, iv (n.toInt32), iv xx] [(.int (n.toInt32))])) (fun t k => XS.iloadN XJ.here hx rfl (hb hby d11_71) rfl  k) ?_
    refine own_go (b := TJ.setTop (mkF m 74 #[rv aa, iv (n.toInt32), iv xx] [(.int 6), (.int (n.toInt32))])) (fun t k => XS.bipush XJ.here hx rfl (hb hby d11_72) k) ?_
    by_cases hc4 : (6 : Int32) < (n.toInt32)
    · refine own_go (b := TJ.setTop (mkF m 77 #[rv aa, iv (n.toInt32), iv xx] [])) (fun t k => XS.icmpNo XJ.here hx rfl (hb hby d11_74) rfl (tlt hc4).2.2.2 k) ?_
      have hlt6 := (own_lt32 (i := 6) (by omega) (by omega)).mp hc4
      refine own_go (b := TJ.setTop (mkF m 78 #[rv aa, iv (n.toInt32), iv xx] [(.ref aa)])) (fun t k => XS.aloadN XJ.here hx rfl (hb hby d11_77) rfl rfl k) ?_
      refine own_go (b := TJ.setTop (mkF m 80 #[rv aa, iv (n.toInt32), iv xx] [(.int 6), (.ref aa)])) (fun t k => XS.bipush XJ.here hx rfl (hb hby d11_78) k) ?_
      obtain ⟨cl5, Ar5, Sz5, Ln5, Hs5⟩ := id Va
      have hb5 := own_Ai_at Sz5 Ln5 Hs5 (i := 6) (by omega)
      refine own_go (b := TJ.setTop (mkF m 81 #[rv aa, iv (n.toInt32), iv xx] [(.int (as.getD 6 0))])) (fun t k => XJ.iaload hx (j := (6 : Int32)) (v := (.int (as.getD 6 0))) (by rw [eJ]; exact Ar5.1) (State.isArrayOf_alike hZ.alike Ar5.2.1) Ar5.2.2 hb5.1 hb5.2 (g := (mkF m 80 #[rv aa, iv (n.toInt32), iv xx] [(.int 6), (.ref aa)])) rfl rfl (hb hby d11_80) t k) ?_
      refine own_go (b := TJ.setTop (mkF m 82 #[rv aa, iv (n.toInt32), iv xx] [(.int xx), (.int (as.getD 6 0))])) (fun t k => XS.iloadN XJ.here hx rfl (hb hby d11_81) rfl  k) ?_
      by_cases hc6 : (as.getD 6 0) = xx
      · refine own_go (b := TJ.setTop (mkF m 99 #[rv aa, iv (n.toInt32), iv xx] [])) (fun t k => XS.icmpYes XJ.here hx rfl (pc0 := 82) (pc' := 99) rfl (hb hby d11_82) rfl (teq hc6).1 (by decide) (by decide) k) ?_
        refine own_go (b := TJ.setTop (mkF m 100 #[rv aa, iv (n.toInt32), iv xx] [(.int 1)])) (fun t k => XS.iconst XJ.here hx rfl (hb hby d11_99) k) ?_
        refine own_go (b := TJ.setTop (mkF m 104 #[rv aa, iv (n.toInt32), iv xx] [(.int 1)])) (fun t k => XS.goto XJ.here hx rfl (pc0 := 100) (pc' := 104) rfl (hb hby d11_100) (by decide) (by decide) k) ?_
        exact own_retN XJ hx hlk (t := .boolean) hrt (by simp) (hb hby d11_104) (Nat.le_of_ble_eq_true rfl) (Nat.le_of_ble_eq_true rfl) (⟨rfl, N0, eJ⟩)
      · refine own_go (b := TJ.setTop (mkF m 85 #[rv aa, iv (n.toInt32), iv xx] [])) (fun t k => XS.icmpNo XJ.here hx rfl (hb hby d11_82) rfl (feq hc6).1 k) ?_
        exact J7 TJ XJ eJ (own_hk1 hk hc6)
    · refine own_go (b := TJ.setTop (mkF m 85 #[rv aa, iv (n.toInt32), iv xx] [])) (fun t k => XS.icmpYes XJ.here hx rfl (pc0 := 74) (pc' := 85) rfl (hb hby d11_74) rfl (flt hc4).2.2.2 (by decide) (by decide) k) ?_
      exact J7 TJ XJ eJ (own_hk2 hk (fun q => hc4 ((own_lt32 (i := 6) (by omega) (by omega)).mpr q)))
  have J5 : ∀ (TJ : State) (XJ : Stand p l e ({ frames := 0, cells := 0, slots := 0, locals := 0 } : Room) s m #[(.ref aa), (.int ((n.toInt32))), (.int xx)] below meth c TJ [] 0 0) (eJ : TJ.heap = h0) (hk : ∀ j, j < 5 → j < n → as.getD j 0 ≠ xx), own_Endz p.tables e below (own_EndQ s ({ frames := 0, cells := 0, slots := 0, locals := 0 } : Room).cells ({ frames := 0, cells := 0, slots := 0, locals := 0 } : Room).slots (Q11 Z aa ((n.toInt32)) xx as n h0 n0)) (TJ.setTop (mkF m 59 #[rv aa, iv (n.toInt32), iv xx] [])) := by
    intro TJ XJ eJ hk
    refine own_go (b := TJ.setTop (mkF m 60 #[rv aa, iv (n.toInt32), iv xx] [(.int (n.toInt32))])) (fun t k => XS.iloadN XJ.here hx rfl (hb hby d11_59) rfl  k) ?_
    refine own_go (b := TJ.setTop (mkF m 61 #[rv aa, iv (n.toInt32), iv xx] [(.int 5), (.int (n.toInt32))])) (fun t k => XS.iconst XJ.here hx rfl (hb hby d11_60) k) ?_
    by_cases hc7 : (5 : Int32) < (n.toInt32)
    · refine own_go (b := TJ.setTop (mkF m 64 #[rv aa, iv (n.toInt32), iv xx] [])) (fun t k => XS.icmpNo XJ.here hx rfl (hb hby d11_61) rfl (tlt hc7).2.2.2 k) ?_
      have hlt5 := (own_lt32 (i := 5) (by omega) (by omega)).mp hc7
      refine own_go (b := TJ.setTop (mkF m 65 #[rv aa, iv (n.toInt32), iv xx] [(.ref aa)])) (fun t k => XS.aloadN XJ.here hx rfl (hb hby d11_64) rfl rfl k) ?_
      refine own_go (b := TJ.setTop (mkF m 66 #[rv aa, iv (n.toInt32), iv xx] [(.int 5), (.ref aa)])) (fun t k => XS.iconst XJ.here hx rfl (hb hby d11_65) k) ?_
      obtain ⟨cl8, Ar8, Sz8, Ln8, Hs8⟩ := id Va
      have hb8 := own_Ai_at Sz8 Ln8 Hs8 (i := 5) (by omega)
      refine own_go (b := TJ.setTop (mkF m 67 #[rv aa, iv (n.toInt32), iv xx] [(.int (as.getD 5 0))])) (fun t k => XJ.iaload hx (j := (5 : Int32)) (v := (.int (as.getD 5 0))) (by rw [eJ]; exact Ar8.1) (State.isArrayOf_alike hZ.alike Ar8.2.1) Ar8.2.2 hb8.1 hb8.2 (g := (mkF m 66 #[rv aa, iv (n.toInt32), iv xx] [(.int 5), (.ref aa)])) rfl rfl (hb hby d11_66) t k) ?_
      refine own_go (b := TJ.setTop (mkF m 68 #[rv aa, iv (n.toInt32), iv xx] [(.int xx), (.int (as.getD 5 0))])) (fun t k => XS.iloadN XJ.here hx rfl (hb hby d11_67) rfl  k) ?_
      by_cases hc9 : (as.getD 5 0) = xx
      · refine own_go (b := TJ.setTop (mkF m 99 #[rv aa, iv (n.toInt32), iv xx] [])) (fun t k => XS.icmpYes XJ.here hx rfl (pc0 := 68) (pc' := 99) rfl (hb hby d11_68) rfl (teq hc9).1 (by decide) (by decide) k) ?_
        refine own_go (b := TJ.setTop (mkF m 100 #[rv aa, iv (n.toInt32), iv xx] [(.int 1)])) (fun t k => XS.iconst XJ.here hx rfl (hb hby d11_99) k) ?_
        refine own_go (b := TJ.setTop (mkF m 104 #[rv aa, iv (n.toInt32), iv xx] [(.int 1)])) (fun t k => XS.goto XJ.here hx rfl (pc0 := 100) (pc' := 104) rfl (hb hby d11_100) (by decide) (by decide) k) ?_
        exact own_retN XJ hx hlk (t := .boolean) hrt (by simp) (hb hby d11_104) (Nat.le_of_ble_eq_true rfl) (Nat.le_of_ble_eq_true rfl) (⟨rfl, N0, eJ⟩)
      · refine own_go (b := TJ.setTop (mkF m 71 #[rv aa, iv (n.toInt32), iv xx] [])) (fun t k => XS.icmpNo XJ.here hx rfl (hb hby d11_68) rfl (feq hc9).1 k) ?_
        exact J6 TJ XJ eJ (own_hk1 hk hc9)
    · refine own_go (b := TJ.setTop (mkF m 71 #[rv aa, iv (n.toInt32), iv xx] [])) (fun t k => XS.icmpYes XJ.here hx rfl (pc0 := 61) (pc' := 71) rfl (hb hby d11_61) rfl (flt hc7).2.2.2 (by decide) (by decide) k) ?_
      exact J6 TJ XJ eJ (own_hk2 hk (fun q => hc7 ((own_lt32 (i := 5) (by omega) (by omega)).mpr q)))
  have J4 : ∀ (TJ : State) (XJ : Stand p l e ({ frames := 0, cells := 0, slots := 0, locals := 0 } : Room) s m #[(.ref aa), (.int ((n.toInt32))), (.int xx)] below meth c TJ [] 0 0) (eJ : TJ.heap = h0) (hk : ∀ j, j < 4 → j < n → as.getD j 0 ≠ xx), own_Endz p.tables e below (own_EndQ s ({ frames := 0, cells := 0, slots := 0, locals := 0 } : Room).cells ({ frames := 0, cells := 0, slots := 0, locals := 0 } : Room).slots (Q11 Z aa ((n.toInt32)) xx as n h0 n0)) (TJ.setTop (mkF m 47 #[rv aa, iv (n.toInt32), iv xx] [])) := by
    intro TJ XJ eJ hk
    refine own_go (b := TJ.setTop (mkF m 48 #[rv aa, iv (n.toInt32), iv xx] [(.int (n.toInt32))])) (fun t k => XS.iloadN XJ.here hx rfl (hb hby d11_47) rfl  k) ?_
    refine own_go (b := TJ.setTop (mkF m 49 #[rv aa, iv (n.toInt32), iv xx] [(.int 4), (.int (n.toInt32))])) (fun t k => XS.iconst XJ.here hx rfl (hb hby d11_48) k) ?_
    by_cases hc10 : (4 : Int32) < (n.toInt32)
    · refine own_go (b := TJ.setTop (mkF m 52 #[rv aa, iv (n.toInt32), iv xx] [])) (fun t k => XS.icmpNo XJ.here hx rfl (hb hby d11_49) rfl (tlt hc10).2.2.2 k) ?_
      have hlt4 := (own_lt32 (i := 4) (by omega) (by omega)).mp hc10
      refine own_go (b := TJ.setTop (mkF m 53 #[rv aa, iv (n.toInt32), iv xx] [(.ref aa)])) (fun t k => XS.aloadN XJ.here hx rfl (hb hby d11_52) rfl rfl k) ?_
      refine own_go (b := TJ.setTop (mkF m 54 #[rv aa, iv (n.toInt32), iv xx] [(.int 4), (.ref aa)])) (fun t k => XS.iconst XJ.here hx rfl (hb hby d11_53) k) ?_
      obtain ⟨cl11, Ar11, Sz11, Ln11, Hs11⟩ := id Va
      have hb11 := own_Ai_at Sz11 Ln11 Hs11 (i := 4) (by omega)
      refine own_go (b := TJ.setTop (mkF m 55 #[rv aa, iv (n.toInt32), iv xx] [(.int (as.getD 4 0))])) (fun t k => XJ.iaload hx (j := (4 : Int32)) (v := (.int (as.getD 4 0))) (by rw [eJ]; exact Ar11.1) (State.isArrayOf_alike hZ.alike Ar11.2.1) Ar11.2.2 hb11.1 hb11.2 (g := (mkF m 54 #[rv aa, iv (n.toInt32), iv xx] [(.int 4), (.ref aa)])) rfl rfl (hb hby d11_54) t k) ?_
      refine own_go (b := TJ.setTop (mkF m 56 #[rv aa, iv (n.toInt32), iv xx] [(.int xx), (.int (as.getD 4 0))])) (fun t k => XS.iloadN XJ.here hx rfl (hb hby d11_55) rfl  k) ?_
      by_cases hc12 : (as.getD 4 0) = xx
      · refine own_go (b := TJ.setTop (mkF m 99 #[rv aa, iv (n.toInt32), iv xx] [])) (fun t k => XS.icmpYes XJ.here hx rfl (pc0 := 56) (pc' := 99) rfl (hb hby d11_56) rfl (teq hc12).1 (by decide) (by decide) k) ?_
        refine own_go (b := TJ.setTop (mkF m 100 #[rv aa, iv (n.toInt32), iv xx] [(.int 1)])) (fun t k => XS.iconst XJ.here hx rfl (hb hby d11_99) k) ?_
        refine own_go (b := TJ.setTop (mkF m 104 #[rv aa, iv (n.toInt32), iv xx] [(.int 1)])) (fun t k => XS.goto XJ.here hx rfl (pc0 := 100) (pc' := 104) rfl (hb hby d11_100) (by decide) (by decide) k) ?_
        exact own_retN XJ hx hlk (t := .boolean) hrt (by simp) (hb hby d11_104) (Nat.le_of_ble_eq_true rfl) (Nat.le_of_ble_eq_true rfl) (⟨rfl, N0, eJ⟩)
      · refine own_go (b := TJ.setTop (mkF m 59 #[rv aa, iv (n.toInt32), iv xx] [])) (fun t k => XS.icmpNo XJ.here hx rfl (hb hby d11_56) rfl (feq hc12).1 k) ?_
        exact J5 TJ XJ eJ (own_hk1 hk hc12)
    · refine own_go (b := TJ.setTop (mkF m 59 #[rv aa, iv (n.toInt32), iv xx] [])) (fun t k => XS.icmpYes XJ.here hx rfl (pc0 := 49) (pc' := 59) rfl (hb hby d11_49) rfl (flt hc10).2.2.2 (by decide) (by decide) k) ?_
      exact J5 TJ XJ eJ (own_hk2 hk (fun q => hc10 ((own_lt32 (i := 4) (by omega) (by omega)).mpr q)))
  have J3 : ∀ (TJ : State) (XJ : Stand p l e ({ frames := 0, cells := 0, slots := 0, locals := 0 } : Room) s m #[(.ref aa), (.int ((n.toInt32))), (.int xx)] below meth c TJ [] 0 0) (eJ : TJ.heap = h0) (hk : ∀ j, j < 3 → j < n → as.getD j 0 ≠ xx), own_Endz p.tables e below (own_EndQ s ({ frames := 0, cells := 0, slots := 0, locals := 0 } : Room).cells ({ frames := 0, cells := 0, slots := 0, locals := 0 } : Room).slots (Q11 Z aa ((n.toInt32)) xx as n h0 n0)) (TJ.setTop (mkF m 35 #[rv aa, iv (n.toInt32), iv xx] [])) := by
    intro TJ XJ eJ hk
    refine own_go (b := TJ.setTop (mkF m 36 #[rv aa, iv (n.toInt32), iv xx] [(.int (n.toInt32))])) (fun t k => XS.iloadN XJ.here hx rfl (hb hby d11_35) rfl  k) ?_
    refine own_go (b := TJ.setTop (mkF m 37 #[rv aa, iv (n.toInt32), iv xx] [(.int 3), (.int (n.toInt32))])) (fun t k => XS.iconst XJ.here hx rfl (hb hby d11_36) k) ?_
    by_cases hc13 : (3 : Int32) < (n.toInt32)
    · refine own_go (b := TJ.setTop (mkF m 40 #[rv aa, iv (n.toInt32), iv xx] [])) (fun t k => XS.icmpNo XJ.here hx rfl (hb hby d11_37) rfl (tlt hc13).2.2.2 k) ?_
      have hlt3 := (own_lt32 (i := 3) (by omega) (by omega)).mp hc13
      refine own_go (b := TJ.setTop (mkF m 41 #[rv aa, iv (n.toInt32), iv xx] [(.ref aa)])) (fun t k => XS.aloadN XJ.here hx rfl (hb hby d11_40) rfl rfl k) ?_
      refine own_go (b := TJ.setTop (mkF m 42 #[rv aa, iv (n.toInt32), iv xx] [(.int 3), (.ref aa)])) (fun t k => XS.iconst XJ.here hx rfl (hb hby d11_41) k) ?_
      obtain ⟨cl14, Ar14, Sz14, Ln14, Hs14⟩ := id Va
      have hb14 := own_Ai_at Sz14 Ln14 Hs14 (i := 3) (by omega)
      refine own_go (b := TJ.setTop (mkF m 43 #[rv aa, iv (n.toInt32), iv xx] [(.int (as.getD 3 0))])) (fun t k => XJ.iaload hx (j := (3 : Int32)) (v := (.int (as.getD 3 0))) (by rw [eJ]; exact Ar14.1) (State.isArrayOf_alike hZ.alike Ar14.2.1) Ar14.2.2 hb14.1 hb14.2 (g := (mkF m 42 #[rv aa, iv (n.toInt32), iv xx] [(.int 3), (.ref aa)])) rfl rfl (hb hby d11_42) t k) ?_
      refine own_go (b := TJ.setTop (mkF m 44 #[rv aa, iv (n.toInt32), iv xx] [(.int xx), (.int (as.getD 3 0))])) (fun t k => XS.iloadN XJ.here hx rfl (hb hby d11_43) rfl  k) ?_
      by_cases hc15 : (as.getD 3 0) = xx
      · refine own_go (b := TJ.setTop (mkF m 99 #[rv aa, iv (n.toInt32), iv xx] [])) (fun t k => XS.icmpYes XJ.here hx rfl (pc0 := 44) (pc' := 99) rfl (hb hby d11_44) rfl (teq hc15).1 (by decide) (by decide) k) ?_
        refine own_go (b := TJ.setTop (mkF m 100 #[rv aa, iv (n.toInt32), iv xx] [(.int 1)])) (fun t k => XS.iconst XJ.here hx rfl (hb hby d11_99) k) ?_
        refine own_go (b := TJ.setTop (mkF m 104 #[rv aa, iv (n.toInt32), iv xx] [(.int 1)])) (fun t k => XS.goto XJ.here hx rfl (pc0 := 100) (pc' := 104) rfl (hb hby d11_100) (by decide) (by decide) k) ?_
        exact own_retN XJ hx hlk (t := .boolean) hrt (by simp) (hb hby d11_104) (Nat.le_of_ble_eq_true rfl) (Nat.le_of_ble_eq_true rfl) (⟨rfl, N0, eJ⟩)
      · refine own_go (b := TJ.setTop (mkF m 47 #[rv aa, iv (n.toInt32), iv xx] [])) (fun t k => XS.icmpNo XJ.here hx rfl (hb hby d11_44) rfl (feq hc15).1 k) ?_
        exact J4 TJ XJ eJ (own_hk1 hk hc15)
    · refine own_go (b := TJ.setTop (mkF m 47 #[rv aa, iv (n.toInt32), iv xx] [])) (fun t k => XS.icmpYes XJ.here hx rfl (pc0 := 37) (pc' := 47) rfl (hb hby d11_37) rfl (flt hc13).2.2.2 (by decide) (by decide) k) ?_
      exact J4 TJ XJ eJ (own_hk2 hk (fun q => hc13 ((own_lt32 (i := 3) (by omega) (by omega)).mpr q)))
  have J2 : ∀ (TJ : State) (XJ : Stand p l e ({ frames := 0, cells := 0, slots := 0, locals := 0 } : Room) s m #[(.ref aa), (.int ((n.toInt32))), (.int xx)] below meth c TJ [] 0 0) (eJ : TJ.heap = h0) (hk : ∀ j, j < 2 → j < n → as.getD j 0 ≠ xx), own_Endz p.tables e below (own_EndQ s ({ frames := 0, cells := 0, slots := 0, locals := 0 } : Room).cells ({ frames := 0, cells := 0, slots := 0, locals := 0 } : Room).slots (Q11 Z aa ((n.toInt32)) xx as n h0 n0)) (TJ.setTop (mkF m 23 #[rv aa, iv (n.toInt32), iv xx] [])) := by
    intro TJ XJ eJ hk
    refine own_go (b := TJ.setTop (mkF m 24 #[rv aa, iv (n.toInt32), iv xx] [(.int (n.toInt32))])) (fun t k => XS.iloadN XJ.here hx rfl (hb hby d11_23) rfl  k) ?_
    refine own_go (b := TJ.setTop (mkF m 25 #[rv aa, iv (n.toInt32), iv xx] [(.int 2), (.int (n.toInt32))])) (fun t k => XS.iconst XJ.here hx rfl (hb hby d11_24) k) ?_
    by_cases hc16 : (2 : Int32) < (n.toInt32)
    · refine own_go (b := TJ.setTop (mkF m 28 #[rv aa, iv (n.toInt32), iv xx] [])) (fun t k => XS.icmpNo XJ.here hx rfl (hb hby d11_25) rfl (tlt hc16).2.2.2 k) ?_
      have hlt2 := (own_lt32 (i := 2) (by omega) (by omega)).mp hc16
      refine own_go (b := TJ.setTop (mkF m 29 #[rv aa, iv (n.toInt32), iv xx] [(.ref aa)])) (fun t k => XS.aloadN XJ.here hx rfl (hb hby d11_28) rfl rfl k) ?_
      refine own_go (b := TJ.setTop (mkF m 30 #[rv aa, iv (n.toInt32), iv xx] [(.int 2), (.ref aa)])) (fun t k => XS.iconst XJ.here hx rfl (hb hby d11_29) k) ?_
      obtain ⟨cl17, Ar17, Sz17, Ln17, Hs17⟩ := id Va
      have hb17 := own_Ai_at Sz17 Ln17 Hs17 (i := 2) (by omega)
      refine own_go (b := TJ.setTop (mkF m 31 #[rv aa, iv (n.toInt32), iv xx] [(.int (as.getD 2 0))])) (fun t k => XJ.iaload hx (j := (2 : Int32)) (v := (.int (as.getD 2 0))) (by rw [eJ]; exact Ar17.1) (State.isArrayOf_alike hZ.alike Ar17.2.1) Ar17.2.2 hb17.1 hb17.2 (g := (mkF m 30 #[rv aa, iv (n.toInt32), iv xx] [(.int 2), (.ref aa)])) rfl rfl (hb hby d11_30) t k) ?_
      refine own_go (b := TJ.setTop (mkF m 32 #[rv aa, iv (n.toInt32), iv xx] [(.int xx), (.int (as.getD 2 0))])) (fun t k => XS.iloadN XJ.here hx rfl (hb hby d11_31) rfl  k) ?_
      by_cases hc18 : (as.getD 2 0) = xx
      · refine own_go (b := TJ.setTop (mkF m 99 #[rv aa, iv (n.toInt32), iv xx] [])) (fun t k => XS.icmpYes XJ.here hx rfl (pc0 := 32) (pc' := 99) rfl (hb hby d11_32) rfl (teq hc18).1 (by decide) (by decide) k) ?_
        refine own_go (b := TJ.setTop (mkF m 100 #[rv aa, iv (n.toInt32), iv xx] [(.int 1)])) (fun t k => XS.iconst XJ.here hx rfl (hb hby d11_99) k) ?_
        refine own_go (b := TJ.setTop (mkF m 104 #[rv aa, iv (n.toInt32), iv xx] [(.int 1)])) (fun t k => XS.goto XJ.here hx rfl (pc0 := 100) (pc' := 104) rfl (hb hby d11_100) (by decide) (by decide) k) ?_
        exact own_retN XJ hx hlk (t := .boolean) hrt (by simp) (hb hby d11_104) (Nat.le_of_ble_eq_true rfl) (Nat.le_of_ble_eq_true rfl) (⟨rfl, N0, eJ⟩)
      · refine own_go (b := TJ.setTop (mkF m 35 #[rv aa, iv (n.toInt32), iv xx] [])) (fun t k => XS.icmpNo XJ.here hx rfl (hb hby d11_32) rfl (feq hc18).1 k) ?_
        exact J3 TJ XJ eJ (own_hk1 hk hc18)
    · refine own_go (b := TJ.setTop (mkF m 35 #[rv aa, iv (n.toInt32), iv xx] [])) (fun t k => XS.icmpYes XJ.here hx rfl (pc0 := 25) (pc' := 35) rfl (hb hby d11_25) rfl (flt hc16).2.2.2 (by decide) (by decide) k) ?_
      exact J3 TJ XJ eJ (own_hk2 hk (fun q => hc16 ((own_lt32 (i := 2) (by omega) (by omega)).mpr q)))
  have J1 : ∀ (TJ : State) (XJ : Stand p l e ({ frames := 0, cells := 0, slots := 0, locals := 0 } : Room) s m #[(.ref aa), (.int ((n.toInt32))), (.int xx)] below meth c TJ [] 0 0) (eJ : TJ.heap = h0) (hk : ∀ j, j < 1 → j < n → as.getD j 0 ≠ xx), own_Endz p.tables e below (own_EndQ s ({ frames := 0, cells := 0, slots := 0, locals := 0 } : Room).cells ({ frames := 0, cells := 0, slots := 0, locals := 0 } : Room).slots (Q11 Z aa ((n.toInt32)) xx as n h0 n0)) (TJ.setTop (mkF m 11 #[rv aa, iv (n.toInt32), iv xx] [])) := by
    intro TJ XJ eJ hk
    refine own_go (b := TJ.setTop (mkF m 12 #[rv aa, iv (n.toInt32), iv xx] [(.int (n.toInt32))])) (fun t k => XS.iloadN XJ.here hx rfl (hb hby d11_11) rfl  k) ?_
    refine own_go (b := TJ.setTop (mkF m 13 #[rv aa, iv (n.toInt32), iv xx] [(.int 1), (.int (n.toInt32))])) (fun t k => XS.iconst XJ.here hx rfl (hb hby d11_12) k) ?_
    by_cases hc19 : (1 : Int32) < (n.toInt32)
    · refine own_go (b := TJ.setTop (mkF m 16 #[rv aa, iv (n.toInt32), iv xx] [])) (fun t k => XS.icmpNo XJ.here hx rfl (hb hby d11_13) rfl (tlt hc19).2.2.2 k) ?_
      have hlt1 := (own_lt32 (i := 1) (by omega) (by omega)).mp hc19
      refine own_go (b := TJ.setTop (mkF m 17 #[rv aa, iv (n.toInt32), iv xx] [(.ref aa)])) (fun t k => XS.aloadN XJ.here hx rfl (hb hby d11_16) rfl rfl k) ?_
      refine own_go (b := TJ.setTop (mkF m 18 #[rv aa, iv (n.toInt32), iv xx] [(.int 1), (.ref aa)])) (fun t k => XS.iconst XJ.here hx rfl (hb hby d11_17) k) ?_
      obtain ⟨cl20, Ar20, Sz20, Ln20, Hs20⟩ := id Va
      have hb20 := own_Ai_at Sz20 Ln20 Hs20 (i := 1) (by omega)
      refine own_go (b := TJ.setTop (mkF m 19 #[rv aa, iv (n.toInt32), iv xx] [(.int (as.getD 1 0))])) (fun t k => XJ.iaload hx (j := (1 : Int32)) (v := (.int (as.getD 1 0))) (by rw [eJ]; exact Ar20.1) (State.isArrayOf_alike hZ.alike Ar20.2.1) Ar20.2.2 hb20.1 hb20.2 (g := (mkF m 18 #[rv aa, iv (n.toInt32), iv xx] [(.int 1), (.ref aa)])) rfl rfl (hb hby d11_18) t k) ?_
      refine own_go (b := TJ.setTop (mkF m 20 #[rv aa, iv (n.toInt32), iv xx] [(.int xx), (.int (as.getD 1 0))])) (fun t k => XS.iloadN XJ.here hx rfl (hb hby d11_19) rfl  k) ?_
      by_cases hc21 : (as.getD 1 0) = xx
      · refine own_go (b := TJ.setTop (mkF m 99 #[rv aa, iv (n.toInt32), iv xx] [])) (fun t k => XS.icmpYes XJ.here hx rfl (pc0 := 20) (pc' := 99) rfl (hb hby d11_20) rfl (teq hc21).1 (by decide) (by decide) k) ?_
        refine own_go (b := TJ.setTop (mkF m 100 #[rv aa, iv (n.toInt32), iv xx] [(.int 1)])) (fun t k => XS.iconst XJ.here hx rfl (hb hby d11_99) k) ?_
        refine own_go (b := TJ.setTop (mkF m 104 #[rv aa, iv (n.toInt32), iv xx] [(.int 1)])) (fun t k => XS.goto XJ.here hx rfl (pc0 := 100) (pc' := 104) rfl (hb hby d11_100) (by decide) (by decide) k) ?_
        exact own_retN XJ hx hlk (t := .boolean) hrt (by simp) (hb hby d11_104) (Nat.le_of_ble_eq_true rfl) (Nat.le_of_ble_eq_true rfl) (⟨rfl, N0, eJ⟩)
      · refine own_go (b := TJ.setTop (mkF m 23 #[rv aa, iv (n.toInt32), iv xx] [])) (fun t k => XS.icmpNo XJ.here hx rfl (hb hby d11_20) rfl (feq hc21).1 k) ?_
        exact J2 TJ XJ eJ (own_hk1 hk hc21)
    · refine own_go (b := TJ.setTop (mkF m 23 #[rv aa, iv (n.toInt32), iv xx] [])) (fun t k => XS.icmpYes XJ.here hx rfl (pc0 := 13) (pc' := 23) rfl (hb hby d11_13) rfl (flt hc19).2.2.2 (by decide) (by decide) k) ?_
      exact J2 TJ XJ eJ (own_hk2 hk (fun q => hc19 ((own_lt32 (i := 1) (by omega) (by omega)).mpr q)))
  have hk : ∀ j, j < 0 → j < n → as.getD j 0 ≠ xx := fun j hj => absurd hj (Nat.not_lt_zero j)
  refine own_go (b := s₁.setTop (mkF m 1 #[rv aa, iv (n.toInt32), iv xx] [(.int (n.toInt32))])) (fun t k => XS.iloadN X0.here hx rfl (hb hby d11_0) rfl  k) ?_
  by_cases hc22 : (0 : Int32) < (n.toInt32)
  · refine own_go (b := s₁.setTop (mkF m 4 #[rv aa, iv (n.toInt32), iv xx] [])) (fun t k => XS.ifNo X0.here hx rfl (hb hby d11_1) rfl ((if0 _ _).trans (tlt hc22).2.2.2) k) ?_
    have hlt0 := (own_lt32 (i := 0) (by omega) (by omega)).mp hc22
    refine own_go (b := s₁.setTop (mkF m 5 #[rv aa, iv (n.toInt32), iv xx] [(.ref aa)])) (fun t k => XS.aloadN X0.here hx rfl (hb hby d11_4) rfl rfl k) ?_
    refine own_go (b := s₁.setTop (mkF m 6 #[rv aa, iv (n.toInt32), iv xx] [(.int 0), (.ref aa)])) (fun t k => XS.iconst X0.here hx rfl (hb hby d11_5) k) ?_
    obtain ⟨cl23, Ar23, Sz23, Ln23, Hs23⟩ := id Va
    have hb23 := own_Ai_at Sz23 Ln23 Hs23 (i := 0) (by omega)
    refine own_go (b := s₁.setTop (mkF m 7 #[rv aa, iv (n.toInt32), iv xx] [(.int (as.getD 0 0))])) (fun t k => X0.iaload hx (j := (0 : Int32)) (v := (.int (as.getD 0 0))) (by rw [e0]; exact Ar23.1) (State.isArrayOf_alike hZ.alike Ar23.2.1) Ar23.2.2 hb23.1 hb23.2 (g := (mkF m 6 #[rv aa, iv (n.toInt32), iv xx] [(.int 0), (.ref aa)])) rfl rfl (hb hby d11_6) t k) ?_
    refine own_go (b := s₁.setTop (mkF m 8 #[rv aa, iv (n.toInt32), iv xx] [(.int xx), (.int (as.getD 0 0))])) (fun t k => XS.iloadN X0.here hx rfl (hb hby d11_7) rfl  k) ?_
    by_cases hc24 : (as.getD 0 0) = xx
    · refine own_go (b := s₁.setTop (mkF m 99 #[rv aa, iv (n.toInt32), iv xx] [])) (fun t k => XS.icmpYes X0.here hx rfl (pc0 := 8) (pc' := 99) rfl (hb hby d11_8) rfl (teq hc24).1 (by decide) (by decide) k) ?_
      refine own_go (b := s₁.setTop (mkF m 100 #[rv aa, iv (n.toInt32), iv xx] [(.int 1)])) (fun t k => XS.iconst X0.here hx rfl (hb hby d11_99) k) ?_
      refine own_go (b := s₁.setTop (mkF m 104 #[rv aa, iv (n.toInt32), iv xx] [(.int 1)])) (fun t k => XS.goto X0.here hx rfl (pc0 := 100) (pc' := 104) rfl (hb hby d11_100) (by decide) (by decide) k) ?_
      exact own_retN X0 hx hlk (t := .boolean) hrt (by simp) (hb hby d11_104) (Nat.le_of_ble_eq_true rfl) (Nat.le_of_ble_eq_true rfl) (⟨rfl, N0, e0⟩)
    · refine own_go (b := s₁.setTop (mkF m 11 #[rv aa, iv (n.toInt32), iv xx] [])) (fun t k => XS.icmpNo X0.here hx rfl (hb hby d11_8) rfl (feq hc24).1 k) ?_
      exact J1 s₁ X0 e0 (own_hk1 hk hc24)
  · refine own_go (b := s₁.setTop (mkF m 11 #[rv aa, iv (n.toInt32), iv xx] [])) (fun t k => XS.ifYes X0.here hx rfl (pc0 := 1) (pc' := 11) rfl (hb hby d11_1) rfl ((if0 _ _).trans (flt hc22).2.2.2) (by decide) (by decide) k) ?_
    exact J1 s₁ X0 e0 (own_hk2 hk (fun q => hc22 ((own_lt32 (i := 0) (by omega) (by omega)).mpr q)))
theorem d8_0 : decode method_4_code 0 = .ok (.iload_n 1, 1) := by decide +kernel
theorem d8_1 : decode method_4_code 1 = .ok (.ifCond .le 12, 3) := by decide +kernel
theorem d8_4 : decode method_4_code 4 = .ok (.aload_n 0, 1) := by decide +kernel
theorem d8_5 : decode method_4_code 5 = .ok (.iconst 0, 1) := by decide +kernel
theorem d8_6 : decode method_4_code 6 = .ok (.iaload, 1) := by decide +kernel
theorem d8_7 : decode method_4_code 7 = .ok (.aload_n 0, 1) := by decide +kernel
theorem d8_8 : decode method_4_code 8 = .ok (.iload_n 1, 1) := by decide +kernel
theorem d8_9 : decode method_4_code 9 = .ok (.iaload, 1) := by decide +kernel
theorem d8_10 : decode method_4_code 10 = .ok (.if_icmp .eq 89, 3) := by decide +kernel
theorem d8_13 : decode method_4_code 13 = .ok (.iload_n 1, 1) := by decide +kernel
theorem d8_14 : decode method_4_code 14 = .ok (.iconst 1, 1) := by decide +kernel
theorem d8_15 : decode method_4_code 15 = .ok (.if_icmp .le 12, 3) := by decide +kernel
theorem d8_18 : decode method_4_code 18 = .ok (.aload_n 0, 1) := by decide +kernel
theorem d8_19 : decode method_4_code 19 = .ok (.iconst 1, 1) := by decide +kernel
theorem d8_20 : decode method_4_code 20 = .ok (.iaload, 1) := by decide +kernel
theorem d8_21 : decode method_4_code 21 = .ok (.aload_n 0, 1) := by decide +kernel
theorem d8_22 : decode method_4_code 22 = .ok (.iload_n 1, 1) := by decide +kernel
theorem d8_23 : decode method_4_code 23 = .ok (.iaload, 1) := by decide +kernel
theorem d8_24 : decode method_4_code 24 = .ok (.if_icmp .eq 75, 3) := by decide +kernel
theorem d8_27 : decode method_4_code 27 = .ok (.iload_n 1, 1) := by decide +kernel
theorem d8_28 : decode method_4_code 28 = .ok (.iconst 2, 1) := by decide +kernel
theorem d8_29 : decode method_4_code 29 = .ok (.if_icmp .le 12, 3) := by decide +kernel
theorem d8_32 : decode method_4_code 32 = .ok (.aload_n 0, 1) := by decide +kernel
theorem d8_33 : decode method_4_code 33 = .ok (.iconst 2, 1) := by decide +kernel
theorem d8_34 : decode method_4_code 34 = .ok (.iaload, 1) := by decide +kernel
theorem d8_35 : decode method_4_code 35 = .ok (.aload_n 0, 1) := by decide +kernel
theorem d8_36 : decode method_4_code 36 = .ok (.iload_n 1, 1) := by decide +kernel
theorem d8_37 : decode method_4_code 37 = .ok (.iaload, 1) := by decide +kernel
theorem d8_38 : decode method_4_code 38 = .ok (.if_icmp .eq 61, 3) := by decide +kernel
theorem d8_41 : decode method_4_code 41 = .ok (.iload_n 1, 1) := by decide +kernel
theorem d8_42 : decode method_4_code 42 = .ok (.iconst 3, 1) := by decide +kernel
theorem d8_43 : decode method_4_code 43 = .ok (.if_icmp .le 12, 3) := by decide +kernel
theorem d8_46 : decode method_4_code 46 = .ok (.aload_n 0, 1) := by decide +kernel
theorem d8_47 : decode method_4_code 47 = .ok (.iconst 3, 1) := by decide +kernel
theorem d8_48 : decode method_4_code 48 = .ok (.iaload, 1) := by decide +kernel
theorem d8_49 : decode method_4_code 49 = .ok (.aload_n 0, 1) := by decide +kernel
theorem d8_50 : decode method_4_code 50 = .ok (.iload_n 1, 1) := by decide +kernel
theorem d8_51 : decode method_4_code 51 = .ok (.iaload, 1) := by decide +kernel
theorem d8_52 : decode method_4_code 52 = .ok (.if_icmp .eq 47, 3) := by decide +kernel
theorem d8_55 : decode method_4_code 55 = .ok (.iload_n 1, 1) := by decide +kernel
theorem d8_56 : decode method_4_code 56 = .ok (.iconst 4, 1) := by decide +kernel
theorem d8_57 : decode method_4_code 57 = .ok (.if_icmp .le 12, 3) := by decide +kernel
theorem d8_60 : decode method_4_code 60 = .ok (.aload_n 0, 1) := by decide +kernel
theorem d8_61 : decode method_4_code 61 = .ok (.iconst 4, 1) := by decide +kernel
theorem d8_62 : decode method_4_code 62 = .ok (.iaload, 1) := by decide +kernel
theorem d8_63 : decode method_4_code 63 = .ok (.aload_n 0, 1) := by decide +kernel
theorem d8_64 : decode method_4_code 64 = .ok (.iload_n 1, 1) := by decide +kernel
theorem d8_65 : decode method_4_code 65 = .ok (.iaload, 1) := by decide +kernel
theorem d8_66 : decode method_4_code 66 = .ok (.if_icmp .eq 33, 3) := by decide +kernel
theorem d8_69 : decode method_4_code 69 = .ok (.iload_n 1, 1) := by decide +kernel
theorem d8_70 : decode method_4_code 70 = .ok (.iconst 5, 1) := by decide +kernel
theorem d8_71 : decode method_4_code 71 = .ok (.if_icmp .le 12, 3) := by decide +kernel
theorem d8_74 : decode method_4_code 74 = .ok (.aload_n 0, 1) := by decide +kernel
theorem d8_75 : decode method_4_code 75 = .ok (.iconst 5, 1) := by decide +kernel
theorem d8_76 : decode method_4_code 76 = .ok (.iaload, 1) := by decide +kernel
theorem d8_77 : decode method_4_code 77 = .ok (.aload_n 0, 1) := by decide +kernel
theorem d8_78 : decode method_4_code 78 = .ok (.iload_n 1, 1) := by decide +kernel
theorem d8_79 : decode method_4_code 79 = .ok (.iaload, 1) := by decide +kernel
theorem d8_80 : decode method_4_code 80 = .ok (.if_icmp .eq 19, 3) := by decide +kernel
theorem d8_83 : decode method_4_code 83 = .ok (.iload_n 1, 1) := by decide +kernel
theorem d8_84 : decode method_4_code 84 = .ok (.bipush 6, 2) := by decide +kernel
theorem d8_86 : decode method_4_code 86 = .ok (.if_icmp .le 17, 3) := by decide +kernel
theorem d8_89 : decode method_4_code 89 = .ok (.aload_n 0, 1) := by decide +kernel
theorem d8_90 : decode method_4_code 90 = .ok (.bipush 6, 2) := by decide +kernel
theorem d8_92 : decode method_4_code 92 = .ok (.iaload, 1) := by decide +kernel
theorem d8_93 : decode method_4_code 93 = .ok (.aload_n 0, 1) := by decide +kernel
theorem d8_94 : decode method_4_code 94 = .ok (.iload_n 1, 1) := by decide +kernel
theorem d8_95 : decode method_4_code 95 = .ok (.iaload, 1) := by decide +kernel
theorem d8_96 : decode method_4_code 96 = .ok (.if_icmp .ne 7, 3) := by decide +kernel
theorem d8_99 : decode method_4_code 99 = .ok (.iconst 1, 1) := by decide +kernel
theorem d8_100 : decode method_4_code 100 = .ok (.goto 4, 3) := by decide +kernel
theorem d8_103 : decode method_4_code 103 = .ok (.iconst 0, 1) := by decide +kernel
theorem d8_104 : decode method_4_code 104 = .ok (.ireturn, 1) := by decide +kernel
theorem ef_8 (m : MethodId) (mm : Addr) (ix : Int32) : entryFrame m #[(.ref mm), (.int ix)] 2 = mkF m 0 #[rv mm, iv ix] [] := by first | (simp [entryFrame, mkF, argsToLocals, Value.category]; done) | rfl
def Q8 (Z : State) (mm : Addr) (ix : Int32) (ms : List Int32) (i : Nat) (h0 : Heap) (n0 : Nat) (v : Option Value) (h : Heap) (L : List Loc) : Prop := v = some (.int (if ms.getD i 0 ∈ ms.take i then 1 else 0)) ∧ Fr n0 L ∧ h = h0
set_option maxRecDepth 65536 in
set_option maxHeartbeats 40000000 in
theorem rm8 (l : Launch) (Z : State) (a0 : Array Value) (hw : ∀ d ∈ tables_1, d.before a0 Z = true) (ws : List Jvm.Cond) (mm : Addr) (ix : Int32) (ms : List Int32) (i : Nat) (h0 : Heap) (n0 : Nat) (Z0 : n0 ≤ h0.size) (Vm : own_Ai Z h0 mm ms) (hix : ix = i.toInt32) (hi : i ≤ 7) (hmL : ms.length = 8) :
    MetFree l (⟨"com/example/axiomloom/axiomloom/reasoner/IntSetToArrayPinLaw", "seenBefore", "([II)Z"⟩ : MethodName) (head1 (Jvm.Cond.code (⟨"com/example/axiomloom/axiomloom/reasoner/IntSetToArrayPinLaw", "seenBefore", "([II)Z"⟩ : MethodName) method_4_code 2 (some .boolean) :: ws) ({ frames := 0, cells := 0, slots := 0, locals := 0 } : Room)) (fun a U => a = #[(.ref mm), (.int ix)] ∧ Z.Warmed39 U.vm ∧ U.heap = h0) (fun _ _ _ _ _ => True) (fun _ U o U' => ∃ v L, o = .returned v ∧ Q8 Z mm ix ms i h0 n0 v U'.heap L ∧ FrameEnd U o U' L ({ frames := 0, cells := 0, slots := 0, locals := 0 } : Room).cells ({ frames := 0, cells := 0, slots := 0, locals := 0 } : Room).slots) := by
  refine MetFree.of_bodySF (plainFor_of_name pn_1) hisR ?_
  intro p e s m args below meth c s₁ Bd hml0 hP hK
  obtain ⟨rfl, hZ, hh⟩ := hP
  have hx := Bd.exec
  have hby := Bd.bytes
  have hml : c.maxLocals = 2 := hml0
  have hown : s.vm.findClass "com/example/axiomloom/axiomloom/reasoner/IntSetToArrayPinLaw" = some m.cls := findClass_of_methodNamed Bd.named
  have hnm := (name_of_methodNamed Bd.named Bd.method).1
  have hlk : meth.locks = false := Bd.notSynchronized
  have hrt := Bd.returns
  have X0 : Stand p l e ({ frames := 0, cells := 0, slots := 0, locals := 0 } : Room) s m #[(.ref mm), (.int ix)] below meth c s₁ [] 0 0 := Stand.of_body Bd
  have e0 : s₁.heap = h0 := by rw [← hh, Bd.state]; rfl
  have N0 := Fr.nil n0
  show own_Endz p.tables e below (own_EndQ s ({ frames := 0, cells := 0, slots := 0, locals := 0 } : Room).cells ({ frames := 0, cells := 0, slots := 0, locals := 0 } : Room).slots (Q8 Z mm ix ms i h0 n0)) (s₁.setTop (entryFrame m #[(.ref mm), (.int ix)] 2))
  refine own_cast (ef_8 m mm ix) ?_
  subst hix
  have J6 : ∀ (TJ : State) (XJ : Stand p l e ({ frames := 0, cells := 0, slots := 0, locals := 0 } : Room) s m #[(.ref mm), (.int ((i.toInt32)))] below meth c TJ [] 0 0) (eJ : TJ.heap = h0) (hk : ∀ j, j < 6 → j < i → ms.getD j 0 ≠ (ms.getD i 0)), own_Endz p.tables e below (own_EndQ s ({ frames := 0, cells := 0, slots := 0, locals := 0 } : Room).cells ({ frames := 0, cells := 0, slots := 0, locals := 0 } : Room).slots (Q8 Z mm ((i.toInt32)) ms i h0 n0)) (TJ.setTop (mkF m 83 #[rv mm, iv (i.toInt32)] [])) := by
    intro TJ XJ eJ hk
    refine own_go (b := TJ.setTop (mkF m 84 #[rv mm, iv (i.toInt32)] [(.int (i.toInt32))])) (fun t k => XS.iloadN XJ.here hx rfl (hb hby d8_83) rfl  k) ?_
    refine own_go (b := TJ.setTop (mkF m 86 #[rv mm, iv (i.toInt32)] [(.int 6), (.int (i.toInt32))])) (fun t k => XS.bipush XJ.here hx rfl (hb hby d8_84) k) ?_
    by_cases hc1 : (6 : Int32) < (i.toInt32)
    · refine own_go (b := TJ.setTop (mkF m 89 #[rv mm, iv (i.toInt32)] [])) (fun t k => XS.icmpNo XJ.here hx rfl (hb hby d8_86) rfl (tlt hc1).2.2.2 k) ?_
      have hlt6 := (own_lt32 (i := 6) (by omega) (by omega)).mp hc1
      refine own_go (b := TJ.setTop (mkF m 90 #[rv mm, iv (i.toInt32)] [(.ref mm)])) (fun t k => XS.aloadN XJ.here hx rfl (hb hby d8_89) rfl rfl k) ?_
      refine own_go (b := TJ.setTop (mkF m 92 #[rv mm, iv (i.toInt32)] [(.int 6), (.ref mm)])) (fun t k => XS.bipush XJ.here hx rfl (hb hby d8_90) k) ?_
      obtain ⟨cl2, Ar2, Sz2, Ln2, Hs2⟩ := id Vm
      have hb2 := own_Ai_at Sz2 Ln2 Hs2 (i := 6) (by omega)
      refine own_go (b := TJ.setTop (mkF m 93 #[rv mm, iv (i.toInt32)] [(.int (ms.getD 6 0))])) (fun t k => XJ.iaload hx (j := (6 : Int32)) (v := (.int (ms.getD 6 0))) (by rw [eJ]; exact Ar2.1) (State.isArrayOf_alike hZ.alike Ar2.2.1) Ar2.2.2 hb2.1 hb2.2 (g := (mkF m 92 #[rv mm, iv (i.toInt32)] [(.int 6), (.ref mm)])) rfl rfl (hb hby d8_92) t k) ?_
      refine own_go (b := TJ.setTop (mkF m 94 #[rv mm, iv (i.toInt32)] [(.ref mm), (.int (ms.getD 6 0))])) (fun t k => XS.aloadN XJ.here hx rfl (hb hby d8_93) rfl rfl k) ?_
      refine own_go (b := TJ.setTop (mkF m 95 #[rv mm, iv (i.toInt32)] [(.int (i.toInt32)), (.ref mm), (.int (ms.getD 6 0))])) (fun t k => XS.iloadN XJ.here hx rfl (hb hby d8_94) rfl  k) ?_
      obtain ⟨cl3, Ar3, Sz3, Ln3, Hs3⟩ := id Vm
      have hb3 := own_Ai_at Sz3 Ln3 Hs3 (i := i) (by omega)
      refine own_go (b := TJ.setTop (mkF m 96 #[rv mm, iv (i.toInt32)] [(.int (ms.getD i 0)), (.int (ms.getD 6 0))])) (fun t k => XJ.iaload hx (j := (i.toInt32)) (v := (.int (ms.getD i 0))) (by rw [eJ]; exact Ar3.1) (State.isArrayOf_alike hZ.alike Ar3.2.1) Ar3.2.2 hb3.1 hb3.2 (g := (mkF m 95 #[rv mm, iv (i.toInt32)] [(.int (i.toInt32)), (.ref mm), (.int (ms.getD 6 0))])) rfl rfl (hb hby d8_95) t k) ?_
      by_cases hc4 : (ms.getD 6 0) = (ms.getD i 0)
      · refine own_go (b := TJ.setTop (mkF m 99 #[rv mm, iv (i.toInt32)] [])) (fun t k => XS.icmpNo XJ.here hx rfl (hb hby d8_96) rfl (teq hc4).2 k) ?_
        refine own_go (b := TJ.setTop (mkF m 100 #[rv mm, iv (i.toInt32)] [(.int 1)])) (fun t k => XS.iconst XJ.here hx rfl (hb hby d8_99) k) ?_
        refine own_go (b := TJ.setTop (mkF m 104 #[rv mm, iv (i.toInt32)] [(.int 1)])) (fun t k => XS.goto XJ.here hx rfl (pc0 := 100) (pc' := 104) rfl (hb hby d8_100) (by decide) (by decide) k) ?_
        exact own_retN XJ hx hlk (t := .boolean) hrt (by simp) (hb hby d8_104) (Nat.le_of_ble_eq_true rfl) (Nat.le_of_ble_eq_true rfl) (⟨congrArg (fun q => some (Value.int q)) (if_pos (by rw [← hc4]; exact own_mem_take hlt6 (by omega))).symm, N0, eJ⟩)
      · refine own_go (b := TJ.setTop (mkF m 103 #[rv mm, iv (i.toInt32)] [])) (fun t k => XS.icmpYes XJ.here hx rfl (pc0 := 96) (pc' := 103) rfl (hb hby d8_96) rfl (feq hc4).2 (by decide) (by decide) k) ?_
        refine own_go (b := TJ.setTop (mkF m 104 #[rv mm, iv (i.toInt32)] [(.int 0)])) (fun t k => XS.iconst XJ.here hx rfl (hb hby d8_103) k) ?_
        exact own_retN XJ hx hlk (t := .boolean) hrt (by simp) (hb hby d8_104) (Nat.le_of_ble_eq_true rfl) (Nat.le_of_ble_eq_true rfl) (⟨congrArg (fun q => some (Value.int q)) (if_neg (fun q => by obtain ⟨j, hj1, hj2, hj3⟩ := own_take_mem q; exact (own_hk1 hk hc4) j (by omega) hj1 hj3)).symm, N0, eJ⟩)
    · refine own_go (b := TJ.setTop (mkF m 103 #[rv mm, iv (i.toInt32)] [])) (fun t k => XS.icmpYes XJ.here hx rfl (pc0 := 86) (pc' := 103) rfl (hb hby d8_86) rfl (flt hc1).2.2.2 (by decide) (by decide) k) ?_
      refine own_go (b := TJ.setTop (mkF m 104 #[rv mm, iv (i.toInt32)] [(.int 0)])) (fun t k => XS.iconst XJ.here hx rfl (hb hby d8_103) k) ?_
      exact own_retN XJ hx hlk (t := .boolean) hrt (by simp) (hb hby d8_104) (Nat.le_of_ble_eq_true rfl) (Nat.le_of_ble_eq_true rfl) (⟨congrArg (fun q => some (Value.int q)) (if_neg (fun q => by obtain ⟨j, hj1, hj2, hj3⟩ := own_take_mem q; exact (own_hk2 hk (fun q => hc1 ((own_lt32 (i := 6) (by omega) (by omega)).mpr q))) j (by omega) hj1 hj3)).symm, N0, eJ⟩)
  have J5 : ∀ (TJ : State) (XJ : Stand p l e ({ frames := 0, cells := 0, slots := 0, locals := 0 } : Room) s m #[(.ref mm), (.int ((i.toInt32)))] below meth c TJ [] 0 0) (eJ : TJ.heap = h0) (hk : ∀ j, j < 5 → j < i → ms.getD j 0 ≠ (ms.getD i 0)), own_Endz p.tables e below (own_EndQ s ({ frames := 0, cells := 0, slots := 0, locals := 0 } : Room).cells ({ frames := 0, cells := 0, slots := 0, locals := 0 } : Room).slots (Q8 Z mm ((i.toInt32)) ms i h0 n0)) (TJ.setTop (mkF m 69 #[rv mm, iv (i.toInt32)] [])) := by
    intro TJ XJ eJ hk
    refine own_go (b := TJ.setTop (mkF m 70 #[rv mm, iv (i.toInt32)] [(.int (i.toInt32))])) (fun t k => XS.iloadN XJ.here hx rfl (hb hby d8_69) rfl  k) ?_
    refine own_go (b := TJ.setTop (mkF m 71 #[rv mm, iv (i.toInt32)] [(.int 5), (.int (i.toInt32))])) (fun t k => XS.iconst XJ.here hx rfl (hb hby d8_70) k) ?_
    by_cases hc5 : (5 : Int32) < (i.toInt32)
    · refine own_go (b := TJ.setTop (mkF m 74 #[rv mm, iv (i.toInt32)] [])) (fun t k => XS.icmpNo XJ.here hx rfl (hb hby d8_71) rfl (tlt hc5).2.2.2 k) ?_
      have hlt5 := (own_lt32 (i := 5) (by omega) (by omega)).mp hc5
      refine own_go (b := TJ.setTop (mkF m 75 #[rv mm, iv (i.toInt32)] [(.ref mm)])) (fun t k => XS.aloadN XJ.here hx rfl (hb hby d8_74) rfl rfl k) ?_
      refine own_go (b := TJ.setTop (mkF m 76 #[rv mm, iv (i.toInt32)] [(.int 5), (.ref mm)])) (fun t k => XS.iconst XJ.here hx rfl (hb hby d8_75) k) ?_
      obtain ⟨cl6, Ar6, Sz6, Ln6, Hs6⟩ := id Vm
      have hb6 := own_Ai_at Sz6 Ln6 Hs6 (i := 5) (by omega)
      refine own_go (b := TJ.setTop (mkF m 77 #[rv mm, iv (i.toInt32)] [(.int (ms.getD 5 0))])) (fun t k => XJ.iaload hx (j := (5 : Int32)) (v := (.int (ms.getD 5 0))) (by rw [eJ]; exact Ar6.1) (State.isArrayOf_alike hZ.alike Ar6.2.1) Ar6.2.2 hb6.1 hb6.2 (g := (mkF m 76 #[rv mm, iv (i.toInt32)] [(.int 5), (.ref mm)])) rfl rfl (hb hby d8_76) t k) ?_
      refine own_go (b := TJ.setTop (mkF m 78 #[rv mm, iv (i.toInt32)] [(.ref mm), (.int (ms.getD 5 0))])) (fun t k => XS.aloadN XJ.here hx rfl (hb hby d8_77) rfl rfl k) ?_
      refine own_go (b := TJ.setTop (mkF m 79 #[rv mm, iv (i.toInt32)] [(.int (i.toInt32)), (.ref mm), (.int (ms.getD 5 0))])) (fun t k => XS.iloadN XJ.here hx rfl (hb hby d8_78) rfl  k) ?_
      obtain ⟨cl7, Ar7, Sz7, Ln7, Hs7⟩ := id Vm
      have hb7 := own_Ai_at Sz7 Ln7 Hs7 (i := i) (by omega)
      refine own_go (b := TJ.setTop (mkF m 80 #[rv mm, iv (i.toInt32)] [(.int (ms.getD i 0)), (.int (ms.getD 5 0))])) (fun t k => XJ.iaload hx (j := (i.toInt32)) (v := (.int (ms.getD i 0))) (by rw [eJ]; exact Ar7.1) (State.isArrayOf_alike hZ.alike Ar7.2.1) Ar7.2.2 hb7.1 hb7.2 (g := (mkF m 79 #[rv mm, iv (i.toInt32)] [(.int (i.toInt32)), (.ref mm), (.int (ms.getD 5 0))])) rfl rfl (hb hby d8_79) t k) ?_
      by_cases hc8 : (ms.getD 5 0) = (ms.getD i 0)
      · refine own_go (b := TJ.setTop (mkF m 99 #[rv mm, iv (i.toInt32)] [])) (fun t k => XS.icmpYes XJ.here hx rfl (pc0 := 80) (pc' := 99) rfl (hb hby d8_80) rfl (teq hc8).1 (by decide) (by decide) k) ?_
        refine own_go (b := TJ.setTop (mkF m 100 #[rv mm, iv (i.toInt32)] [(.int 1)])) (fun t k => XS.iconst XJ.here hx rfl (hb hby d8_99) k) ?_
        refine own_go (b := TJ.setTop (mkF m 104 #[rv mm, iv (i.toInt32)] [(.int 1)])) (fun t k => XS.goto XJ.here hx rfl (pc0 := 100) (pc' := 104) rfl (hb hby d8_100) (by decide) (by decide) k) ?_
        exact own_retN XJ hx hlk (t := .boolean) hrt (by simp) (hb hby d8_104) (Nat.le_of_ble_eq_true rfl) (Nat.le_of_ble_eq_true rfl) (⟨congrArg (fun q => some (Value.int q)) (if_pos (by rw [← hc8]; exact own_mem_take hlt5 (by omega))).symm, N0, eJ⟩)
      · refine own_go (b := TJ.setTop (mkF m 83 #[rv mm, iv (i.toInt32)] [])) (fun t k => XS.icmpNo XJ.here hx rfl (hb hby d8_80) rfl (feq hc8).1 k) ?_
        exact J6 TJ XJ eJ (own_hk1 hk hc8)
    · refine own_go (b := TJ.setTop (mkF m 83 #[rv mm, iv (i.toInt32)] [])) (fun t k => XS.icmpYes XJ.here hx rfl (pc0 := 71) (pc' := 83) rfl (hb hby d8_71) rfl (flt hc5).2.2.2 (by decide) (by decide) k) ?_
      exact J6 TJ XJ eJ (own_hk2 hk (fun q => hc5 ((own_lt32 (i := 5) (by omega) (by omega)).mpr q)))
  have J4 : ∀ (TJ : State) (XJ : Stand p l e ({ frames := 0, cells := 0, slots := 0, locals := 0 } : Room) s m #[(.ref mm), (.int ((i.toInt32)))] below meth c TJ [] 0 0) (eJ : TJ.heap = h0) (hk : ∀ j, j < 4 → j < i → ms.getD j 0 ≠ (ms.getD i 0)), own_Endz p.tables e below (own_EndQ s ({ frames := 0, cells := 0, slots := 0, locals := 0 } : Room).cells ({ frames := 0, cells := 0, slots := 0, locals := 0 } : Room).slots (Q8 Z mm ((i.toInt32)) ms i h0 n0)) (TJ.setTop (mkF m 55 #[rv mm, iv (i.toInt32)] [])) := by
    intro TJ XJ eJ hk
    refine own_go (b := TJ.setTop (mkF m 56 #[rv mm, iv (i.toInt32)] [(.int (i.toInt32))])) (fun t k => XS.iloadN XJ.here hx rfl (hb hby d8_55) rfl  k) ?_
    refine own_go (b := TJ.setTop (mkF m 57 #[rv mm, iv (i.toInt32)] [(.int 4), (.int (i.toInt32))])) (fun t k => XS.iconst XJ.here hx rfl (hb hby d8_56) k) ?_
    by_cases hc9 : (4 : Int32) < (i.toInt32)
    · refine own_go (b := TJ.setTop (mkF m 60 #[rv mm, iv (i.toInt32)] [])) (fun t k => XS.icmpNo XJ.here hx rfl (hb hby d8_57) rfl (tlt hc9).2.2.2 k) ?_
      have hlt4 := (own_lt32 (i := 4) (by omega) (by omega)).mp hc9
      refine own_go (b := TJ.setTop (mkF m 61 #[rv mm, iv (i.toInt32)] [(.ref mm)])) (fun t k => XS.aloadN XJ.here hx rfl (hb hby d8_60) rfl rfl k) ?_
      refine own_go (b := TJ.setTop (mkF m 62 #[rv mm, iv (i.toInt32)] [(.int 4), (.ref mm)])) (fun t k => XS.iconst XJ.here hx rfl (hb hby d8_61) k) ?_
      obtain ⟨cl10, Ar10, Sz10, Ln10, Hs10⟩ := id Vm
      have hb10 := own_Ai_at Sz10 Ln10 Hs10 (i := 4) (by omega)
      refine own_go (b := TJ.setTop (mkF m 63 #[rv mm, iv (i.toInt32)] [(.int (ms.getD 4 0))])) (fun t k => XJ.iaload hx (j := (4 : Int32)) (v := (.int (ms.getD 4 0))) (by rw [eJ]; exact Ar10.1) (State.isArrayOf_alike hZ.alike Ar10.2.1) Ar10.2.2 hb10.1 hb10.2 (g := (mkF m 62 #[rv mm, iv (i.toInt32)] [(.int 4), (.ref mm)])) rfl rfl (hb hby d8_62) t k) ?_
      refine own_go (b := TJ.setTop (mkF m 64 #[rv mm, iv (i.toInt32)] [(.ref mm), (.int (ms.getD 4 0))])) (fun t k => XS.aloadN XJ.here hx rfl (hb hby d8_63) rfl rfl k) ?_
      refine own_go (b := TJ.setTop (mkF m 65 #[rv mm, iv (i.toInt32)] [(.int (i.toInt32)), (.ref mm), (.int (ms.getD 4 0))])) (fun t k => XS.iloadN XJ.here hx rfl (hb hby d8_64) rfl  k) ?_
      obtain ⟨cl11, Ar11, Sz11, Ln11, Hs11⟩ := id Vm
      have hb11 := own_Ai_at Sz11 Ln11 Hs11 (i := i) (by omega)
      refine own_go (b := TJ.setTop (mkF m 66 #[rv mm, iv (i.toInt32)] [(.int (ms.getD i 0)), (.int (ms.getD 4 0))])) (fun t k => XJ.iaload hx (j := (i.toInt32)) (v := (.int (ms.getD i 0))) (by rw [eJ]; exact Ar11.1) (State.isArrayOf_alike hZ.alike Ar11.2.1) Ar11.2.2 hb11.1 hb11.2 (g := (mkF m 65 #[rv mm, iv (i.toInt32)] [(.int (i.toInt32)), (.ref mm), (.int (ms.getD 4 0))])) rfl rfl (hb hby d8_65) t k) ?_
      by_cases hc12 : (ms.getD 4 0) = (ms.getD i 0)
      · refine own_go (b := TJ.setTop (mkF m 99 #[rv mm, iv (i.toInt32)] [])) (fun t k => XS.icmpYes XJ.here hx rfl (pc0 := 66) (pc' := 99) rfl (hb hby d8_66) rfl (teq hc12).1 (by decide) (by decide) k) ?_
        refine own_go (b := TJ.setTop (mkF m 100 #[rv mm, iv (i.toInt32)] [(.int 1)])) (fun t k => XS.iconst XJ.here hx rfl (hb hby d8_99) k) ?_
        refine own_go (b := TJ.setTop (mkF m 104 #[rv mm, iv (i.toInt32)] [(.int 1)])) (fun t k => XS.goto XJ.here hx rfl (pc0 := 100) (pc' := 104) rfl (hb hby d8_100) (by decide) (by decide) k) ?_
        exact own_retN XJ hx hlk (t := .boolean) hrt (by simp) (hb hby d8_104) (Nat.le_of_ble_eq_true rfl) (Nat.le_of_ble_eq_true rfl) (⟨congrArg (fun q => some (Value.int q)) (if_pos (by rw [← hc12]; exact own_mem_take hlt4 (by omega))).symm, N0, eJ⟩)
      · refine own_go (b := TJ.setTop (mkF m 69 #[rv mm, iv (i.toInt32)] [])) (fun t k => XS.icmpNo XJ.here hx rfl (hb hby d8_66) rfl (feq hc12).1 k) ?_
        exact J5 TJ XJ eJ (own_hk1 hk hc12)
    · refine own_go (b := TJ.setTop (mkF m 69 #[rv mm, iv (i.toInt32)] [])) (fun t k => XS.icmpYes XJ.here hx rfl (pc0 := 57) (pc' := 69) rfl (hb hby d8_57) rfl (flt hc9).2.2.2 (by decide) (by decide) k) ?_
      exact J5 TJ XJ eJ (own_hk2 hk (fun q => hc9 ((own_lt32 (i := 4) (by omega) (by omega)).mpr q)))
  have J3 : ∀ (TJ : State) (XJ : Stand p l e ({ frames := 0, cells := 0, slots := 0, locals := 0 } : Room) s m #[(.ref mm), (.int ((i.toInt32)))] below meth c TJ [] 0 0) (eJ : TJ.heap = h0) (hk : ∀ j, j < 3 → j < i → ms.getD j 0 ≠ (ms.getD i 0)), own_Endz p.tables e below (own_EndQ s ({ frames := 0, cells := 0, slots := 0, locals := 0 } : Room).cells ({ frames := 0, cells := 0, slots := 0, locals := 0 } : Room).slots (Q8 Z mm ((i.toInt32)) ms i h0 n0)) (TJ.setTop (mkF m 41 #[rv mm, iv (i.toInt32)] [])) := by
    intro TJ XJ eJ hk
    refine own_go (b := TJ.setTop (mkF m 42 #[rv mm, iv (i.toInt32)] [(.int (i.toInt32))])) (fun t k => XS.iloadN XJ.here hx rfl (hb hby d8_41) rfl  k) ?_
    refine own_go (b := TJ.setTop (mkF m 43 #[rv mm, iv (i.toInt32)] [(.int 3), (.int (i.toInt32))])) (fun t k => XS.iconst XJ.here hx rfl (hb hby d8_42) k) ?_
    by_cases hc13 : (3 : Int32) < (i.toInt32)
    · refine own_go (b := TJ.setTop (mkF m 46 #[rv mm, iv (i.toInt32)] [])) (fun t k => XS.icmpNo XJ.here hx rfl (hb hby d8_43) rfl (tlt hc13).2.2.2 k) ?_
      have hlt3 := (own_lt32 (i := 3) (by omega) (by omega)).mp hc13
      refine own_go (b := TJ.setTop (mkF m 47 #[rv mm, iv (i.toInt32)] [(.ref mm)])) (fun t k => XS.aloadN XJ.here hx rfl (hb hby d8_46) rfl rfl k) ?_
      refine own_go (b := TJ.setTop (mkF m 48 #[rv mm, iv (i.toInt32)] [(.int 3), (.ref mm)])) (fun t k => XS.iconst XJ.here hx rfl (hb hby d8_47) k) ?_
      obtain ⟨cl14, Ar14, Sz14, Ln14, Hs14⟩ := id Vm
      have hb14 := own_Ai_at Sz14 Ln14 Hs14 (i := 3) (by omega)
      refine own_go (b := TJ.setTop (mkF m 49 #[rv mm, iv (i.toInt32)] [(.int (ms.getD 3 0))])) (fun t k => XJ.iaload hx (j := (3 : Int32)) (v := (.int (ms.getD 3 0))) (by rw [eJ]; exact Ar14.1) (State.isArrayOf_alike hZ.alike Ar14.2.1) Ar14.2.2 hb14.1 hb14.2 (g := (mkF m 48 #[rv mm, iv (i.toInt32)] [(.int 3), (.ref mm)])) rfl rfl (hb hby d8_48) t k) ?_
      refine own_go (b := TJ.setTop (mkF m 50 #[rv mm, iv (i.toInt32)] [(.ref mm), (.int (ms.getD 3 0))])) (fun t k => XS.aloadN XJ.here hx rfl (hb hby d8_49) rfl rfl k) ?_
      refine own_go (b := TJ.setTop (mkF m 51 #[rv mm, iv (i.toInt32)] [(.int (i.toInt32)), (.ref mm), (.int (ms.getD 3 0))])) (fun t k => XS.iloadN XJ.here hx rfl (hb hby d8_50) rfl  k) ?_
      obtain ⟨cl15, Ar15, Sz15, Ln15, Hs15⟩ := id Vm
      have hb15 := own_Ai_at Sz15 Ln15 Hs15 (i := i) (by omega)
      refine own_go (b := TJ.setTop (mkF m 52 #[rv mm, iv (i.toInt32)] [(.int (ms.getD i 0)), (.int (ms.getD 3 0))])) (fun t k => XJ.iaload hx (j := (i.toInt32)) (v := (.int (ms.getD i 0))) (by rw [eJ]; exact Ar15.1) (State.isArrayOf_alike hZ.alike Ar15.2.1) Ar15.2.2 hb15.1 hb15.2 (g := (mkF m 51 #[rv mm, iv (i.toInt32)] [(.int (i.toInt32)), (.ref mm), (.int (ms.getD 3 0))])) rfl rfl (hb hby d8_51) t k) ?_
      by_cases hc16 : (ms.getD 3 0) = (ms.getD i 0)
      · refine own_go (b := TJ.setTop (mkF m 99 #[rv mm, iv (i.toInt32)] [])) (fun t k => XS.icmpYes XJ.here hx rfl (pc0 := 52) (pc' := 99) rfl (hb hby d8_52) rfl (teq hc16).1 (by decide) (by decide) k) ?_
        refine own_go (b := TJ.setTop (mkF m 100 #[rv mm, iv (i.toInt32)] [(.int 1)])) (fun t k => XS.iconst XJ.here hx rfl (hb hby d8_99) k) ?_
        refine own_go (b := TJ.setTop (mkF m 104 #[rv mm, iv (i.toInt32)] [(.int 1)])) (fun t k => XS.goto XJ.here hx rfl (pc0 := 100) (pc' := 104) rfl (hb hby d8_100) (by decide) (by decide) k) ?_
        exact own_retN XJ hx hlk (t := .boolean) hrt (by simp) (hb hby d8_104) (Nat.le_of_ble_eq_true rfl) (Nat.le_of_ble_eq_true rfl) (⟨congrArg (fun q => some (Value.int q)) (if_pos (by rw [← hc16]; exact own_mem_take hlt3 (by omega))).symm, N0, eJ⟩)
      · refine own_go (b := TJ.setTop (mkF m 55 #[rv mm, iv (i.toInt32)] [])) (fun t k => XS.icmpNo XJ.here hx rfl (hb hby d8_52) rfl (feq hc16).1 k) ?_
        exact J4 TJ XJ eJ (own_hk1 hk hc16)
    · refine own_go (b := TJ.setTop (mkF m 55 #[rv mm, iv (i.toInt32)] [])) (fun t k => XS.icmpYes XJ.here hx rfl (pc0 := 43) (pc' := 55) rfl (hb hby d8_43) rfl (flt hc13).2.2.2 (by decide) (by decide) k) ?_
      exact J4 TJ XJ eJ (own_hk2 hk (fun q => hc13 ((own_lt32 (i := 3) (by omega) (by omega)).mpr q)))
  have J2 : ∀ (TJ : State) (XJ : Stand p l e ({ frames := 0, cells := 0, slots := 0, locals := 0 } : Room) s m #[(.ref mm), (.int ((i.toInt32)))] below meth c TJ [] 0 0) (eJ : TJ.heap = h0) (hk : ∀ j, j < 2 → j < i → ms.getD j 0 ≠ (ms.getD i 0)), own_Endz p.tables e below (own_EndQ s ({ frames := 0, cells := 0, slots := 0, locals := 0 } : Room).cells ({ frames := 0, cells := 0, slots := 0, locals := 0 } : Room).slots (Q8 Z mm ((i.toInt32)) ms i h0 n0)) (TJ.setTop (mkF m 27 #[rv mm, iv (i.toInt32)] [])) := by
    intro TJ XJ eJ hk
    refine own_go (b := TJ.setTop (mkF m 28 #[rv mm, iv (i.toInt32)] [(.int (i.toInt32))])) (fun t k => XS.iloadN XJ.here hx rfl (hb hby d8_27) rfl  k) ?_
    refine own_go (b := TJ.setTop (mkF m 29 #[rv mm, iv (i.toInt32)] [(.int 2), (.int (i.toInt32))])) (fun t k => XS.iconst XJ.here hx rfl (hb hby d8_28) k) ?_
    by_cases hc17 : (2 : Int32) < (i.toInt32)
    · refine own_go (b := TJ.setTop (mkF m 32 #[rv mm, iv (i.toInt32)] [])) (fun t k => XS.icmpNo XJ.here hx rfl (hb hby d8_29) rfl (tlt hc17).2.2.2 k) ?_
      have hlt2 := (own_lt32 (i := 2) (by omega) (by omega)).mp hc17
      refine own_go (b := TJ.setTop (mkF m 33 #[rv mm, iv (i.toInt32)] [(.ref mm)])) (fun t k => XS.aloadN XJ.here hx rfl (hb hby d8_32) rfl rfl k) ?_
      refine own_go (b := TJ.setTop (mkF m 34 #[rv mm, iv (i.toInt32)] [(.int 2), (.ref mm)])) (fun t k => XS.iconst XJ.here hx rfl (hb hby d8_33) k) ?_
      obtain ⟨cl18, Ar18, Sz18, Ln18, Hs18⟩ := id Vm
      have hb18 := own_Ai_at Sz18 Ln18 Hs18 (i := 2) (by omega)
      refine own_go (b := TJ.setTop (mkF m 35 #[rv mm, iv (i.toInt32)] [(.int (ms.getD 2 0))])) (fun t k => XJ.iaload hx (j := (2 : Int32)) (v := (.int (ms.getD 2 0))) (by rw [eJ]; exact Ar18.1) (State.isArrayOf_alike hZ.alike Ar18.2.1) Ar18.2.2 hb18.1 hb18.2 (g := (mkF m 34 #[rv mm, iv (i.toInt32)] [(.int 2), (.ref mm)])) rfl rfl (hb hby d8_34) t k) ?_
      refine own_go (b := TJ.setTop (mkF m 36 #[rv mm, iv (i.toInt32)] [(.ref mm), (.int (ms.getD 2 0))])) (fun t k => XS.aloadN XJ.here hx rfl (hb hby d8_35) rfl rfl k) ?_
      refine own_go (b := TJ.setTop (mkF m 37 #[rv mm, iv (i.toInt32)] [(.int (i.toInt32)), (.ref mm), (.int (ms.getD 2 0))])) (fun t k => XS.iloadN XJ.here hx rfl (hb hby d8_36) rfl  k) ?_
      obtain ⟨cl19, Ar19, Sz19, Ln19, Hs19⟩ := id Vm
      have hb19 := own_Ai_at Sz19 Ln19 Hs19 (i := i) (by omega)
      refine own_go (b := TJ.setTop (mkF m 38 #[rv mm, iv (i.toInt32)] [(.int (ms.getD i 0)), (.int (ms.getD 2 0))])) (fun t k => XJ.iaload hx (j := (i.toInt32)) (v := (.int (ms.getD i 0))) (by rw [eJ]; exact Ar19.1) (State.isArrayOf_alike hZ.alike Ar19.2.1) Ar19.2.2 hb19.1 hb19.2 (g := (mkF m 37 #[rv mm, iv (i.toInt32)] [(.int (i.toInt32)), (.ref mm), (.int (ms.getD 2 0))])) rfl rfl (hb hby d8_37) t k) ?_
      by_cases hc20 : (ms.getD 2 0) = (ms.getD i 0)
      · refine own_go (b := TJ.setTop (mkF m 99 #[rv mm, iv (i.toInt32)] [])) (fun t k => XS.icmpYes XJ.here hx rfl (pc0 := 38) (pc' := 99) rfl (hb hby d8_38) rfl (teq hc20).1 (by decide) (by decide) k) ?_
        refine own_go (b := TJ.setTop (mkF m 100 #[rv mm, iv (i.toInt32)] [(.int 1)])) (fun t k => XS.iconst XJ.here hx rfl (hb hby d8_99) k) ?_
        refine own_go (b := TJ.setTop (mkF m 104 #[rv mm, iv (i.toInt32)] [(.int 1)])) (fun t k => XS.goto XJ.here hx rfl (pc0 := 100) (pc' := 104) rfl (hb hby d8_100) (by decide) (by decide) k) ?_
        exact own_retN XJ hx hlk (t := .boolean) hrt (by simp) (hb hby d8_104) (Nat.le_of_ble_eq_true rfl) (Nat.le_of_ble_eq_true rfl) (⟨congrArg (fun q => some (Value.int q)) (if_pos (by rw [← hc20]; exact own_mem_take hlt2 (by omega))).symm, N0, eJ⟩)
      · refine own_go (b := TJ.setTop (mkF m 41 #[rv mm, iv (i.toInt32)] [])) (fun t k => XS.icmpNo XJ.here hx rfl (hb hby d8_38) rfl (feq hc20).1 k) ?_
        exact J3 TJ XJ eJ (own_hk1 hk hc20)
    · refine own_go (b := TJ.setTop (mkF m 41 #[rv mm, iv (i.toInt32)] [])) (fun t k => XS.icmpYes XJ.here hx rfl (pc0 := 29) (pc' := 41) rfl (hb hby d8_29) rfl (flt hc17).2.2.2 (by decide) (by decide) k) ?_
      exact J3 TJ XJ eJ (own_hk2 hk (fun q => hc17 ((own_lt32 (i := 2) (by omega) (by omega)).mpr q)))
  have J1 : ∀ (TJ : State) (XJ : Stand p l e ({ frames := 0, cells := 0, slots := 0, locals := 0 } : Room) s m #[(.ref mm), (.int ((i.toInt32)))] below meth c TJ [] 0 0) (eJ : TJ.heap = h0) (hk : ∀ j, j < 1 → j < i → ms.getD j 0 ≠ (ms.getD i 0)), own_Endz p.tables e below (own_EndQ s ({ frames := 0, cells := 0, slots := 0, locals := 0 } : Room).cells ({ frames := 0, cells := 0, slots := 0, locals := 0 } : Room).slots (Q8 Z mm ((i.toInt32)) ms i h0 n0)) (TJ.setTop (mkF m 13 #[rv mm, iv (i.toInt32)] [])) := by
    intro TJ XJ eJ hk
    refine own_go (b := TJ.setTop (mkF m 14 #[rv mm, iv (i.toInt32)] [(.int (i.toInt32))])) (fun t k => XS.iloadN XJ.here hx rfl (hb hby d8_13) rfl  k) ?_
    refine own_go (b := TJ.setTop (mkF m 15 #[rv mm, iv (i.toInt32)] [(.int 1), (.int (i.toInt32))])) (fun t k => XS.iconst XJ.here hx rfl (hb hby d8_14) k) ?_
    by_cases hc21 : (1 : Int32) < (i.toInt32)
    · refine own_go (b := TJ.setTop (mkF m 18 #[rv mm, iv (i.toInt32)] [])) (fun t k => XS.icmpNo XJ.here hx rfl (hb hby d8_15) rfl (tlt hc21).2.2.2 k) ?_
      have hlt1 := (own_lt32 (i := 1) (by omega) (by omega)).mp hc21
      refine own_go (b := TJ.setTop (mkF m 19 #[rv mm, iv (i.toInt32)] [(.ref mm)])) (fun t k => XS.aloadN XJ.here hx rfl (hb hby d8_18) rfl rfl k) ?_
      refine own_go (b := TJ.setTop (mkF m 20 #[rv mm, iv (i.toInt32)] [(.int 1), (.ref mm)])) (fun t k => XS.iconst XJ.here hx rfl (hb hby d8_19) k) ?_
      obtain ⟨cl22, Ar22, Sz22, Ln22, Hs22⟩ := id Vm
      have hb22 := own_Ai_at Sz22 Ln22 Hs22 (i := 1) (by omega)
      refine own_go (b := TJ.setTop (mkF m 21 #[rv mm, iv (i.toInt32)] [(.int (ms.getD 1 0))])) (fun t k => XJ.iaload hx (j := (1 : Int32)) (v := (.int (ms.getD 1 0))) (by rw [eJ]; exact Ar22.1) (State.isArrayOf_alike hZ.alike Ar22.2.1) Ar22.2.2 hb22.1 hb22.2 (g := (mkF m 20 #[rv mm, iv (i.toInt32)] [(.int 1), (.ref mm)])) rfl rfl (hb hby d8_20) t k) ?_
      refine own_go (b := TJ.setTop (mkF m 22 #[rv mm, iv (i.toInt32)] [(.ref mm), (.int (ms.getD 1 0))])) (fun t k => XS.aloadN XJ.here hx rfl (hb hby d8_21) rfl rfl k) ?_
      refine own_go (b := TJ.setTop (mkF m 23 #[rv mm, iv (i.toInt32)] [(.int (i.toInt32)), (.ref mm), (.int (ms.getD 1 0))])) (fun t k => XS.iloadN XJ.here hx rfl (hb hby d8_22) rfl  k) ?_
      obtain ⟨cl23, Ar23, Sz23, Ln23, Hs23⟩ := id Vm
      have hb23 := own_Ai_at Sz23 Ln23 Hs23 (i := i) (by omega)
      refine own_go (b := TJ.setTop (mkF m 24 #[rv mm, iv (i.toInt32)] [(.int (ms.getD i 0)), (.int (ms.getD 1 0))])) (fun t k => XJ.iaload hx (j := (i.toInt32)) (v := (.int (ms.getD i 0))) (by rw [eJ]; exact Ar23.1) (State.isArrayOf_alike hZ.alike Ar23.2.1) Ar23.2.2 hb23.1 hb23.2 (g := (mkF m 23 #[rv mm, iv (i.toInt32)] [(.int (i.toInt32)), (.ref mm), (.int (ms.getD 1 0))])) rfl rfl (hb hby d8_23) t k) ?_
      by_cases hc24 : (ms.getD 1 0) = (ms.getD i 0)
      · refine own_go (b := TJ.setTop (mkF m 99 #[rv mm, iv (i.toInt32)] [])) (fun t k => XS.icmpYes XJ.here hx rfl (pc0 := 24) (pc' := 99) rfl (hb hby d8_24) rfl (teq hc24).1 (by decide) (by decide) k) ?_
        refine own_go (b := TJ.setTop (mkF m 100 #[rv mm, iv (i.toInt32)] [(.int 1)])) (fun t k => XS.iconst XJ.here hx rfl (hb hby d8_99) k) ?_
        refine own_go (b := TJ.setTop (mkF m 104 #[rv mm, iv (i.toInt32)] [(.int 1)])) (fun t k => XS.goto XJ.here hx rfl (pc0 := 100) (pc' := 104) rfl (hb hby d8_100) (by decide) (by decide) k) ?_
        exact own_retN XJ hx hlk (t := .boolean) hrt (by simp) (hb hby d8_104) (Nat.le_of_ble_eq_true rfl) (Nat.le_of_ble_eq_true rfl) (⟨congrArg (fun q => some (Value.int q)) (if_pos (by rw [← hc24]; exact own_mem_take hlt1 (by omega))).symm, N0, eJ⟩)
      · refine own_go (b := TJ.setTop (mkF m 27 #[rv mm, iv (i.toInt32)] [])) (fun t k => XS.icmpNo XJ.here hx rfl (hb hby d8_24) rfl (feq hc24).1 k) ?_
        exact J2 TJ XJ eJ (own_hk1 hk hc24)
    · refine own_go (b := TJ.setTop (mkF m 27 #[rv mm, iv (i.toInt32)] [])) (fun t k => XS.icmpYes XJ.here hx rfl (pc0 := 15) (pc' := 27) rfl (hb hby d8_15) rfl (flt hc21).2.2.2 (by decide) (by decide) k) ?_
      exact J2 TJ XJ eJ (own_hk2 hk (fun q => hc21 ((own_lt32 (i := 1) (by omega) (by omega)).mpr q)))
  have hk : ∀ j, j < 0 → j < i → ms.getD j 0 ≠ (ms.getD i 0) := fun j hj => absurd hj (Nat.not_lt_zero j)
  refine own_go (b := s₁.setTop (mkF m 1 #[rv mm, iv (i.toInt32)] [(.int (i.toInt32))])) (fun t k => XS.iloadN X0.here hx rfl (hb hby d8_0) rfl  k) ?_
  by_cases hc25 : (0 : Int32) < (i.toInt32)
  · refine own_go (b := s₁.setTop (mkF m 4 #[rv mm, iv (i.toInt32)] [])) (fun t k => XS.ifNo X0.here hx rfl (hb hby d8_1) rfl ((if0 _ _).trans (tlt hc25).2.2.2) k) ?_
    have hlt0 := (own_lt32 (i := 0) (by omega) (by omega)).mp hc25
    refine own_go (b := s₁.setTop (mkF m 5 #[rv mm, iv (i.toInt32)] [(.ref mm)])) (fun t k => XS.aloadN X0.here hx rfl (hb hby d8_4) rfl rfl k) ?_
    refine own_go (b := s₁.setTop (mkF m 6 #[rv mm, iv (i.toInt32)] [(.int 0), (.ref mm)])) (fun t k => XS.iconst X0.here hx rfl (hb hby d8_5) k) ?_
    obtain ⟨cl26, Ar26, Sz26, Ln26, Hs26⟩ := id Vm
    have hb26 := own_Ai_at Sz26 Ln26 Hs26 (i := 0) (by omega)
    refine own_go (b := s₁.setTop (mkF m 7 #[rv mm, iv (i.toInt32)] [(.int (ms.getD 0 0))])) (fun t k => X0.iaload hx (j := (0 : Int32)) (v := (.int (ms.getD 0 0))) (by rw [e0]; exact Ar26.1) (State.isArrayOf_alike hZ.alike Ar26.2.1) Ar26.2.2 hb26.1 hb26.2 (g := (mkF m 6 #[rv mm, iv (i.toInt32)] [(.int 0), (.ref mm)])) rfl rfl (hb hby d8_6) t k) ?_
    refine own_go (b := s₁.setTop (mkF m 8 #[rv mm, iv (i.toInt32)] [(.ref mm), (.int (ms.getD 0 0))])) (fun t k => XS.aloadN X0.here hx rfl (hb hby d8_7) rfl rfl k) ?_
    refine own_go (b := s₁.setTop (mkF m 9 #[rv mm, iv (i.toInt32)] [(.int (i.toInt32)), (.ref mm), (.int (ms.getD 0 0))])) (fun t k => XS.iloadN X0.here hx rfl (hb hby d8_8) rfl  k) ?_
    obtain ⟨cl27, Ar27, Sz27, Ln27, Hs27⟩ := id Vm
    have hb27 := own_Ai_at Sz27 Ln27 Hs27 (i := i) (by omega)
    refine own_go (b := s₁.setTop (mkF m 10 #[rv mm, iv (i.toInt32)] [(.int (ms.getD i 0)), (.int (ms.getD 0 0))])) (fun t k => X0.iaload hx (j := (i.toInt32)) (v := (.int (ms.getD i 0))) (by rw [e0]; exact Ar27.1) (State.isArrayOf_alike hZ.alike Ar27.2.1) Ar27.2.2 hb27.1 hb27.2 (g := (mkF m 9 #[rv mm, iv (i.toInt32)] [(.int (i.toInt32)), (.ref mm), (.int (ms.getD 0 0))])) rfl rfl (hb hby d8_9) t k) ?_
    by_cases hc28 : (ms.getD 0 0) = (ms.getD i 0)
    · refine own_go (b := s₁.setTop (mkF m 99 #[rv mm, iv (i.toInt32)] [])) (fun t k => XS.icmpYes X0.here hx rfl (pc0 := 10) (pc' := 99) rfl (hb hby d8_10) rfl (teq hc28).1 (by decide) (by decide) k) ?_
      refine own_go (b := s₁.setTop (mkF m 100 #[rv mm, iv (i.toInt32)] [(.int 1)])) (fun t k => XS.iconst X0.here hx rfl (hb hby d8_99) k) ?_
      refine own_go (b := s₁.setTop (mkF m 104 #[rv mm, iv (i.toInt32)] [(.int 1)])) (fun t k => XS.goto X0.here hx rfl (pc0 := 100) (pc' := 104) rfl (hb hby d8_100) (by decide) (by decide) k) ?_
      exact own_retN X0 hx hlk (t := .boolean) hrt (by simp) (hb hby d8_104) (Nat.le_of_ble_eq_true rfl) (Nat.le_of_ble_eq_true rfl) (⟨congrArg (fun q => some (Value.int q)) (if_pos (by rw [← hc28]; exact own_mem_take hlt0 (by omega))).symm, N0, e0⟩)
    · refine own_go (b := s₁.setTop (mkF m 13 #[rv mm, iv (i.toInt32)] [])) (fun t k => XS.icmpNo X0.here hx rfl (hb hby d8_10) rfl (feq hc28).1 k) ?_
      exact J1 s₁ X0 e0 (own_hk1 hk hc28)
  · refine own_go (b := s₁.setTop (mkF m 13 #[rv mm, iv (i.toInt32)] [])) (fun t k => XS.ifYes X0.here hx rfl (pc0 := 1) (pc' := 13) rfl (hb hby d8_1) rfl ((if0 _ _).trans (flt hc25).2.2.2) (by decide) (by decide) k) ?_
    exact J1 s₁ X0 e0 (own_hk2 hk (fun q => hc25 ((own_lt32 (i := 0) (by omega) (by omega)).mpr q)))
theorem d7_0 : decode method_5_code 0 = .ok (.iload_n 1, 1) := by decide +kernel
theorem d7_1 : decode method_5_code 1 = .ok (.iload_n 2, 1) := by decide +kernel
theorem d7_2 : decode method_5_code 2 = .ok (.if_icmp .ge 15, 3) := by decide +kernel
theorem d7_5 : decode method_5_code 5 = .ok (.aload_n 0, 1) := by decide +kernel
theorem d7_6 : decode method_5_code 6 = .ok (.iload_n 1, 1) := by decide +kernel
theorem d7_7 : decode method_5_code 7 = .ok (.invokestatic 35, 3) := by decide +kernel
theorem d7_10 : decode method_5_code 10 = .ok (.ifCond .ne 7, 3) := by decide +kernel
theorem d7_13 : decode method_5_code 13 = .ok (.iconst 1, 1) := by decide +kernel
theorem d7_14 : decode method_5_code 14 = .ok (.goto 4, 3) := by decide +kernel
theorem d7_17 : decode method_5_code 17 = .ok (.iconst 0, 1) := by decide +kernel
theorem d7_18 : decode method_5_code 18 = .ok (.ireturn, 1) := by decide +kernel
theorem pd_3 : parseMethodDescriptor "([II)Z" = some ⟨[(.array .int), .int], some .boolean⟩ := by decide +kernel
theorem ef_7 (m : MethodId) (mm : Addr) (ix : Int32) (ct : Int32) : entryFrame m #[(.ref mm), (.int ix), (.int ct)] 3 = mkF m 0 #[rv mm, iv ix, iv ct] [] := by first | (simp [entryFrame, mkF, argsToLocals, Value.category]; done) | rfl
def Q7 (Z : State) (mm : Addr) (ix : Int32) (ct : Int32) (ms : List Int32) (i : Nat) (cnt : Nat) (h0 : Heap) (n0 : Nat) (v : Option Value) (h : Heap) (L : List Loc) : Prop := v = some (.int (own_fr ms cnt i).toInt32) ∧ Fr n0 L ∧ h = h0
set_option maxRecDepth 65536 in
set_option maxHeartbeats 40000000 in
theorem rm7 (l : Launch) (Z : State) (a0 : Array Value) (hw : ∀ d ∈ tables_1, d.before a0 Z = true) (ws : List Jvm.Cond) (mm : Addr) (ix : Int32) (ct : Int32) (ms : List Int32) (i : Nat) (cnt : Nat) (h0 : Heap) (n0 : Nat) (Z0 : n0 ≤ h0.size) (Vm : own_Ai Z h0 mm ms) (hix : ix = i.toInt32) (hct : ct = cnt.toInt32) (hi : i ≤ 7) (hmL : ms.length = 8) (hcnt : cnt ≤ 8) :
    MetFree l (⟨"com/example/axiomloom/axiomloom/reasoner/IntSetToArrayPinLaw", "fresh", "([III)I"⟩ : MethodName) (head1 (Jvm.Cond.code (⟨"com/example/axiomloom/axiomloom/reasoner/IntSetToArrayPinLaw", "fresh", "([III)I"⟩ : MethodName) method_5_code 3 (some .int) :: ws) ({ frames := 1, cells := 0, slots := 0, locals := 13 } : Room)) (fun a U => a = #[(.ref mm), (.int ix), (.int ct)] ∧ Z.Warmed39 U.vm ∧ U.heap = h0) (fun _ _ _ _ _ => True) (fun _ U o U' => ∃ v L, o = .returned v ∧ Q7 Z mm ix ct ms i cnt h0 n0 v U'.heap L ∧ FrameEnd U o U' L ({ frames := 1, cells := 0, slots := 0, locals := 13 } : Room).cells ({ frames := 1, cells := 0, slots := 0, locals := 13 } : Room).slots) := by
  refine MetFree.of_bodySF (plainFor_of_name pn_1) hisR ?_
  intro p e s m args below meth c s₁ Bd hml0 hP hK
  obtain ⟨rfl, hZ, hh⟩ := hP
  have hx := Bd.exec
  have hby := Bd.bytes
  have hml : c.maxLocals = 3 := hml0
  have hown : s.vm.findClass "com/example/axiomloom/axiomloom/reasoner/IntSetToArrayPinLaw" = some m.cls := findClass_of_methodNamed Bd.named
  have hnm := (name_of_methodNamed Bd.named Bd.method).1
  have hlk : meth.locks = false := Bd.notSynchronized
  have hrt := Bd.returns
  have X0 : Stand p l e ({ frames := 1, cells := 0, slots := 0, locals := 13 } : Room) s m #[(.ref mm), (.int ix), (.int ct)] below meth c s₁ [] 0 0 := Stand.of_body Bd
  have e0 : s₁.heap = h0 := by rw [← hh, Bd.state]; rfl
  have N0 := Fr.nil n0
  show own_Endz p.tables e below (own_EndQ s ({ frames := 1, cells := 0, slots := 0, locals := 13 } : Room).cells ({ frames := 1, cells := 0, slots := 0, locals := 13 } : Room).slots (Q7 Z mm ix ct ms i cnt h0 n0)) (s₁.setTop (entryFrame m #[(.ref mm), (.int ix), (.int ct)] 3))
  refine own_cast (ef_7 m mm ix ct) ?_
  subst hix
  subst hct
  refine own_go (b := s₁.setTop (mkF m 1 #[rv mm, iv (i.toInt32), iv (cnt.toInt32)] [(.int (i.toInt32))])) (fun t k => XS.iloadN X0.here hx rfl (hb hby d7_0) rfl  k) ?_
  refine own_go (b := s₁.setTop (mkF m 2 #[rv mm, iv (i.toInt32), iv (cnt.toInt32)] [(.int (cnt.toInt32)), (.int (i.toInt32))])) (fun t k => XS.iloadN X0.here hx rfl (hb hby d7_1) rfl  k) ?_
  by_cases hc1 : (i.toInt32) < (cnt.toInt32)
  · refine own_go (b := s₁.setTop (mkF m 5 #[rv mm, iv (i.toInt32), iv (cnt.toInt32)] [])) (fun t k => XS.icmpNo X0.here hx rfl (hb hby d7_2) rfl (tlt hc1).2.1 k) ?_
    refine own_go (b := s₁.setTop (mkF m 6 #[rv mm, iv (i.toInt32), iv (cnt.toInt32)] [(.ref mm)])) (fun t k => XS.aloadN X0.here hx rfl (hb hby d7_5) rfl rfl k) ?_
    refine own_go (b := s₁.setTop (mkF m 7 #[rv mm, iv (i.toInt32), iv (cnt.toInt32)] [(.int (i.toInt32)), (.ref mm)])) (fun t k => XS.iloadN X0.here hx rfl (hb hby d7_6) rfl  k) ?_
    obtain ⟨_, _, ⟨T2, L2, k2, n2⟩, -, X2, ⟨Lc2, hQ2, l2, y2, z2⟩, st2⟩ := Jvm.LawKit.callS X0 hx (y := (⟨"com/example/axiomloom/axiomloom/reasoner/IntSetToArrayPinLaw", "seenBefore", "([II)Z"⟩ : MethodName)) hown (mvT hZ (hw _ (List.mem_of_getElem? (i := 42) rfl))) (mvT hZ (hw _ (List.mem_of_getElem? (i := 43) rfl))) (mvT hZ (hw _ (List.mem_of_getElem? (i := 21) rfl))) (mvT hZ (hw _ (List.mem_of_getElem? (i := 44) rfl))) (by decide) (backOf (W := 0) (rm8 l Z a0 hw [] mm (i.toInt32) ms i h0 n0 Z0 Vm rfl hi hmL) hZ (hw _ (List.mem_of_getElem? (i := 44) rfl)) (hw _ (List.mem_of_getElem? (i := 21) rfl)) (by decide) (by decide)) (g := (mkF m 7 #[rv mm, iv (i.toInt32), iv (cnt.toInt32)] [(.int (i.toInt32)), (.ref mm)])) rfl (by rw [hml]; rfl) (argsL := [(.ref mm), (.int (i.toInt32))]) (rest := []) (lenOf pd_3 rfl) rfl (by show 2 * 0 + _ ≤ _; exact Nat.le_of_eq rfl) (hb hby d7_7) (fun _ _ => ⟨rfl, e0, (by decide : 0 + 0 ≤ _), (by decide : 0 + 0 ≤ _)⟩)
    dsimp only [Pt.U, Pt.locs, Pt.cells, Pt.slots] at X2 l2 y2 z2 st2 hQ2
    subst l2 y2 z2
    obtain ⟨rfl, N2q, e2⟩ := hQ2
    have N2 := Fr.app N0 N2q
    obtain ⟨lq2, X2, N2⟩ : ∃ lq, Stand p l e ({ frames := 1, cells := 0, slots := 0, locals := 13 } : Room) s m #[(.ref mm), (.int ((i.toInt32))), (.int ((cnt.toInt32)))] below meth c T2 lq 0 0 ∧ Fr n0 lq := ⟨_, X2, N2⟩
    refine own_go (b := T2.setTop (mkF m 10 #[rv mm, iv (i.toInt32), iv (cnt.toInt32)] [(.int (if ms.getD i 0 ∈ ms.take i then 1 else 0))])) st2 ?_
    by_cases hc3 : (if ms.getD i 0 ∈ ms.take i then 1 else 0) = (0 : Int32)
    · refine own_go (b := T2.setTop (mkF m 13 #[rv mm, iv (i.toInt32), iv (cnt.toInt32)] [])) (fun t k => XS.ifNo X2.here hx rfl (hb hby d7_10) rfl ((if0 _ _).trans (teq hc3).2) k) ?_
      refine own_go (b := T2.setTop (mkF m 14 #[rv mm, iv (i.toInt32), iv (cnt.toInt32)] [(.int 1)])) (fun t k => XS.iconst X2.here hx rfl (hb hby d7_13) k) ?_
      refine own_go (b := T2.setTop (mkF m 18 #[rv mm, iv (i.toInt32), iv (cnt.toInt32)] [(.int 1)])) (fun t k => XS.goto X2.here hx rfl (pc0 := 14) (pc' := 18) rfl (hb hby d7_14) (by decide) (by decide) k) ?_
      exact own_retI X2 hx hlk hrt (hb hby d7_18) (Nat.le_of_ble_eq_true rfl) (Nat.le_of_ble_eq_true rfl) (⟨congrArg (fun q => some (Value.int (Nat.toInt32 q))) (if_pos ⟨(own_lt32 (by omega) (by omega)).mp hc1, fun q => absurd ((if_pos q).symm.trans hc3) (by decide)⟩ : own_fr ms cnt i = _).symm, N2, e2⟩)
    · refine own_go (b := T2.setTop (mkF m 17 #[rv mm, iv (i.toInt32), iv (cnt.toInt32)] [])) (fun t k => XS.ifYes X2.here hx rfl (pc0 := 10) (pc' := 17) rfl (hb hby d7_10) rfl ((if0 _ _).trans (feq hc3).2) (by decide) (by decide) k) ?_
      refine own_go (b := T2.setTop (mkF m 18 #[rv mm, iv (i.toInt32), iv (cnt.toInt32)] [(.int 0)])) (fun t k => XS.iconst X2.here hx rfl (hb hby d7_17) k) ?_
      exact own_retI X2 hx hlk hrt (hb hby d7_18) (Nat.le_of_ble_eq_true rfl) (Nat.le_of_ble_eq_true rfl) (⟨congrArg (fun q => some (Value.int (Nat.toInt32 q))) (if_neg (fun q => hc3 (if_neg q.2)) : own_fr ms cnt i = _).symm, N2, e2⟩)
  · refine own_go (b := s₁.setTop (mkF m 17 #[rv mm, iv (i.toInt32), iv (cnt.toInt32)] [])) (fun t k => XS.icmpYes X0.here hx rfl (pc0 := 2) (pc' := 17) rfl (hb hby d7_2) rfl (flt hc1).2.1 (by decide) (by decide) k) ?_
    refine own_go (b := s₁.setTop (mkF m 18 #[rv mm, iv (i.toInt32), iv (cnt.toInt32)] [(.int 0)])) (fun t k => XS.iconst X0.here hx rfl (hb hby d7_17) k) ?_
    exact own_retI X0 hx hlk hrt (hb hby d7_18) (Nat.le_of_ble_eq_true rfl) (Nat.le_of_ble_eq_true rfl) (⟨congrArg (fun q => some (Value.int (Nat.toInt32 q))) (if_neg (fun q => hc1 ((own_lt32 (by omega) (by omega)).mpr q.1)) : own_fr ms cnt i = _).symm, N0, e0⟩)
theorem d10_0 : decode method_7_code 0 = .ok (.iload 4, 2) := by decide +kernel
theorem d10_2 : decode method_7_code 2 = .ok (.iload_n 1, 1) := by decide +kernel
theorem d10_3 : decode method_7_code 3 = .ok (.if_icmp .ge 15, 3) := by decide +kernel
theorem d10_6 : decode method_7_code 6 = .ok (.aload_n 2, 1) := by decide +kernel
theorem d10_7 : decode method_7_code 7 = .ok (.iload_n 3, 1) := by decide +kernel
theorem d10_8 : decode method_7_code 8 = .ok (.aload_n 0, 1) := by decide +kernel
theorem d10_9 : decode method_7_code 9 = .ok (.iload 4, 2) := by decide +kernel
theorem d10_11 : decode method_7_code 11 = .ok (.iaload, 1) := by decide +kernel
theorem d10_12 : decode method_7_code 12 = .ok (.invokestatic 39, 3) := by decide +kernel
theorem d10_15 : decode method_7_code 15 = .ok (.ifCond .eq 7, 3) := by decide +kernel
theorem d10_18 : decode method_7_code 18 = .ok (.iconst 1, 1) := by decide +kernel
theorem d10_19 : decode method_7_code 19 = .ok (.goto 4, 3) := by decide +kernel
theorem d10_22 : decode method_7_code 22 = .ok (.iconst 0, 1) := by decide +kernel
theorem d10_23 : decode method_7_code 23 = .ok (.ireturn, 1) := by decide +kernel
theorem pd_4 : parseMethodDescriptor "([III)Z" = some ⟨[(.array .int), .int, .int], some .boolean⟩ := by decide +kernel
theorem ef_10 (m : MethodId) (src : Addr) (sl : Int32) (dst : Addr) (dl : Int32) (ix : Int32) : entryFrame m #[(.ref src), (.int sl), (.ref dst), (.int dl), (.int ix)] 5 = mkF m 0 #[rv src, iv sl, rv dst, iv dl, iv ix] [] := by first | (simp [entryFrame, mkF, argsToLocals, Value.category]; done) | rfl
def Q10 (Z : State) (src : Addr) (sl : Int32) (dst : Addr) (dl : Int32) (ix : Int32) (us : List Int32) (n : Nat) (ds : List Int32) (d : Nat) (i : Nat) (h0 : Heap) (n0 : Nat) (v : Option Value) (h : Heap) (L : List Loc) : Prop := v = some (.int 1) ∧ Fr n0 L ∧ h = h0
set_option maxRecDepth 65536 in
set_option maxHeartbeats 40000000 in
theorem rm10 (l : Launch) (Z : State) (a0 : Array Value) (hw : ∀ d ∈ tables_1, d.before a0 Z = true) (ws : List Jvm.Cond) (src : Addr) (sl : Int32) (dst : Addr) (dl : Int32) (ix : Int32) (us : List Int32) (n : Nat) (ds : List Int32) (d : Nat) (i : Nat) (h0 : Heap) (n0 : Nat) (Z0 : n0 ≤ h0.size) (Vs : own_Ai Z h0 src us) (Vd : own_Ai Z h0 dst ds) (h1 : sl = n.toInt32) (h2 : dl = d.toInt32) (h3 : ix = i.toInt32) (hn : n ≤ 8) (hnl : n ≤ us.length) (hd : d ≤ 8) (hdl : d ≤ ds.length) (hi : i ≤ 7) (hok : ∀ j, j < n → us.getD j 0 ∈ ds.take d) :
    MetFree l (⟨"com/example/axiomloom/axiomloom/reasoner/IntSetToArrayPinLaw", "okAt", "([II[III)Z"⟩ : MethodName) (head1 (Jvm.Cond.code (⟨"com/example/axiomloom/axiomloom/reasoner/IntSetToArrayPinLaw", "okAt", "([II[III)Z"⟩ : MethodName) method_7_code 5 (some .boolean) :: ws) ({ frames := 1, cells := 0, slots := 0, locals := 14 } : Room)) (fun a U => a = #[(.ref src), (.int sl), (.ref dst), (.int dl), (.int ix)] ∧ Z.Warmed39 U.vm ∧ U.heap = h0) (fun _ _ _ _ _ => True) (fun _ U o U' => ∃ v L, o = .returned v ∧ Q10 Z src sl dst dl ix us n ds d i h0 n0 v U'.heap L ∧ FrameEnd U o U' L ({ frames := 1, cells := 0, slots := 0, locals := 14 } : Room).cells ({ frames := 1, cells := 0, slots := 0, locals := 14 } : Room).slots) := by
  refine MetFree.of_bodySF (plainFor_of_name pn_1) hisR ?_
  intro p e s m args below meth c s₁ Bd hml0 hP hK
  obtain ⟨rfl, hZ, hh⟩ := hP
  have hx := Bd.exec
  have hby := Bd.bytes
  have hml : c.maxLocals = 5 := hml0
  have hown : s.vm.findClass "com/example/axiomloom/axiomloom/reasoner/IntSetToArrayPinLaw" = some m.cls := findClass_of_methodNamed Bd.named
  have hnm := (name_of_methodNamed Bd.named Bd.method).1
  have hlk : meth.locks = false := Bd.notSynchronized
  have hrt := Bd.returns
  have X0 : Stand p l e ({ frames := 1, cells := 0, slots := 0, locals := 14 } : Room) s m #[(.ref src), (.int sl), (.ref dst), (.int dl), (.int ix)] below meth c s₁ [] 0 0 := Stand.of_body Bd
  have e0 : s₁.heap = h0 := by rw [← hh, Bd.state]; rfl
  have N0 := Fr.nil n0
  show own_Endz p.tables e below (own_EndQ s ({ frames := 1, cells := 0, slots := 0, locals := 14 } : Room).cells ({ frames := 1, cells := 0, slots := 0, locals := 14 } : Room).slots (Q10 Z src sl dst dl ix us n ds d i h0 n0)) (s₁.setTop (entryFrame m #[(.ref src), (.int sl), (.ref dst), (.int dl), (.int ix)] 5))
  refine own_cast (ef_10 m src sl dst dl ix) ?_
  subst h1
  subst h2
  subst h3
  refine own_go (b := s₁.setTop (mkF m 2 #[rv src, iv (n.toInt32), rv dst, iv (d.toInt32), iv (i.toInt32)] [(.int (i.toInt32))])) (fun t k => XS.iload X0.here hx rfl (hb hby d10_0) rfl  k) ?_
  refine own_go (b := s₁.setTop (mkF m 3 #[rv src, iv (n.toInt32), rv dst, iv (d.toInt32), iv (i.toInt32)] [(.int (n.toInt32)), (.int (i.toInt32))])) (fun t k => XS.iloadN X0.here hx rfl (hb hby d10_2) rfl  k) ?_
  by_cases hc1 : (i.toInt32) < (n.toInt32)
  · refine own_go (b := s₁.setTop (mkF m 6 #[rv src, iv (n.toInt32), rv dst, iv (d.toInt32), iv (i.toInt32)] [])) (fun t k => XS.icmpNo X0.here hx rfl (hb hby d10_3) rfl (tlt hc1).2.1 k) ?_
    have hlt := hc1
    refine own_go (b := s₁.setTop (mkF m 7 #[rv src, iv (n.toInt32), rv dst, iv (d.toInt32), iv (i.toInt32)] [(.ref dst)])) (fun t k => XS.aloadN X0.here hx rfl (hb hby d10_6) rfl rfl k) ?_
    refine own_go (b := s₁.setTop (mkF m 8 #[rv src, iv (n.toInt32), rv dst, iv (d.toInt32), iv (i.toInt32)] [(.int (d.toInt32)), (.ref dst)])) (fun t k => XS.iloadN X0.here hx rfl (hb hby d10_7) rfl  k) ?_
    refine own_go (b := s₁.setTop (mkF m 9 #[rv src, iv (n.toInt32), rv dst, iv (d.toInt32), iv (i.toInt32)] [(.ref src), (.int (d.toInt32)), (.ref dst)])) (fun t k => XS.aloadN X0.here hx rfl (hb hby d10_8) rfl rfl k) ?_
    refine own_go (b := s₁.setTop (mkF m 11 #[rv src, iv (n.toInt32), rv dst, iv (d.toInt32), iv (i.toInt32)] [(.int (i.toInt32)), (.ref src), (.int (d.toInt32)), (.ref dst)])) (fun t k => XS.iload X0.here hx rfl (hb hby d10_9) rfl  k) ?_
    obtain ⟨cl2, Ar2, Sz2, Ln2, Hs2⟩ := id Vs
    have hb2 := own_Ai_at Sz2 Ln2 Hs2 (i := i) (by have q := (own_lt32 (i := i) (j := n) (by omega) (by omega)).mp hlt; omega)
    refine own_go (b := s₁.setTop (mkF m 12 #[rv src, iv (n.toInt32), rv dst, iv (d.toInt32), iv (i.toInt32)] [(.int (us.getD i 0)), (.int (d.toInt32)), (.ref dst)])) (fun t k => X0.iaload hx (j := (i.toInt32)) (v := (.int (us.getD i 0))) (by rw [e0]; exact Ar2.1) (State.isArrayOf_alike hZ.alike Ar2.2.1) Ar2.2.2 hb2.1 hb2.2 (g := (mkF m 11 #[rv src, iv (n.toInt32), rv dst, iv (d.toInt32), iv (i.toInt32)] [(.int (i.toInt32)), (.ref src), (.int (d.toInt32)), (.ref dst)])) rfl rfl (hb hby d10_11) t k) ?_
    obtain ⟨_, _, ⟨T3, L3, k3, n3⟩, -, X3, ⟨Lc3, hQ3, l3, y3, z3⟩, st3⟩ := Jvm.LawKit.callS X0 hx (y := (⟨"com/example/axiomloom/axiomloom/reasoner/IntSetToArrayPinLaw", "has", "([III)Z"⟩ : MethodName)) hown (mvT hZ (hw _ (List.mem_of_getElem? (i := 51) rfl))) (mvT hZ (hw _ (List.mem_of_getElem? (i := 52) rfl))) (mvT hZ (hw _ (List.mem_of_getElem? (i := 21) rfl))) (mvT hZ (hw _ (List.mem_of_getElem? (i := 53) rfl))) (by decide) (backOf (W := 0) (rm11 l Z a0 hw [] dst (d.toInt32) (us.getD i 0) ds d h0 n0 Z0 Vd rfl hd hdl (hok i ((own_lt32 (by omega) (by omega)).mp hlt))) hZ (hw _ (List.mem_of_getElem? (i := 53) rfl)) (hw _ (List.mem_of_getElem? (i := 21) rfl)) (by decide) (by decide)) (g := (mkF m 12 #[rv src, iv (n.toInt32), rv dst, iv (d.toInt32), iv (i.toInt32)] [(.int (us.getD i 0)), (.int (d.toInt32)), (.ref dst)])) rfl (by rw [hml]; rfl) (argsL := [(.ref dst), (.int (d.toInt32)), (.int (us.getD i 0))]) (rest := []) (lenOf pd_4 rfl) rfl (by show 2 * 0 + _ ≤ _; exact Nat.le_of_eq rfl) (hb hby d10_12) (fun _ _ => ⟨rfl, e0, (by decide : 0 + 0 ≤ _), (by decide : 0 + 0 ≤ _)⟩)
    dsimp only [Pt.U, Pt.locs, Pt.cells, Pt.slots] at X3 l3 y3 z3 st3 hQ3
    subst l3 y3 z3
    obtain ⟨rfl, N3q, e3⟩ := hQ3
    have N3 := Fr.app N0 N3q
    obtain ⟨lq3, X3, N3⟩ : ∃ lq, Stand p l e ({ frames := 1, cells := 0, slots := 0, locals := 14 } : Room) s m #[(.ref src), (.int ((n.toInt32))), (.ref dst), (.int ((d.toInt32))), (.int ((i.toInt32)))] below meth c T3 lq 0 0 ∧ Fr n0 lq := ⟨_, X3, N3⟩
    refine own_go (b := T3.setTop (mkF m 15 #[rv src, iv (n.toInt32), rv dst, iv (d.toInt32), iv (i.toInt32)] [(.int 1)])) st3 ?_
    refine own_go (b := T3.setTop (mkF m 18 #[rv src, iv (n.toInt32), rv dst, iv (d.toInt32), iv (i.toInt32)] [])) (fun t k => XS.ifNo X3.here hx rfl (hb hby d10_15) rfl ((if0 _ _).trans (feq (by decide : ¬ ((1 : Int32) = (0 : Int32)))).1) k) ?_
    refine own_go (b := T3.setTop (mkF m 19 #[rv src, iv (n.toInt32), rv dst, iv (d.toInt32), iv (i.toInt32)] [(.int 1)])) (fun t k => XS.iconst X3.here hx rfl (hb hby d10_18) k) ?_
    refine own_go (b := T3.setTop (mkF m 23 #[rv src, iv (n.toInt32), rv dst, iv (d.toInt32), iv (i.toInt32)] [(.int 1)])) (fun t k => XS.goto X3.here hx rfl (pc0 := 19) (pc' := 23) rfl (hb hby d10_19) (by decide) (by decide) k) ?_
    exact own_retN X3 hx hlk (t := .boolean) hrt (by simp) (hb hby d10_23) (Nat.le_of_ble_eq_true rfl) (Nat.le_of_ble_eq_true rfl) (⟨by first | rfl | (simp only [eq_true hc1, if_true, if_false]; done) | (simp only [eq_true hc1, if_true, if_false]; rfl) | (simp [eq_true hc1]; done) | (simp [eq_true hc1]; rfl), N3, e3⟩)
  · refine own_go (b := s₁.setTop (mkF m 18 #[rv src, iv (n.toInt32), rv dst, iv (d.toInt32), iv (i.toInt32)] [])) (fun t k => XS.icmpYes X0.here hx rfl (pc0 := 3) (pc' := 18) rfl (hb hby d10_3) rfl (flt hc1).2.1 (by decide) (by decide) k) ?_
    refine own_go (b := s₁.setTop (mkF m 19 #[rv src, iv (n.toInt32), rv dst, iv (d.toInt32), iv (i.toInt32)] [(.int 1)])) (fun t k => XS.iconst X0.here hx rfl (hb hby d10_18) k) ?_
    refine own_go (b := s₁.setTop (mkF m 23 #[rv src, iv (n.toInt32), rv dst, iv (d.toInt32), iv (i.toInt32)] [(.int 1)])) (fun t k => XS.goto X0.here hx rfl (pc0 := 19) (pc' := 23) rfl (hb hby d10_19) (by decide) (by decide) k) ?_
    exact own_retN X0 hx hlk (t := .boolean) hrt (by simp) (hb hby d10_23) (Nat.le_of_ble_eq_true rfl) (Nat.le_of_ble_eq_true rfl) (⟨by first | rfl | (simp only [eq_false hc1, if_true, if_false]; done) | (simp only [eq_false hc1, if_true, if_false]; rfl) | (simp [eq_false hc1]; done) | (simp [eq_false hc1]; rfl), N0, e0⟩)
theorem d9_0 : decode method_8_code 0 = .ok (.aload_n 0, 1) := by decide +kernel
theorem d9_1 : decode method_8_code 1 = .ok (.iload_n 1, 1) := by decide +kernel
theorem d9_2 : decode method_8_code 2 = .ok (.aload_n 2, 1) := by decide +kernel
theorem d9_3 : decode method_8_code 3 = .ok (.iload_n 3, 1) := by decide +kernel
theorem d9_4 : decode method_8_code 4 = .ok (.iconst 0, 1) := by decide +kernel
theorem d9_5 : decode method_8_code 5 = .ok (.invokestatic 43, 3) := by decide +kernel
theorem d9_8 : decode method_8_code 8 = .ok (.ifCond .eq 86, 3) := by decide +kernel
theorem d9_11 : decode method_8_code 11 = .ok (.aload_n 0, 1) := by decide +kernel
theorem d9_12 : decode method_8_code 12 = .ok (.iload_n 1, 1) := by decide +kernel
theorem d9_13 : decode method_8_code 13 = .ok (.aload_n 2, 1) := by decide +kernel
theorem d9_14 : decode method_8_code 14 = .ok (.iload_n 3, 1) := by decide +kernel
theorem d9_15 : decode method_8_code 15 = .ok (.iconst 1, 1) := by decide +kernel
theorem d9_16 : decode method_8_code 16 = .ok (.invokestatic 43, 3) := by decide +kernel
theorem d9_19 : decode method_8_code 19 = .ok (.ifCond .eq 75, 3) := by decide +kernel
theorem d9_22 : decode method_8_code 22 = .ok (.aload_n 0, 1) := by decide +kernel
theorem d9_23 : decode method_8_code 23 = .ok (.iload_n 1, 1) := by decide +kernel
theorem d9_24 : decode method_8_code 24 = .ok (.aload_n 2, 1) := by decide +kernel
theorem d9_25 : decode method_8_code 25 = .ok (.iload_n 3, 1) := by decide +kernel
theorem d9_26 : decode method_8_code 26 = .ok (.iconst 2, 1) := by decide +kernel
theorem d9_27 : decode method_8_code 27 = .ok (.invokestatic 43, 3) := by decide +kernel
theorem d9_30 : decode method_8_code 30 = .ok (.ifCond .eq 64, 3) := by decide +kernel
theorem d9_33 : decode method_8_code 33 = .ok (.aload_n 0, 1) := by decide +kernel
theorem d9_34 : decode method_8_code 34 = .ok (.iload_n 1, 1) := by decide +kernel
theorem d9_35 : decode method_8_code 35 = .ok (.aload_n 2, 1) := by decide +kernel
theorem d9_36 : decode method_8_code 36 = .ok (.iload_n 3, 1) := by decide +kernel
theorem d9_37 : decode method_8_code 37 = .ok (.iconst 3, 1) := by decide +kernel
theorem d9_38 : decode method_8_code 38 = .ok (.invokestatic 43, 3) := by decide +kernel
theorem d9_41 : decode method_8_code 41 = .ok (.ifCond .eq 53, 3) := by decide +kernel
theorem d9_44 : decode method_8_code 44 = .ok (.aload_n 0, 1) := by decide +kernel
theorem d9_45 : decode method_8_code 45 = .ok (.iload_n 1, 1) := by decide +kernel
theorem d9_46 : decode method_8_code 46 = .ok (.aload_n 2, 1) := by decide +kernel
theorem d9_47 : decode method_8_code 47 = .ok (.iload_n 3, 1) := by decide +kernel
theorem d9_48 : decode method_8_code 48 = .ok (.iconst 4, 1) := by decide +kernel
theorem d9_49 : decode method_8_code 49 = .ok (.invokestatic 43, 3) := by decide +kernel
theorem d9_52 : decode method_8_code 52 = .ok (.ifCond .eq 42, 3) := by decide +kernel
theorem d9_55 : decode method_8_code 55 = .ok (.aload_n 0, 1) := by decide +kernel
theorem d9_56 : decode method_8_code 56 = .ok (.iload_n 1, 1) := by decide +kernel
theorem d9_57 : decode method_8_code 57 = .ok (.aload_n 2, 1) := by decide +kernel
theorem d9_58 : decode method_8_code 58 = .ok (.iload_n 3, 1) := by decide +kernel
theorem d9_59 : decode method_8_code 59 = .ok (.iconst 5, 1) := by decide +kernel
theorem d9_60 : decode method_8_code 60 = .ok (.invokestatic 43, 3) := by decide +kernel
theorem d9_63 : decode method_8_code 63 = .ok (.ifCond .eq 31, 3) := by decide +kernel
theorem d9_66 : decode method_8_code 66 = .ok (.aload_n 0, 1) := by decide +kernel
theorem d9_67 : decode method_8_code 67 = .ok (.iload_n 1, 1) := by decide +kernel
theorem d9_68 : decode method_8_code 68 = .ok (.aload_n 2, 1) := by decide +kernel
theorem d9_69 : decode method_8_code 69 = .ok (.iload_n 3, 1) := by decide +kernel
theorem d9_70 : decode method_8_code 70 = .ok (.bipush 6, 2) := by decide +kernel
theorem d9_72 : decode method_8_code 72 = .ok (.invokestatic 43, 3) := by decide +kernel
theorem d9_75 : decode method_8_code 75 = .ok (.ifCond .eq 19, 3) := by decide +kernel
theorem d9_78 : decode method_8_code 78 = .ok (.aload_n 0, 1) := by decide +kernel
theorem d9_79 : decode method_8_code 79 = .ok (.iload_n 1, 1) := by decide +kernel
theorem d9_80 : decode method_8_code 80 = .ok (.aload_n 2, 1) := by decide +kernel
theorem d9_81 : decode method_8_code 81 = .ok (.iload_n 3, 1) := by decide +kernel
theorem d9_82 : decode method_8_code 82 = .ok (.bipush 7, 2) := by decide +kernel
theorem d9_84 : decode method_8_code 84 = .ok (.invokestatic 43, 3) := by decide +kernel
theorem d9_87 : decode method_8_code 87 = .ok (.ifCond .eq 7, 3) := by decide +kernel
theorem d9_90 : decode method_8_code 90 = .ok (.iconst 1, 1) := by decide +kernel
theorem d9_91 : decode method_8_code 91 = .ok (.goto 4, 3) := by decide +kernel
theorem d9_94 : decode method_8_code 94 = .ok (.iconst 0, 1) := by decide +kernel
theorem d9_95 : decode method_8_code 95 = .ok (.ireturn, 1) := by decide +kernel
theorem pd_5 : parseMethodDescriptor "([II[III)Z" = some ⟨[(.array .int), .int, (.array .int), .int, .int], some .boolean⟩ := by decide +kernel
theorem ef_9 (m : MethodId) (src : Addr) (sl : Int32) (dst : Addr) (dl : Int32) : entryFrame m #[(.ref src), (.int sl), (.ref dst), (.int dl)] 4 = mkF m 0 #[rv src, iv sl, rv dst, iv dl] [] := by first | (simp [entryFrame, mkF, argsToLocals, Value.category]; done) | rfl
def Q9 (Z : State) (src : Addr) (sl : Int32) (dst : Addr) (dl : Int32) (us : List Int32) (n : Nat) (ds : List Int32) (d : Nat) (h0 : Heap) (n0 : Nat) (v : Option Value) (h : Heap) (L : List Loc) : Prop := v = some (.int 1) ∧ Fr n0 L ∧ h = h0
set_option maxRecDepth 65536 in
set_option maxHeartbeats 40000000 in
theorem rm9 (l : Launch) (Z : State) (a0 : Array Value) (hw : ∀ d ∈ tables_1, d.before a0 Z = true) (ws : List Jvm.Cond) (src : Addr) (sl : Int32) (dst : Addr) (dl : Int32) (us : List Int32) (n : Nat) (ds : List Int32) (d : Nat) (h0 : Heap) (n0 : Nat) (Z0 : n0 ≤ h0.size) (Vs : own_Ai Z h0 src us) (Vd : own_Ai Z h0 dst ds) (h1 : sl = n.toInt32) (h2 : dl = d.toInt32) (hn : n ≤ 8) (hnl : n ≤ us.length) (hd : d ≤ 8) (hdl : d ≤ ds.length) (hok : ∀ j, j < n → us.getD j 0 ∈ ds.take d) :
    MetFree l (⟨"com/example/axiomloom/axiomloom/reasoner/IntSetToArrayPinLaw", "allIn", "([II[II)Z"⟩ : MethodName) (head1 (Jvm.Cond.code (⟨"com/example/axiomloom/axiomloom/reasoner/IntSetToArrayPinLaw", "allIn", "([II[II)Z"⟩ : MethodName) method_8_code 4 (some .boolean) :: ws) ({ frames := 2, cells := 0, slots := 0, locals := 30 } : Room)) (fun a U => a = #[(.ref src), (.int sl), (.ref dst), (.int dl)] ∧ Z.Warmed39 U.vm ∧ U.heap = h0) (fun _ _ _ _ _ => True) (fun _ U o U' => ∃ v L, o = .returned v ∧ Q9 Z src sl dst dl us n ds d h0 n0 v U'.heap L ∧ FrameEnd U o U' L ({ frames := 2, cells := 0, slots := 0, locals := 30 } : Room).cells ({ frames := 2, cells := 0, slots := 0, locals := 30 } : Room).slots) := by
  refine MetFree.of_bodySF (plainFor_of_name pn_1) hisR ?_
  intro p e s m args below meth c s₁ Bd hml0 hP hK
  obtain ⟨rfl, hZ, hh⟩ := hP
  have hx := Bd.exec
  have hby := Bd.bytes
  have hml : c.maxLocals = 4 := hml0
  have hown : s.vm.findClass "com/example/axiomloom/axiomloom/reasoner/IntSetToArrayPinLaw" = some m.cls := findClass_of_methodNamed Bd.named
  have hnm := (name_of_methodNamed Bd.named Bd.method).1
  have hlk : meth.locks = false := Bd.notSynchronized
  have hrt := Bd.returns
  have X0 : Stand p l e ({ frames := 2, cells := 0, slots := 0, locals := 30 } : Room) s m #[(.ref src), (.int sl), (.ref dst), (.int dl)] below meth c s₁ [] 0 0 := Stand.of_body Bd
  have e0 : s₁.heap = h0 := by rw [← hh, Bd.state]; rfl
  have N0 := Fr.nil n0
  show own_Endz p.tables e below (own_EndQ s ({ frames := 2, cells := 0, slots := 0, locals := 30 } : Room).cells ({ frames := 2, cells := 0, slots := 0, locals := 30 } : Room).slots (Q9 Z src sl dst dl us n ds d h0 n0)) (s₁.setTop (entryFrame m #[(.ref src), (.int sl), (.ref dst), (.int dl)] 4))
  refine own_cast (ef_9 m src sl dst dl) ?_
  subst h1
  subst h2
  refine own_go (b := s₁.setTop (mkF m 1 #[rv src, iv (n.toInt32), rv dst, iv (d.toInt32)] [(.ref src)])) (fun t k => XS.aloadN X0.here hx rfl (hb hby d9_0) rfl rfl k) ?_
  refine own_go (b := s₁.setTop (mkF m 2 #[rv src, iv (n.toInt32), rv dst, iv (d.toInt32)] [(.int (n.toInt32)), (.ref src)])) (fun t k => XS.iloadN X0.here hx rfl (hb hby d9_1) rfl  k) ?_
  refine own_go (b := s₁.setTop (mkF m 3 #[rv src, iv (n.toInt32), rv dst, iv (d.toInt32)] [(.ref dst), (.int (n.toInt32)), (.ref src)])) (fun t k => XS.aloadN X0.here hx rfl (hb hby d9_2) rfl rfl k) ?_
  refine own_go (b := s₁.setTop (mkF m 4 #[rv src, iv (n.toInt32), rv dst, iv (d.toInt32)] [(.int (d.toInt32)), (.ref dst), (.int (n.toInt32)), (.ref src)])) (fun t k => XS.iloadN X0.here hx rfl (hb hby d9_3) rfl  k) ?_
  refine own_go (b := s₁.setTop (mkF m 5 #[rv src, iv (n.toInt32), rv dst, iv (d.toInt32)] [(.int 0), (.int (d.toInt32)), (.ref dst), (.int (n.toInt32)), (.ref src)])) (fun t k => XS.iconst X0.here hx rfl (hb hby d9_4) k) ?_
  obtain ⟨_, _, ⟨T1, L1, k1, n1⟩, -, X1, ⟨Lc1, hQ1, l1, y1, z1⟩, st1⟩ := Jvm.LawKit.callS X0 hx (y := (⟨"com/example/axiomloom/axiomloom/reasoner/IntSetToArrayPinLaw", "okAt", "([II[III)Z"⟩ : MethodName)) hown (mvT hZ (hw _ (List.mem_of_getElem? (i := 48) rfl))) (mvT hZ (hw _ (List.mem_of_getElem? (i := 49) rfl))) (mvT hZ (hw _ (List.mem_of_getElem? (i := 21) rfl))) (mvT hZ (hw _ (List.mem_of_getElem? (i := 50) rfl))) (by decide) (backOf (W := 0) (rm10 l Z a0 hw [] src (n.toInt32) dst (d.toInt32) (0 : Int32) us n ds d 0 h0 n0 Z0 Vs Vd rfl rfl rfl hn hnl hd hdl (by decide) hok) hZ (hw _ (List.mem_of_getElem? (i := 50) rfl)) (hw _ (List.mem_of_getElem? (i := 21) rfl)) (by decide) (by decide)) (g := (mkF m 5 #[rv src, iv (n.toInt32), rv dst, iv (d.toInt32)] [(.int 0), (.int (d.toInt32)), (.ref dst), (.int (n.toInt32)), (.ref src)])) rfl (by rw [hml]; rfl) (argsL := [(.ref src), (.int (n.toInt32)), (.ref dst), (.int (d.toInt32)), (.int 0)]) (rest := []) (lenOf pd_5 rfl) rfl (by show 2 * 0 + _ ≤ _; exact Nat.le_of_eq rfl) (hb hby d9_5) (fun _ _ => ⟨rfl, e0, (by decide : 0 + 0 ≤ _), (by decide : 0 + 0 ≤ _)⟩)
  dsimp only [Pt.U, Pt.locs, Pt.cells, Pt.slots] at X1 l1 y1 z1 st1 hQ1
  subst l1 y1 z1
  obtain ⟨rfl, N1q, e1⟩ := hQ1
  have N1 := Fr.app N0 N1q
  obtain ⟨lq1, X1, N1⟩ : ∃ lq, Stand p l e ({ frames := 2, cells := 0, slots := 0, locals := 30 } : Room) s m #[(.ref src), (.int ((n.toInt32))), (.ref dst), (.int ((d.toInt32)))] below meth c T1 lq 0 0 ∧ Fr n0 lq := ⟨_, X1, N1⟩
  refine own_go (b := T1.setTop (mkF m 8 #[rv src, iv (n.toInt32), rv dst, iv (d.toInt32)] [(.int 1)])) st1 ?_
  refine own_go (b := T1.setTop (mkF m 11 #[rv src, iv (n.toInt32), rv dst, iv (d.toInt32)] [])) (fun t k => XS.ifNo X1.here hx rfl (hb hby d9_8) rfl ((if0 _ _).trans (feq (by decide : ¬ ((1 : Int32) = (0 : Int32)))).1) k) ?_
  refine own_go (b := T1.setTop (mkF m 12 #[rv src, iv (n.toInt32), rv dst, iv (d.toInt32)] [(.ref src)])) (fun t k => XS.aloadN X1.here hx rfl (hb hby d9_11) rfl rfl k) ?_
  refine own_go (b := T1.setTop (mkF m 13 #[rv src, iv (n.toInt32), rv dst, iv (d.toInt32)] [(.int (n.toInt32)), (.ref src)])) (fun t k => XS.iloadN X1.here hx rfl (hb hby d9_12) rfl  k) ?_
  refine own_go (b := T1.setTop (mkF m 14 #[rv src, iv (n.toInt32), rv dst, iv (d.toInt32)] [(.ref dst), (.int (n.toInt32)), (.ref src)])) (fun t k => XS.aloadN X1.here hx rfl (hb hby d9_13) rfl rfl k) ?_
  refine own_go (b := T1.setTop (mkF m 15 #[rv src, iv (n.toInt32), rv dst, iv (d.toInt32)] [(.int (d.toInt32)), (.ref dst), (.int (n.toInt32)), (.ref src)])) (fun t k => XS.iloadN X1.here hx rfl (hb hby d9_14) rfl  k) ?_
  refine own_go (b := T1.setTop (mkF m 16 #[rv src, iv (n.toInt32), rv dst, iv (d.toInt32)] [(.int 1), (.int (d.toInt32)), (.ref dst), (.int (n.toInt32)), (.ref src)])) (fun t k => XS.iconst X1.here hx rfl (hb hby d9_15) k) ?_
  obtain ⟨_, _, ⟨T2, L2, k2, n2⟩, -, X2, ⟨Lc2, hQ2, l2, y2, z2⟩, st2⟩ := Jvm.LawKit.callS X1 hx (y := (⟨"com/example/axiomloom/axiomloom/reasoner/IntSetToArrayPinLaw", "okAt", "([II[III)Z"⟩ : MethodName)) hown (mvT hZ (hw _ (List.mem_of_getElem? (i := 48) rfl))) (mvT hZ (hw _ (List.mem_of_getElem? (i := 49) rfl))) (mvT hZ (hw _ (List.mem_of_getElem? (i := 21) rfl))) (mvT hZ (hw _ (List.mem_of_getElem? (i := 50) rfl))) (by decide) (backOf (W := 0) (rm10 l Z a0 hw [] src (n.toInt32) dst (d.toInt32) (1 : Int32) us n ds d 1 h0 n0 Z0 Vs Vd rfl rfl rfl hn hnl hd hdl (by decide) hok) hZ (hw _ (List.mem_of_getElem? (i := 50) rfl)) (hw _ (List.mem_of_getElem? (i := 21) rfl)) (by decide) (by decide)) (g := (mkF m 16 #[rv src, iv (n.toInt32), rv dst, iv (d.toInt32)] [(.int 1), (.int (d.toInt32)), (.ref dst), (.int (n.toInt32)), (.ref src)])) rfl (by rw [hml]; rfl) (argsL := [(.ref src), (.int (n.toInt32)), (.ref dst), (.int (d.toInt32)), (.int 1)]) (rest := []) (lenOf pd_5 rfl) rfl (by show 2 * 0 + _ ≤ _; exact Nat.le_of_eq rfl) (hb hby d9_16) (fun _ _ => ⟨rfl, e1, (by decide : 0 + 0 ≤ _), (by decide : 0 + 0 ≤ _)⟩)
  dsimp only [Pt.U, Pt.locs, Pt.cells, Pt.slots] at X2 l2 y2 z2 st2 hQ2
  subst l2 y2 z2
  obtain ⟨rfl, N2q, e2⟩ := hQ2
  have N2 := Fr.app N1 N2q
  obtain ⟨lq2, X2, N2⟩ : ∃ lq, Stand p l e ({ frames := 2, cells := 0, slots := 0, locals := 30 } : Room) s m #[(.ref src), (.int ((n.toInt32))), (.ref dst), (.int ((d.toInt32)))] below meth c T2 lq 0 0 ∧ Fr n0 lq := ⟨_, X2, N2⟩
  refine own_go (b := T2.setTop (mkF m 19 #[rv src, iv (n.toInt32), rv dst, iv (d.toInt32)] [(.int 1)])) st2 ?_
  refine own_go (b := T2.setTop (mkF m 22 #[rv src, iv (n.toInt32), rv dst, iv (d.toInt32)] [])) (fun t k => XS.ifNo X2.here hx rfl (hb hby d9_19) rfl ((if0 _ _).trans (feq (by decide : ¬ ((1 : Int32) = (0 : Int32)))).1) k) ?_
  refine own_go (b := T2.setTop (mkF m 23 #[rv src, iv (n.toInt32), rv dst, iv (d.toInt32)] [(.ref src)])) (fun t k => XS.aloadN X2.here hx rfl (hb hby d9_22) rfl rfl k) ?_
  refine own_go (b := T2.setTop (mkF m 24 #[rv src, iv (n.toInt32), rv dst, iv (d.toInt32)] [(.int (n.toInt32)), (.ref src)])) (fun t k => XS.iloadN X2.here hx rfl (hb hby d9_23) rfl  k) ?_
  refine own_go (b := T2.setTop (mkF m 25 #[rv src, iv (n.toInt32), rv dst, iv (d.toInt32)] [(.ref dst), (.int (n.toInt32)), (.ref src)])) (fun t k => XS.aloadN X2.here hx rfl (hb hby d9_24) rfl rfl k) ?_
  refine own_go (b := T2.setTop (mkF m 26 #[rv src, iv (n.toInt32), rv dst, iv (d.toInt32)] [(.int (d.toInt32)), (.ref dst), (.int (n.toInt32)), (.ref src)])) (fun t k => XS.iloadN X2.here hx rfl (hb hby d9_25) rfl  k) ?_
  refine own_go (b := T2.setTop (mkF m 27 #[rv src, iv (n.toInt32), rv dst, iv (d.toInt32)] [(.int 2), (.int (d.toInt32)), (.ref dst), (.int (n.toInt32)), (.ref src)])) (fun t k => XS.iconst X2.here hx rfl (hb hby d9_26) k) ?_
  obtain ⟨_, _, ⟨T3, L3, k3, n3⟩, -, X3, ⟨Lc3, hQ3, l3, y3, z3⟩, st3⟩ := Jvm.LawKit.callS X2 hx (y := (⟨"com/example/axiomloom/axiomloom/reasoner/IntSetToArrayPinLaw", "okAt", "([II[III)Z"⟩ : MethodName)) hown (mvT hZ (hw _ (List.mem_of_getElem? (i := 48) rfl))) (mvT hZ (hw _ (List.mem_of_getElem? (i := 49) rfl))) (mvT hZ (hw _ (List.mem_of_getElem? (i := 21) rfl))) (mvT hZ (hw _ (List.mem_of_getElem? (i := 50) rfl))) (by decide) (backOf (W := 0) (rm10 l Z a0 hw [] src (n.toInt32) dst (d.toInt32) (2 : Int32) us n ds d 2 h0 n0 Z0 Vs Vd rfl rfl rfl hn hnl hd hdl (by decide) hok) hZ (hw _ (List.mem_of_getElem? (i := 50) rfl)) (hw _ (List.mem_of_getElem? (i := 21) rfl)) (by decide) (by decide)) (g := (mkF m 27 #[rv src, iv (n.toInt32), rv dst, iv (d.toInt32)] [(.int 2), (.int (d.toInt32)), (.ref dst), (.int (n.toInt32)), (.ref src)])) rfl (by rw [hml]; rfl) (argsL := [(.ref src), (.int (n.toInt32)), (.ref dst), (.int (d.toInt32)), (.int 2)]) (rest := []) (lenOf pd_5 rfl) rfl (by show 2 * 0 + _ ≤ _; exact Nat.le_of_eq rfl) (hb hby d9_27) (fun _ _ => ⟨rfl, e2, (by decide : 0 + 0 ≤ _), (by decide : 0 + 0 ≤ _)⟩)
  dsimp only [Pt.U, Pt.locs, Pt.cells, Pt.slots] at X3 l3 y3 z3 st3 hQ3
  subst l3 y3 z3
  obtain ⟨rfl, N3q, e3⟩ := hQ3
  have N3 := Fr.app N2 N3q
  obtain ⟨lq3, X3, N3⟩ : ∃ lq, Stand p l e ({ frames := 2, cells := 0, slots := 0, locals := 30 } : Room) s m #[(.ref src), (.int ((n.toInt32))), (.ref dst), (.int ((d.toInt32)))] below meth c T3 lq 0 0 ∧ Fr n0 lq := ⟨_, X3, N3⟩
  refine own_go (b := T3.setTop (mkF m 30 #[rv src, iv (n.toInt32), rv dst, iv (d.toInt32)] [(.int 1)])) st3 ?_
  refine own_go (b := T3.setTop (mkF m 33 #[rv src, iv (n.toInt32), rv dst, iv (d.toInt32)] [])) (fun t k => XS.ifNo X3.here hx rfl (hb hby d9_30) rfl ((if0 _ _).trans (feq (by decide : ¬ ((1 : Int32) = (0 : Int32)))).1) k) ?_
  refine own_go (b := T3.setTop (mkF m 34 #[rv src, iv (n.toInt32), rv dst, iv (d.toInt32)] [(.ref src)])) (fun t k => XS.aloadN X3.here hx rfl (hb hby d9_33) rfl rfl k) ?_
  refine own_go (b := T3.setTop (mkF m 35 #[rv src, iv (n.toInt32), rv dst, iv (d.toInt32)] [(.int (n.toInt32)), (.ref src)])) (fun t k => XS.iloadN X3.here hx rfl (hb hby d9_34) rfl  k) ?_
  refine own_go (b := T3.setTop (mkF m 36 #[rv src, iv (n.toInt32), rv dst, iv (d.toInt32)] [(.ref dst), (.int (n.toInt32)), (.ref src)])) (fun t k => XS.aloadN X3.here hx rfl (hb hby d9_35) rfl rfl k) ?_
  refine own_go (b := T3.setTop (mkF m 37 #[rv src, iv (n.toInt32), rv dst, iv (d.toInt32)] [(.int (d.toInt32)), (.ref dst), (.int (n.toInt32)), (.ref src)])) (fun t k => XS.iloadN X3.here hx rfl (hb hby d9_36) rfl  k) ?_
  refine own_go (b := T3.setTop (mkF m 38 #[rv src, iv (n.toInt32), rv dst, iv (d.toInt32)] [(.int 3), (.int (d.toInt32)), (.ref dst), (.int (n.toInt32)), (.ref src)])) (fun t k => XS.iconst X3.here hx rfl (hb hby d9_37) k) ?_
  obtain ⟨_, _, ⟨T4, L4, k4, n4⟩, -, X4, ⟨Lc4, hQ4, l4, y4, z4⟩, st4⟩ := Jvm.LawKit.callS X3 hx (y := (⟨"com/example/axiomloom/axiomloom/reasoner/IntSetToArrayPinLaw", "okAt", "([II[III)Z"⟩ : MethodName)) hown (mvT hZ (hw _ (List.mem_of_getElem? (i := 48) rfl))) (mvT hZ (hw _ (List.mem_of_getElem? (i := 49) rfl))) (mvT hZ (hw _ (List.mem_of_getElem? (i := 21) rfl))) (mvT hZ (hw _ (List.mem_of_getElem? (i := 50) rfl))) (by decide) (backOf (W := 0) (rm10 l Z a0 hw [] src (n.toInt32) dst (d.toInt32) (3 : Int32) us n ds d 3 h0 n0 Z0 Vs Vd rfl rfl rfl hn hnl hd hdl (by decide) hok) hZ (hw _ (List.mem_of_getElem? (i := 50) rfl)) (hw _ (List.mem_of_getElem? (i := 21) rfl)) (by decide) (by decide)) (g := (mkF m 38 #[rv src, iv (n.toInt32), rv dst, iv (d.toInt32)] [(.int 3), (.int (d.toInt32)), (.ref dst), (.int (n.toInt32)), (.ref src)])) rfl (by rw [hml]; rfl) (argsL := [(.ref src), (.int (n.toInt32)), (.ref dst), (.int (d.toInt32)), (.int 3)]) (rest := []) (lenOf pd_5 rfl) rfl (by show 2 * 0 + _ ≤ _; exact Nat.le_of_eq rfl) (hb hby d9_38) (fun _ _ => ⟨rfl, e3, (by decide : 0 + 0 ≤ _), (by decide : 0 + 0 ≤ _)⟩)
  dsimp only [Pt.U, Pt.locs, Pt.cells, Pt.slots] at X4 l4 y4 z4 st4 hQ4
  subst l4 y4 z4
  obtain ⟨rfl, N4q, e4⟩ := hQ4
  have N4 := Fr.app N3 N4q
  obtain ⟨lq4, X4, N4⟩ : ∃ lq, Stand p l e ({ frames := 2, cells := 0, slots := 0, locals := 30 } : Room) s m #[(.ref src), (.int ((n.toInt32))), (.ref dst), (.int ((d.toInt32)))] below meth c T4 lq 0 0 ∧ Fr n0 lq := ⟨_, X4, N4⟩
  refine own_go (b := T4.setTop (mkF m 41 #[rv src, iv (n.toInt32), rv dst, iv (d.toInt32)] [(.int 1)])) st4 ?_
  refine own_go (b := T4.setTop (mkF m 44 #[rv src, iv (n.toInt32), rv dst, iv (d.toInt32)] [])) (fun t k => XS.ifNo X4.here hx rfl (hb hby d9_41) rfl ((if0 _ _).trans (feq (by decide : ¬ ((1 : Int32) = (0 : Int32)))).1) k) ?_
  refine own_go (b := T4.setTop (mkF m 45 #[rv src, iv (n.toInt32), rv dst, iv (d.toInt32)] [(.ref src)])) (fun t k => XS.aloadN X4.here hx rfl (hb hby d9_44) rfl rfl k) ?_
  refine own_go (b := T4.setTop (mkF m 46 #[rv src, iv (n.toInt32), rv dst, iv (d.toInt32)] [(.int (n.toInt32)), (.ref src)])) (fun t k => XS.iloadN X4.here hx rfl (hb hby d9_45) rfl  k) ?_
  refine own_go (b := T4.setTop (mkF m 47 #[rv src, iv (n.toInt32), rv dst, iv (d.toInt32)] [(.ref dst), (.int (n.toInt32)), (.ref src)])) (fun t k => XS.aloadN X4.here hx rfl (hb hby d9_46) rfl rfl k) ?_
  refine own_go (b := T4.setTop (mkF m 48 #[rv src, iv (n.toInt32), rv dst, iv (d.toInt32)] [(.int (d.toInt32)), (.ref dst), (.int (n.toInt32)), (.ref src)])) (fun t k => XS.iloadN X4.here hx rfl (hb hby d9_47) rfl  k) ?_
  refine own_go (b := T4.setTop (mkF m 49 #[rv src, iv (n.toInt32), rv dst, iv (d.toInt32)] [(.int 4), (.int (d.toInt32)), (.ref dst), (.int (n.toInt32)), (.ref src)])) (fun t k => XS.iconst X4.here hx rfl (hb hby d9_48) k) ?_
  obtain ⟨_, _, ⟨T5, L5, k5, n5⟩, -, X5, ⟨Lc5, hQ5, l5, y5, z5⟩, st5⟩ := Jvm.LawKit.callS X4 hx (y := (⟨"com/example/axiomloom/axiomloom/reasoner/IntSetToArrayPinLaw", "okAt", "([II[III)Z"⟩ : MethodName)) hown (mvT hZ (hw _ (List.mem_of_getElem? (i := 48) rfl))) (mvT hZ (hw _ (List.mem_of_getElem? (i := 49) rfl))) (mvT hZ (hw _ (List.mem_of_getElem? (i := 21) rfl))) (mvT hZ (hw _ (List.mem_of_getElem? (i := 50) rfl))) (by decide) (backOf (W := 0) (rm10 l Z a0 hw [] src (n.toInt32) dst (d.toInt32) (4 : Int32) us n ds d 4 h0 n0 Z0 Vs Vd rfl rfl rfl hn hnl hd hdl (by decide) hok) hZ (hw _ (List.mem_of_getElem? (i := 50) rfl)) (hw _ (List.mem_of_getElem? (i := 21) rfl)) (by decide) (by decide)) (g := (mkF m 49 #[rv src, iv (n.toInt32), rv dst, iv (d.toInt32)] [(.int 4), (.int (d.toInt32)), (.ref dst), (.int (n.toInt32)), (.ref src)])) rfl (by rw [hml]; rfl) (argsL := [(.ref src), (.int (n.toInt32)), (.ref dst), (.int (d.toInt32)), (.int 4)]) (rest := []) (lenOf pd_5 rfl) rfl (by show 2 * 0 + _ ≤ _; exact Nat.le_of_eq rfl) (hb hby d9_49) (fun _ _ => ⟨rfl, e4, (by decide : 0 + 0 ≤ _), (by decide : 0 + 0 ≤ _)⟩)
  dsimp only [Pt.U, Pt.locs, Pt.cells, Pt.slots] at X5 l5 y5 z5 st5 hQ5
  subst l5 y5 z5
  obtain ⟨rfl, N5q, e5⟩ := hQ5
  have N5 := Fr.app N4 N5q
  obtain ⟨lq5, X5, N5⟩ : ∃ lq, Stand p l e ({ frames := 2, cells := 0, slots := 0, locals := 30 } : Room) s m #[(.ref src), (.int ((n.toInt32))), (.ref dst), (.int ((d.toInt32)))] below meth c T5 lq 0 0 ∧ Fr n0 lq := ⟨_, X5, N5⟩
  refine own_go (b := T5.setTop (mkF m 52 #[rv src, iv (n.toInt32), rv dst, iv (d.toInt32)] [(.int 1)])) st5 ?_
  refine own_go (b := T5.setTop (mkF m 55 #[rv src, iv (n.toInt32), rv dst, iv (d.toInt32)] [])) (fun t k => XS.ifNo X5.here hx rfl (hb hby d9_52) rfl ((if0 _ _).trans (feq (by decide : ¬ ((1 : Int32) = (0 : Int32)))).1) k) ?_
  refine own_go (b := T5.setTop (mkF m 56 #[rv src, iv (n.toInt32), rv dst, iv (d.toInt32)] [(.ref src)])) (fun t k => XS.aloadN X5.here hx rfl (hb hby d9_55) rfl rfl k) ?_
  refine own_go (b := T5.setTop (mkF m 57 #[rv src, iv (n.toInt32), rv dst, iv (d.toInt32)] [(.int (n.toInt32)), (.ref src)])) (fun t k => XS.iloadN X5.here hx rfl (hb hby d9_56) rfl  k) ?_
  refine own_go (b := T5.setTop (mkF m 58 #[rv src, iv (n.toInt32), rv dst, iv (d.toInt32)] [(.ref dst), (.int (n.toInt32)), (.ref src)])) (fun t k => XS.aloadN X5.here hx rfl (hb hby d9_57) rfl rfl k) ?_
  refine own_go (b := T5.setTop (mkF m 59 #[rv src, iv (n.toInt32), rv dst, iv (d.toInt32)] [(.int (d.toInt32)), (.ref dst), (.int (n.toInt32)), (.ref src)])) (fun t k => XS.iloadN X5.here hx rfl (hb hby d9_58) rfl  k) ?_
  refine own_go (b := T5.setTop (mkF m 60 #[rv src, iv (n.toInt32), rv dst, iv (d.toInt32)] [(.int 5), (.int (d.toInt32)), (.ref dst), (.int (n.toInt32)), (.ref src)])) (fun t k => XS.iconst X5.here hx rfl (hb hby d9_59) k) ?_
  obtain ⟨_, _, ⟨T6, L6, k6, n6⟩, -, X6, ⟨Lc6, hQ6, l6, y6, z6⟩, st6⟩ := Jvm.LawKit.callS X5 hx (y := (⟨"com/example/axiomloom/axiomloom/reasoner/IntSetToArrayPinLaw", "okAt", "([II[III)Z"⟩ : MethodName)) hown (mvT hZ (hw _ (List.mem_of_getElem? (i := 48) rfl))) (mvT hZ (hw _ (List.mem_of_getElem? (i := 49) rfl))) (mvT hZ (hw _ (List.mem_of_getElem? (i := 21) rfl))) (mvT hZ (hw _ (List.mem_of_getElem? (i := 50) rfl))) (by decide) (backOf (W := 0) (rm10 l Z a0 hw [] src (n.toInt32) dst (d.toInt32) (5 : Int32) us n ds d 5 h0 n0 Z0 Vs Vd rfl rfl rfl hn hnl hd hdl (by decide) hok) hZ (hw _ (List.mem_of_getElem? (i := 50) rfl)) (hw _ (List.mem_of_getElem? (i := 21) rfl)) (by decide) (by decide)) (g := (mkF m 60 #[rv src, iv (n.toInt32), rv dst, iv (d.toInt32)] [(.int 5), (.int (d.toInt32)), (.ref dst), (.int (n.toInt32)), (.ref src)])) rfl (by rw [hml]; rfl) (argsL := [(.ref src), (.int (n.toInt32)), (.ref dst), (.int (d.toInt32)), (.int 5)]) (rest := []) (lenOf pd_5 rfl) rfl (by show 2 * 0 + _ ≤ _; exact Nat.le_of_eq rfl) (hb hby d9_60) (fun _ _ => ⟨rfl, e5, (by decide : 0 + 0 ≤ _), (by decide : 0 + 0 ≤ _)⟩)
  dsimp only [Pt.U, Pt.locs, Pt.cells, Pt.slots] at X6 l6 y6 z6 st6 hQ6
  subst l6 y6 z6
  obtain ⟨rfl, N6q, e6⟩ := hQ6
  have N6 := Fr.app N5 N6q
  obtain ⟨lq6, X6, N6⟩ : ∃ lq, Stand p l e ({ frames := 2, cells := 0, slots := 0, locals := 30 } : Room) s m #[(.ref src), (.int ((n.toInt32))), (.ref dst), (.int ((d.toInt32)))] below meth c T6 lq 0 0 ∧ Fr n0 lq := ⟨_, X6, N6⟩
  refine own_go (b := T6.setTop (mkF m 63 #[rv src, iv (n.toInt32), rv dst, iv (d.toInt32)] [(.int 1)])) st6 ?_
  refine own_go (b := T6.setTop (mkF m 66 #[rv src, iv (n.toInt32), rv dst, iv (d.toInt32)] [])) (fun t k => XS.ifNo X6.here hx rfl (hb hby d9_63) rfl ((if0 _ _).trans (feq (by decide : ¬ ((1 : Int32) = (0 : Int32)))).1) k) ?_
  refine own_go (b := T6.setTop (mkF m 67 #[rv src, iv (n.toInt32), rv dst, iv (d.toInt32)] [(.ref src)])) (fun t k => XS.aloadN X6.here hx rfl (hb hby d9_66) rfl rfl k) ?_
  refine own_go (b := T6.setTop (mkF m 68 #[rv src, iv (n.toInt32), rv dst, iv (d.toInt32)] [(.int (n.toInt32)), (.ref src)])) (fun t k => XS.iloadN X6.here hx rfl (hb hby d9_67) rfl  k) ?_
  refine own_go (b := T6.setTop (mkF m 69 #[rv src, iv (n.toInt32), rv dst, iv (d.toInt32)] [(.ref dst), (.int (n.toInt32)), (.ref src)])) (fun t k => XS.aloadN X6.here hx rfl (hb hby d9_68) rfl rfl k) ?_
  refine own_go (b := T6.setTop (mkF m 70 #[rv src, iv (n.toInt32), rv dst, iv (d.toInt32)] [(.int (d.toInt32)), (.ref dst), (.int (n.toInt32)), (.ref src)])) (fun t k => XS.iloadN X6.here hx rfl (hb hby d9_69) rfl  k) ?_
  refine own_go (b := T6.setTop (mkF m 72 #[rv src, iv (n.toInt32), rv dst, iv (d.toInt32)] [(.int 6), (.int (d.toInt32)), (.ref dst), (.int (n.toInt32)), (.ref src)])) (fun t k => XS.bipush X6.here hx rfl (hb hby d9_70) k) ?_
  obtain ⟨_, _, ⟨T7, L7, k7, n7⟩, -, X7, ⟨Lc7, hQ7, l7, y7, z7⟩, st7⟩ := Jvm.LawKit.callS X6 hx (y := (⟨"com/example/axiomloom/axiomloom/reasoner/IntSetToArrayPinLaw", "okAt", "([II[III)Z"⟩ : MethodName)) hown (mvT hZ (hw _ (List.mem_of_getElem? (i := 48) rfl))) (mvT hZ (hw _ (List.mem_of_getElem? (i := 49) rfl))) (mvT hZ (hw _ (List.mem_of_getElem? (i := 21) rfl))) (mvT hZ (hw _ (List.mem_of_getElem? (i := 50) rfl))) (by decide) (backOf (W := 0) (rm10 l Z a0 hw [] src (n.toInt32) dst (d.toInt32) (6 : Int32) us n ds d 6 h0 n0 Z0 Vs Vd rfl rfl rfl hn hnl hd hdl (by decide) hok) hZ (hw _ (List.mem_of_getElem? (i := 50) rfl)) (hw _ (List.mem_of_getElem? (i := 21) rfl)) (by decide) (by decide)) (g := (mkF m 72 #[rv src, iv (n.toInt32), rv dst, iv (d.toInt32)] [(.int 6), (.int (d.toInt32)), (.ref dst), (.int (n.toInt32)), (.ref src)])) rfl (by rw [hml]; rfl) (argsL := [(.ref src), (.int (n.toInt32)), (.ref dst), (.int (d.toInt32)), (.int 6)]) (rest := []) (lenOf pd_5 rfl) rfl (by show 2 * 0 + _ ≤ _; exact Nat.le_of_eq rfl) (hb hby d9_72) (fun _ _ => ⟨rfl, e6, (by decide : 0 + 0 ≤ _), (by decide : 0 + 0 ≤ _)⟩)
  dsimp only [Pt.U, Pt.locs, Pt.cells, Pt.slots] at X7 l7 y7 z7 st7 hQ7
  subst l7 y7 z7
  obtain ⟨rfl, N7q, e7⟩ := hQ7
  have N7 := Fr.app N6 N7q
  obtain ⟨lq7, X7, N7⟩ : ∃ lq, Stand p l e ({ frames := 2, cells := 0, slots := 0, locals := 30 } : Room) s m #[(.ref src), (.int ((n.toInt32))), (.ref dst), (.int ((d.toInt32)))] below meth c T7 lq 0 0 ∧ Fr n0 lq := ⟨_, X7, N7⟩
  refine own_go (b := T7.setTop (mkF m 75 #[rv src, iv (n.toInt32), rv dst, iv (d.toInt32)] [(.int 1)])) st7 ?_
  refine own_go (b := T7.setTop (mkF m 78 #[rv src, iv (n.toInt32), rv dst, iv (d.toInt32)] [])) (fun t k => XS.ifNo X7.here hx rfl (hb hby d9_75) rfl ((if0 _ _).trans (feq (by decide : ¬ ((1 : Int32) = (0 : Int32)))).1) k) ?_
  refine own_go (b := T7.setTop (mkF m 79 #[rv src, iv (n.toInt32), rv dst, iv (d.toInt32)] [(.ref src)])) (fun t k => XS.aloadN X7.here hx rfl (hb hby d9_78) rfl rfl k) ?_
  refine own_go (b := T7.setTop (mkF m 80 #[rv src, iv (n.toInt32), rv dst, iv (d.toInt32)] [(.int (n.toInt32)), (.ref src)])) (fun t k => XS.iloadN X7.here hx rfl (hb hby d9_79) rfl  k) ?_
  refine own_go (b := T7.setTop (mkF m 81 #[rv src, iv (n.toInt32), rv dst, iv (d.toInt32)] [(.ref dst), (.int (n.toInt32)), (.ref src)])) (fun t k => XS.aloadN X7.here hx rfl (hb hby d9_80) rfl rfl k) ?_
  refine own_go (b := T7.setTop (mkF m 82 #[rv src, iv (n.toInt32), rv dst, iv (d.toInt32)] [(.int (d.toInt32)), (.ref dst), (.int (n.toInt32)), (.ref src)])) (fun t k => XS.iloadN X7.here hx rfl (hb hby d9_81) rfl  k) ?_
  refine own_go (b := T7.setTop (mkF m 84 #[rv src, iv (n.toInt32), rv dst, iv (d.toInt32)] [(.int 7), (.int (d.toInt32)), (.ref dst), (.int (n.toInt32)), (.ref src)])) (fun t k => XS.bipush X7.here hx rfl (hb hby d9_82) k) ?_
  obtain ⟨_, _, ⟨T8, L8, k8, n8⟩, -, X8, ⟨Lc8, hQ8, l8, y8, z8⟩, st8⟩ := Jvm.LawKit.callS X7 hx (y := (⟨"com/example/axiomloom/axiomloom/reasoner/IntSetToArrayPinLaw", "okAt", "([II[III)Z"⟩ : MethodName)) hown (mvT hZ (hw _ (List.mem_of_getElem? (i := 48) rfl))) (mvT hZ (hw _ (List.mem_of_getElem? (i := 49) rfl))) (mvT hZ (hw _ (List.mem_of_getElem? (i := 21) rfl))) (mvT hZ (hw _ (List.mem_of_getElem? (i := 50) rfl))) (by decide) (backOf (W := 0) (rm10 l Z a0 hw [] src (n.toInt32) dst (d.toInt32) (7 : Int32) us n ds d 7 h0 n0 Z0 Vs Vd rfl rfl rfl hn hnl hd hdl (by decide) hok) hZ (hw _ (List.mem_of_getElem? (i := 50) rfl)) (hw _ (List.mem_of_getElem? (i := 21) rfl)) (by decide) (by decide)) (g := (mkF m 84 #[rv src, iv (n.toInt32), rv dst, iv (d.toInt32)] [(.int 7), (.int (d.toInt32)), (.ref dst), (.int (n.toInt32)), (.ref src)])) rfl (by rw [hml]; rfl) (argsL := [(.ref src), (.int (n.toInt32)), (.ref dst), (.int (d.toInt32)), (.int 7)]) (rest := []) (lenOf pd_5 rfl) rfl (by show 2 * 0 + _ ≤ _; exact Nat.le_of_eq rfl) (hb hby d9_84) (fun _ _ => ⟨rfl, e7, (by decide : 0 + 0 ≤ _), (by decide : 0 + 0 ≤ _)⟩)
  dsimp only [Pt.U, Pt.locs, Pt.cells, Pt.slots] at X8 l8 y8 z8 st8 hQ8
  subst l8 y8 z8
  obtain ⟨rfl, N8q, e8⟩ := hQ8
  have N8 := Fr.app N7 N8q
  obtain ⟨lq8, X8, N8⟩ : ∃ lq, Stand p l e ({ frames := 2, cells := 0, slots := 0, locals := 30 } : Room) s m #[(.ref src), (.int ((n.toInt32))), (.ref dst), (.int ((d.toInt32)))] below meth c T8 lq 0 0 ∧ Fr n0 lq := ⟨_, X8, N8⟩
  refine own_go (b := T8.setTop (mkF m 87 #[rv src, iv (n.toInt32), rv dst, iv (d.toInt32)] [(.int 1)])) st8 ?_
  refine own_go (b := T8.setTop (mkF m 90 #[rv src, iv (n.toInt32), rv dst, iv (d.toInt32)] [])) (fun t k => XS.ifNo X8.here hx rfl (hb hby d9_87) rfl ((if0 _ _).trans (feq (by decide : ¬ ((1 : Int32) = (0 : Int32)))).1) k) ?_
  refine own_go (b := T8.setTop (mkF m 91 #[rv src, iv (n.toInt32), rv dst, iv (d.toInt32)] [(.int 1)])) (fun t k => XS.iconst X8.here hx rfl (hb hby d9_90) k) ?_
  refine own_go (b := T8.setTop (mkF m 95 #[rv src, iv (n.toInt32), rv dst, iv (d.toInt32)] [(.int 1)])) (fun t k => XS.goto X8.here hx rfl (pc0 := 91) (pc' := 95) rfl (hb hby d9_91) (by decide) (by decide) k) ?_
  exact own_retN X8 hx hlk (t := .boolean) hrt (by simp) (hb hby d9_95) (Nat.le_of_ble_eq_true rfl) (Nat.le_of_ble_eq_true rfl) (⟨by first | rfl | (simp only [if_true, if_true, if_false]; done) | (simp only [if_true, if_true, if_false]; rfl) | (simp []; done) | (simp []; rfl), N8, e8⟩)
theorem pd_6 : parseMethodDescriptor "(Lcom/example/axiomloom/axiomloom/reasoner/IntSet;[III)V" = some ⟨[(.object "com/example/axiomloom/axiomloom/reasoner/IntSet"), (.array .int), .int, .int], none⟩ := by decide +kernel
theorem pd_7 : parseMethodDescriptor "()[I" = some ⟨[], some (.array .int)⟩ := by decide +kernel
theorem pd_8 : parseMethodDescriptor "([II[II)Z" = some ⟨[(.array .int), .int, (.array .int), .int], some .boolean⟩ := by decide +kernel
theorem ef_0 (m : MethodId) (pr : Int64) (qr : Int64) (rr : Int64) (sr : Int64) (nr : Int32) : entryFrame m #[(.long pr), (.long qr), (.long rr), (.long sr), (.int nr)] maxLocals = mkF m 0 #[.val (.long pr), .second, .val (.long qr), .second, .val (.long rr), .second, .val (.long sr), .second, iv nr, .unset, .unset, .unset, .unset, .unset, .unset, .unset] [] := by first | (simp [entryFrame, mkF, argsToLocals, Value.category, maxLocals]; done) | rfl
def Q0 (Z : State) (pr : Int64) (qr : Int64) (rr : Int64) (sr : Int64) (nr : Int32) (h0 : Heap) (n0 : Nat) (v : Option Value) (h : Heap) (L : List Loc) : Prop := v = some (.int 1) ∧ Fr n0 L
set_option maxRecDepth 65536 in
set_option maxHeartbeats 40000000 in
theorem rm0 (l : Launch) (Z : State) (a0 : Array Value) (hw : ∀ d ∈ tables_1, d.before a0 Z = true) (ws : List Jvm.Cond) (pr : Int64) (qr : Int64) (rr : Int64) (sr : Int64) (nr : Int32) (h0 : Heap) (n0 : Nat) (Z0 : n0 ≤ h0.size) (SF : Sta Z Z.heap "com/example/axiomloom/axiomloom/reasoner/IntSet" "FIRST_SHIFT" "I" (.int 29)) (Od : Old Z n0 h0) :
    MetFree l x (head1 (Jvm.Cond.code x code maxLocals ret :: ws) room_1) (fun a U => a = #[(.long pr), (.long qr), (.long rr), (.long sr), (.int nr)] ∧ Z.Warmed39 U.vm ∧ U.heap = h0) (fun _ _ _ _ _ => True) (fun _ U o U' => ∃ v L, o = .returned v ∧ Q0 Z pr qr rr sr nr h0 n0 v U'.heap L ∧ FrameEnd U o U' L room_1.cells room_1.slots) := by
  refine MetFree.of_bodySF (plainFor_of_name pn_1) hisR ?_
  intro p e s m args below meth c s₁ Bd hml0 hP hK
  obtain ⟨rfl, hZ, hh⟩ := hP
  have hx := Bd.exec
  have hby := Bd.bytes
  have hml : c.maxLocals = 16 := hml0
  have hown : s.vm.findClass "com/example/axiomloom/axiomloom/reasoner/IntSetToArrayPinLaw" = some m.cls := findClass_of_methodNamed Bd.named
  have hnm := (name_of_methodNamed Bd.named Bd.method).1
  have hlk : meth.locks = false := Bd.notSynchronized
  have hrt := Bd.returns
  have X0 : Stand p l e room_1 s m #[(.long pr), (.long qr), (.long rr), (.long sr), (.int nr)] below meth c s₁ [] 0 0 := Stand.of_body Bd
  have e0 : s₁.heap = h0 := by rw [← hh, Bd.state]; rfl
  have N0 := Fr.nil n0
  show own_Endz p.tables e below (own_EndQ s room_1.cells room_1.slots (Q0 Z pr qr rr sr nr h0 n0)) (s₁.setTop (entryFrame m #[(.long pr), (.long qr), (.long rr), (.long sr), (.int nr)] maxLocals))
  refine own_cast (ef_0 m pr qr rr sr nr) ?_
  have J39 : ∀ (TJ : State) (XJ : Stand p l e room_1 s m #[(.long pr), (.long qr), (.long rr), (.long sr), (.int nr)] below meth c TJ [] 0 0) (eJ : TJ.heap = h0) (sm mk : Int32) (cnt : Nat) (hcnt : cnt ≤ 8) (hmk : 0 ≤ mk.toInt), own_Endz p.tables e below (own_EndQ s room_1.cells room_1.slots (Q0 Z pr qr rr sr nr h0 n0)) (TJ.setTop (mkF m 39 #[.val (.long pr), .second, .val (.long qr), .second, .val (.long rr), .second, .val (.long sr), .second, iv nr, iv sm, iv (cnt.toInt32), iv mk, .unset, .unset, .unset, .unset] [])) := by
    intro TJ XJ eJ sm mk cnt hcnt hmk
    refine own_go (b := TJ.setTop (mkF m 41 #[.val (.long pr), .second, .val (.long qr), .second, .val (.long rr), .second, .val (.long sr), .second, iv nr, iv sm, iv (cnt.toInt32), iv mk, .unset, .unset, .unset, .unset] [(.int 8)])) (fun t k => XS.bipush XJ.here hx rfl (hb hby at_39) k) ?_
    obtain ⟨T1, h1, k1, X1, e1, E1, A1, st1⟩ := newP XJ hx hZ (hw _ (List.mem_of_getElem? (i := 3) rfl)) eJ (g := (mkF m 41 #[.val (.long pr), .second, .val (.long qr), .second, .val (.long rr), .second, .val (.long sr), .second, iv nr, iv sm, iv (cnt.toInt32), iv mk, .unset, .unset, .unset, .unset] [(.int 8)])) rfl (hb hby at_41) rfl (by decide) (cap := 8) (by decide) (by decide) (by decide) (by decide)
    obtain ⟨b1, g1⟩ : ∃ z, z = h0.size := ⟨_, rfl⟩
    rw [← g1] at A1 st1
    have g_b1 : n0 ≤ b1 := Nat.le_trans Z0 (Nat.le_of_eq g1.symm)
    have Zs1 : n0 ≤ h1.size := Nat.le_trans Z0 E1.1
    have Ol1 := Od.ext E1
    have V_b1 : own_Ai Z h1 b1 (List.replicate 8 0) := own_Ai_new (n := 8) (by decide) A1
    refine own_go (b := T1.setTop (mkF m 43 #[.val (.long pr), .second, .val (.long qr), .second, .val (.long rr), .second, .val (.long sr), .second, iv nr, iv sm, iv (cnt.toInt32), iv mk, .unset, .unset, .unset, .unset] [(.ref b1)])) st1 ?_
    refine own_go (b := T1.setTop (mkF m 45 #[.val (.long pr), .second, .val (.long qr), .second, .val (.long rr), .second, .val (.long sr), .second, iv nr, iv sm, iv (cnt.toInt32), iv mk, rv b1, .unset, .unset, .unset] [])) (fun t k => XS.astore X1.here hx rfl (hb hby at_43) rfl rfl (l' := #[.val (.long pr), .second, .val (.long qr), .second, .val (.long rr), .second, .val (.long sr), .second, iv nr, iv sm, iv (cnt.toInt32), iv mk, rv b1, .unset, .unset, .unset]) rfl k) ?_
    refine own_go (b := T1.setTop (mkF m 47 #[.val (.long pr), .second, .val (.long qr), .second, .val (.long rr), .second, .val (.long sr), .second, iv nr, iv sm, iv (cnt.toInt32), iv mk, rv b1, .unset, .unset, .unset] [(.ref b1)])) (fun t k => XS.aload X1.here hx rfl (hb hby at_45) rfl rfl k) ?_
    refine own_go (b := T1.setTop (mkF m 48 #[.val (.long pr), .second, .val (.long qr), .second, .val (.long rr), .second, .val (.long sr), .second, iv nr, iv sm, iv (cnt.toInt32), iv mk, rv b1, .unset, .unset, .unset] [(.int 0), (.ref b1)])) (fun t k => XS.iconst X1.here hx rfl (hb hby at_47) k) ?_
    refine own_go (b := T1.setTop (mkF m 49 #[.val (.long pr), .second, .val (.long qr), .second, .val (.long rr), .second, .val (.long sr), .second, iv nr, iv sm, iv (cnt.toInt32), iv mk, rv b1, .unset, .unset, .unset] [(.long pr), (.int 0), (.ref b1)])) (fun t k => XS.lloadN X1.here hx rfl (hb hby at_48) rfl  k) ?_
    refine own_go (b := T1.setTop (mkF m 51 #[.val (.long pr), .second, .val (.long qr), .second, .val (.long rr), .second, .val (.long sr), .second, iv nr, iv sm, iv (cnt.toInt32), iv mk, rv b1, .unset, .unset, .unset] [(.int 32), (.long pr), (.int 0), (.ref b1)])) (fun t k => XS.bipush X1.here hx rfl (hb hby at_49) k) ?_
    refine own_go (b := T1.setTop (mkF m 52 #[.val (.long pr), .second, .val (.long qr), .second, .val (.long rr), .second, .val (.long sr), .second, iv nr, iv sm, iv (cnt.toInt32), iv mk, rv b1, .unset, .unset, .unset] [(.long ((pr.toUInt64 >>> ((32 : Int32) &&& 0x3f).toInt64.toUInt64).toInt64)), (.int 0), (.ref b1)])) (fun t k => XS.lushr X1.here hx rfl (hb hby at_51) rfl k) ?_
    refine own_go (b := T1.setTop (mkF m 53 #[.val (.long pr), .second, .val (.long qr), .second, .val (.long rr), .second, .val (.long sr), .second, iv nr, iv sm, iv (cnt.toInt32), iv mk, rv b1, .unset, .unset, .unset] [(.int (((pr.toUInt64 >>> ((32 : Int32) &&& 0x3f).toInt64.toUInt64).toInt64).toInt32)), (.int 0), (.ref b1)])) (fun t k => XS.l2i X1.here hx rfl (hb hby at_52) rfl k) ?_
    refine own_go (b := T1.setTop (mkF m 55 #[.val (.long pr), .second, .val (.long qr), .second, .val (.long rr), .second, .val (.long sr), .second, iv nr, iv sm, iv (cnt.toInt32), iv mk, rv b1, .unset, .unset, .unset] [(.int mk), (.int (((pr.toUInt64 >>> ((32 : Int32) &&& 0x3f).toInt64.toUInt64).toInt64).toInt32)), (.int 0), (.ref b1)])) (fun t k => XS.iload X1.here hx rfl (hb hby at_53) rfl  k) ?_
    refine own_go (b := T1.setTop (mkF m 56 #[.val (.long pr), .second, .val (.long qr), .second, .val (.long rr), .second, .val (.long sr), .second, iv nr, iv sm, iv (cnt.toInt32), iv mk, rv b1, .unset, .unset, .unset] [(.int ((((pr.toUInt64 >>> ((32 : Int32) &&& 0x3f).toInt64.toUInt64).toInt64).toInt32) &&& mk)), (.int 0), (.ref b1)])) (fun t k => XS.iand X1.here hx rfl (hb hby at_55) rfl k) ?_
    obtain ⟨cl2, Ar2, Sz2, Ln2, Hs2⟩ := id V_b1
    obtain ⟨T3, h3, X3, e3, W3, st3⟩ := stI X1 hx hZ e1 Ar2 (j := (0 : Int32)) (own_Ai_at Sz2 Ln2 Hs2 (i := 0) (by simp only [List.length_set, List.length_replicate]; omega)).1 (g := (mkF m 56 #[.val (.long pr), .second, .val (.long qr), .second, .val (.long rr), .second, .val (.long sr), .second, iv nr, iv sm, iv (cnt.toInt32), iv mk, rv b1, .unset, .unset, .unset] [(.int ((((pr.toUInt64 >>> ((32 : Int32) &&& 0x3f).toInt64.toUInt64).toInt64).toInt32) &&& mk)), (.int 0), (.ref b1)])) rfl rfl (hb hby at_56)
    have V_b1_3 : own_Ai Z h3 b1 ((List.replicate 8 (0 : Int32)).set 0 ((((pr.toUInt64 >>> ((32 : Int32) &&& 0x3f).toInt64.toUInt64).toInt64).toInt32) &&& mk)) := own_Ai_set Ar2 Sz2 Ln2 Hs2 (i := 0) (by simp only [List.length_set, List.length_replicate]; omega) W3
    have Zs3 : n0 ≤ h3.size := Nat.le_trans Zs1 (Keep.of_wr W3).1
    have N3 := Fr.snoc X3 N0 g_b1
    have Ol3 := Ol1.wr W3 g_b1
    refine own_go (b := T3.setTop (mkF m 57 #[.val (.long pr), .second, .val (.long qr), .second, .val (.long rr), .second, .val (.long sr), .second, iv nr, iv sm, iv (cnt.toInt32), iv mk, rv b1, .unset, .unset, .unset] [])) st3 ?_
    refine own_go (b := T3.setTop (mkF m 59 #[.val (.long pr), .second, .val (.long qr), .second, .val (.long rr), .second, .val (.long sr), .second, iv nr, iv sm, iv (cnt.toInt32), iv mk, rv b1, .unset, .unset, .unset] [(.ref b1)])) (fun t k => XS.aload X3.here hx rfl (hb hby at_57) rfl rfl k) ?_
    refine own_go (b := T3.setTop (mkF m 60 #[.val (.long pr), .second, .val (.long qr), .second, .val (.long rr), .second, .val (.long sr), .second, iv nr, iv sm, iv (cnt.toInt32), iv mk, rv b1, .unset, .unset, .unset] [(.int 1), (.ref b1)])) (fun t k => XS.iconst X3.here hx rfl (hb hby at_59) k) ?_
    refine own_go (b := T3.setTop (mkF m 61 #[.val (.long pr), .second, .val (.long qr), .second, .val (.long rr), .second, .val (.long sr), .second, iv nr, iv sm, iv (cnt.toInt32), iv mk, rv b1, .unset, .unset, .unset] [(.long pr), (.int 1), (.ref b1)])) (fun t k => XS.lloadN X3.here hx rfl (hb hby at_60) rfl  k) ?_
    refine own_go (b := T3.setTop (mkF m 62 #[.val (.long pr), .second, .val (.long qr), .second, .val (.long rr), .second, .val (.long sr), .second, iv nr, iv sm, iv (cnt.toInt32), iv mk, rv b1, .unset, .unset, .unset] [(.int (pr.toInt32)), (.int 1), (.ref b1)])) (fun t k => XS.l2i X3.here hx rfl (hb hby at_61) rfl k) ?_
    refine own_go (b := T3.setTop (mkF m 64 #[.val (.long pr), .second, .val (.long qr), .second, .val (.long rr), .second, .val (.long sr), .second, iv nr, iv sm, iv (cnt.toInt32), iv mk, rv b1, .unset, .unset, .unset] [(.int mk), (.int (pr.toInt32)), (.int 1), (.ref b1)])) (fun t k => XS.iload X3.here hx rfl (hb hby at_62) rfl  k) ?_
    refine own_go (b := T3.setTop (mkF m 65 #[.val (.long pr), .second, .val (.long qr), .second, .val (.long rr), .second, .val (.long sr), .second, iv nr, iv sm, iv (cnt.toInt32), iv mk, rv b1, .unset, .unset, .unset] [(.int ((pr.toInt32) &&& mk)), (.int 1), (.ref b1)])) (fun t k => XS.iand X3.here hx rfl (hb hby at_64) rfl k) ?_
    obtain ⟨cl4, Ar4, Sz4, Ln4, Hs4⟩ := id V_b1_3
    obtain ⟨T5, h5, X5, e5, W5, st5⟩ := stI X3 hx hZ e3 Ar4 (j := (1 : Int32)) (own_Ai_at Sz4 Ln4 Hs4 (i := 1) (by simp only [List.length_set, List.length_replicate]; omega)).1 (g := (mkF m 65 #[.val (.long pr), .second, .val (.long qr), .second, .val (.long rr), .second, .val (.long sr), .second, iv nr, iv sm, iv (cnt.toInt32), iv mk, rv b1, .unset, .unset, .unset] [(.int ((pr.toInt32) &&& mk)), (.int 1), (.ref b1)])) rfl rfl (hb hby at_65)
    have V_b1_5 : own_Ai Z h5 b1 (((List.replicate 8 (0 : Int32)).set 0 ((((pr.toUInt64 >>> ((32 : Int32) &&& 0x3f).toInt64.toUInt64).toInt64).toInt32) &&& mk)).set 1 ((pr.toInt32) &&& mk)) := own_Ai_set Ar4 Sz4 Ln4 Hs4 (i := 1) (by simp only [List.length_set, List.length_replicate]; omega) W5
    have Zs5 : n0 ≤ h5.size := Nat.le_trans Zs3 (Keep.of_wr W5).1
    have N5 := Fr.snoc X5 N3 g_b1
    have Ol5 := Ol3.wr W5 g_b1
    refine own_go (b := T5.setTop (mkF m 66 #[.val (.long pr), .second, .val (.long qr), .second, .val (.long rr), .second, .val (.long sr), .second, iv nr, iv sm, iv (cnt.toInt32), iv mk, rv b1, .unset, .unset, .unset] [])) st5 ?_
    refine own_go (b := T5.setTop (mkF m 68 #[.val (.long pr), .second, .val (.long qr), .second, .val (.long rr), .second, .val (.long sr), .second, iv nr, iv sm, iv (cnt.toInt32), iv mk, rv b1, .unset, .unset, .unset] [(.ref b1)])) (fun t k => XS.aload X5.here hx rfl (hb hby at_66) rfl rfl k) ?_
    refine own_go (b := T5.setTop (mkF m 69 #[.val (.long pr), .second, .val (.long qr), .second, .val (.long rr), .second, .val (.long sr), .second, iv nr, iv sm, iv (cnt.toInt32), iv mk, rv b1, .unset, .unset, .unset] [(.int 2), (.ref b1)])) (fun t k => XS.iconst X5.here hx rfl (hb hby at_68) k) ?_
    refine own_go (b := T5.setTop (mkF m 70 #[.val (.long pr), .second, .val (.long qr), .second, .val (.long rr), .second, .val (.long sr), .second, iv nr, iv sm, iv (cnt.toInt32), iv mk, rv b1, .unset, .unset, .unset] [(.long qr), (.int 2), (.ref b1)])) (fun t k => XS.lloadN X5.here hx rfl (hb hby at_69) rfl  k) ?_
    refine own_go (b := T5.setTop (mkF m 72 #[.val (.long pr), .second, .val (.long qr), .second, .val (.long rr), .second, .val (.long sr), .second, iv nr, iv sm, iv (cnt.toInt32), iv mk, rv b1, .unset, .unset, .unset] [(.int 32), (.long qr), (.int 2), (.ref b1)])) (fun t k => XS.bipush X5.here hx rfl (hb hby at_70) k) ?_
    refine own_go (b := T5.setTop (mkF m 73 #[.val (.long pr), .second, .val (.long qr), .second, .val (.long rr), .second, .val (.long sr), .second, iv nr, iv sm, iv (cnt.toInt32), iv mk, rv b1, .unset, .unset, .unset] [(.long ((qr.toUInt64 >>> ((32 : Int32) &&& 0x3f).toInt64.toUInt64).toInt64)), (.int 2), (.ref b1)])) (fun t k => XS.lushr X5.here hx rfl (hb hby at_72) rfl k) ?_
    refine own_go (b := T5.setTop (mkF m 74 #[.val (.long pr), .second, .val (.long qr), .second, .val (.long rr), .second, .val (.long sr), .second, iv nr, iv sm, iv (cnt.toInt32), iv mk, rv b1, .unset, .unset, .unset] [(.int (((qr.toUInt64 >>> ((32 : Int32) &&& 0x3f).toInt64.toUInt64).toInt64).toInt32)), (.int 2), (.ref b1)])) (fun t k => XS.l2i X5.here hx rfl (hb hby at_73) rfl k) ?_
    refine own_go (b := T5.setTop (mkF m 76 #[.val (.long pr), .second, .val (.long qr), .second, .val (.long rr), .second, .val (.long sr), .second, iv nr, iv sm, iv (cnt.toInt32), iv mk, rv b1, .unset, .unset, .unset] [(.int mk), (.int (((qr.toUInt64 >>> ((32 : Int32) &&& 0x3f).toInt64.toUInt64).toInt64).toInt32)), (.int 2), (.ref b1)])) (fun t k => XS.iload X5.here hx rfl (hb hby at_74) rfl  k) ?_
    refine own_go (b := T5.setTop (mkF m 77 #[.val (.long pr), .second, .val (.long qr), .second, .val (.long rr), .second, .val (.long sr), .second, iv nr, iv sm, iv (cnt.toInt32), iv mk, rv b1, .unset, .unset, .unset] [(.int ((((qr.toUInt64 >>> ((32 : Int32) &&& 0x3f).toInt64.toUInt64).toInt64).toInt32) &&& mk)), (.int 2), (.ref b1)])) (fun t k => XS.iand X5.here hx rfl (hb hby at_76) rfl k) ?_
    obtain ⟨cl6, Ar6, Sz6, Ln6, Hs6⟩ := id V_b1_5
    obtain ⟨T7, h7, X7, e7, W7, st7⟩ := stI X5 hx hZ e5 Ar6 (j := (2 : Int32)) (own_Ai_at Sz6 Ln6 Hs6 (i := 2) (by simp only [List.length_set, List.length_replicate]; omega)).1 (g := (mkF m 77 #[.val (.long pr), .second, .val (.long qr), .second, .val (.long rr), .second, .val (.long sr), .second, iv nr, iv sm, iv (cnt.toInt32), iv mk, rv b1, .unset, .unset, .unset] [(.int ((((qr.toUInt64 >>> ((32 : Int32) &&& 0x3f).toInt64.toUInt64).toInt64).toInt32) &&& mk)), (.int 2), (.ref b1)])) rfl rfl (hb hby at_77)
    have V_b1_7 : own_Ai Z h7 b1 ((((List.replicate 8 (0 : Int32)).set 0 ((((pr.toUInt64 >>> ((32 : Int32) &&& 0x3f).toInt64.toUInt64).toInt64).toInt32) &&& mk)).set 1 ((pr.toInt32) &&& mk)).set 2 ((((qr.toUInt64 >>> ((32 : Int32) &&& 0x3f).toInt64.toUInt64).toInt64).toInt32) &&& mk)) := own_Ai_set Ar6 Sz6 Ln6 Hs6 (i := 2) (by simp only [List.length_set, List.length_replicate]; omega) W7
    have Zs7 : n0 ≤ h7.size := Nat.le_trans Zs5 (Keep.of_wr W7).1
    have N7 := Fr.snoc X7 N5 g_b1
    have Ol7 := Ol5.wr W7 g_b1
    refine own_go (b := T7.setTop (mkF m 78 #[.val (.long pr), .second, .val (.long qr), .second, .val (.long rr), .second, .val (.long sr), .second, iv nr, iv sm, iv (cnt.toInt32), iv mk, rv b1, .unset, .unset, .unset] [])) st7 ?_
    refine own_go (b := T7.setTop (mkF m 80 #[.val (.long pr), .second, .val (.long qr), .second, .val (.long rr), .second, .val (.long sr), .second, iv nr, iv sm, iv (cnt.toInt32), iv mk, rv b1, .unset, .unset, .unset] [(.ref b1)])) (fun t k => XS.aload X7.here hx rfl (hb hby at_78) rfl rfl k) ?_
    refine own_go (b := T7.setTop (mkF m 81 #[.val (.long pr), .second, .val (.long qr), .second, .val (.long rr), .second, .val (.long sr), .second, iv nr, iv sm, iv (cnt.toInt32), iv mk, rv b1, .unset, .unset, .unset] [(.int 3), (.ref b1)])) (fun t k => XS.iconst X7.here hx rfl (hb hby at_80) k) ?_
    refine own_go (b := T7.setTop (mkF m 82 #[.val (.long pr), .second, .val (.long qr), .second, .val (.long rr), .second, .val (.long sr), .second, iv nr, iv sm, iv (cnt.toInt32), iv mk, rv b1, .unset, .unset, .unset] [(.long qr), (.int 3), (.ref b1)])) (fun t k => XS.lloadN X7.here hx rfl (hb hby at_81) rfl  k) ?_
    refine own_go (b := T7.setTop (mkF m 83 #[.val (.long pr), .second, .val (.long qr), .second, .val (.long rr), .second, .val (.long sr), .second, iv nr, iv sm, iv (cnt.toInt32), iv mk, rv b1, .unset, .unset, .unset] [(.int (qr.toInt32)), (.int 3), (.ref b1)])) (fun t k => XS.l2i X7.here hx rfl (hb hby at_82) rfl k) ?_
    refine own_go (b := T7.setTop (mkF m 85 #[.val (.long pr), .second, .val (.long qr), .second, .val (.long rr), .second, .val (.long sr), .second, iv nr, iv sm, iv (cnt.toInt32), iv mk, rv b1, .unset, .unset, .unset] [(.int mk), (.int (qr.toInt32)), (.int 3), (.ref b1)])) (fun t k => XS.iload X7.here hx rfl (hb hby at_83) rfl  k) ?_
    refine own_go (b := T7.setTop (mkF m 86 #[.val (.long pr), .second, .val (.long qr), .second, .val (.long rr), .second, .val (.long sr), .second, iv nr, iv sm, iv (cnt.toInt32), iv mk, rv b1, .unset, .unset, .unset] [(.int ((qr.toInt32) &&& mk)), (.int 3), (.ref b1)])) (fun t k => XS.iand X7.here hx rfl (hb hby at_85) rfl k) ?_
    obtain ⟨cl8, Ar8, Sz8, Ln8, Hs8⟩ := id V_b1_7
    obtain ⟨T9, h9, X9, e9, W9, st9⟩ := stI X7 hx hZ e7 Ar8 (j := (3 : Int32)) (own_Ai_at Sz8 Ln8 Hs8 (i := 3) (by simp only [List.length_set, List.length_replicate]; omega)).1 (g := (mkF m 86 #[.val (.long pr), .second, .val (.long qr), .second, .val (.long rr), .second, .val (.long sr), .second, iv nr, iv sm, iv (cnt.toInt32), iv mk, rv b1, .unset, .unset, .unset] [(.int ((qr.toInt32) &&& mk)), (.int 3), (.ref b1)])) rfl rfl (hb hby at_86)
    have V_b1_9 : own_Ai Z h9 b1 (((((List.replicate 8 (0 : Int32)).set 0 ((((pr.toUInt64 >>> ((32 : Int32) &&& 0x3f).toInt64.toUInt64).toInt64).toInt32) &&& mk)).set 1 ((pr.toInt32) &&& mk)).set 2 ((((qr.toUInt64 >>> ((32 : Int32) &&& 0x3f).toInt64.toUInt64).toInt64).toInt32) &&& mk)).set 3 ((qr.toInt32) &&& mk)) := own_Ai_set Ar8 Sz8 Ln8 Hs8 (i := 3) (by simp only [List.length_set, List.length_replicate]; omega) W9
    have Zs9 : n0 ≤ h9.size := Nat.le_trans Zs7 (Keep.of_wr W9).1
    have N9 := Fr.snoc X9 N7 g_b1
    have Ol9 := Ol7.wr W9 g_b1
    refine own_go (b := T9.setTop (mkF m 87 #[.val (.long pr), .second, .val (.long qr), .second, .val (.long rr), .second, .val (.long sr), .second, iv nr, iv sm, iv (cnt.toInt32), iv mk, rv b1, .unset, .unset, .unset] [])) st9 ?_
    refine own_go (b := T9.setTop (mkF m 89 #[.val (.long pr), .second, .val (.long qr), .second, .val (.long rr), .second, .val (.long sr), .second, iv nr, iv sm, iv (cnt.toInt32), iv mk, rv b1, .unset, .unset, .unset] [(.ref b1)])) (fun t k => XS.aload X9.here hx rfl (hb hby at_87) rfl rfl k) ?_
    refine own_go (b := T9.setTop (mkF m 90 #[.val (.long pr), .second, .val (.long qr), .second, .val (.long rr), .second, .val (.long sr), .second, iv nr, iv sm, iv (cnt.toInt32), iv mk, rv b1, .unset, .unset, .unset] [(.int 4), (.ref b1)])) (fun t k => XS.iconst X9.here hx rfl (hb hby at_89) k) ?_
    refine own_go (b := T9.setTop (mkF m 92 #[.val (.long pr), .second, .val (.long qr), .second, .val (.long rr), .second, .val (.long sr), .second, iv nr, iv sm, iv (cnt.toInt32), iv mk, rv b1, .unset, .unset, .unset] [(.long rr), (.int 4), (.ref b1)])) (fun t k => XS.lload X9.here hx rfl (hb hby at_90) rfl  k) ?_
    refine own_go (b := T9.setTop (mkF m 94 #[.val (.long pr), .second, .val (.long qr), .second, .val (.long rr), .second, .val (.long sr), .second, iv nr, iv sm, iv (cnt.toInt32), iv mk, rv b1, .unset, .unset, .unset] [(.int 32), (.long rr), (.int 4), (.ref b1)])) (fun t k => XS.bipush X9.here hx rfl (hb hby at_92) k) ?_
    refine own_go (b := T9.setTop (mkF m 95 #[.val (.long pr), .second, .val (.long qr), .second, .val (.long rr), .second, .val (.long sr), .second, iv nr, iv sm, iv (cnt.toInt32), iv mk, rv b1, .unset, .unset, .unset] [(.long ((rr.toUInt64 >>> ((32 : Int32) &&& 0x3f).toInt64.toUInt64).toInt64)), (.int 4), (.ref b1)])) (fun t k => XS.lushr X9.here hx rfl (hb hby at_94) rfl k) ?_
    refine own_go (b := T9.setTop (mkF m 96 #[.val (.long pr), .second, .val (.long qr), .second, .val (.long rr), .second, .val (.long sr), .second, iv nr, iv sm, iv (cnt.toInt32), iv mk, rv b1, .unset, .unset, .unset] [(.int (((rr.toUInt64 >>> ((32 : Int32) &&& 0x3f).toInt64.toUInt64).toInt64).toInt32)), (.int 4), (.ref b1)])) (fun t k => XS.l2i X9.here hx rfl (hb hby at_95) rfl k) ?_
    refine own_go (b := T9.setTop (mkF m 98 #[.val (.long pr), .second, .val (.long qr), .second, .val (.long rr), .second, .val (.long sr), .second, iv nr, iv sm, iv (cnt.toInt32), iv mk, rv b1, .unset, .unset, .unset] [(.int mk), (.int (((rr.toUInt64 >>> ((32 : Int32) &&& 0x3f).toInt64.toUInt64).toInt64).toInt32)), (.int 4), (.ref b1)])) (fun t k => XS.iload X9.here hx rfl (hb hby at_96) rfl  k) ?_
    refine own_go (b := T9.setTop (mkF m 99 #[.val (.long pr), .second, .val (.long qr), .second, .val (.long rr), .second, .val (.long sr), .second, iv nr, iv sm, iv (cnt.toInt32), iv mk, rv b1, .unset, .unset, .unset] [(.int ((((rr.toUInt64 >>> ((32 : Int32) &&& 0x3f).toInt64.toUInt64).toInt64).toInt32) &&& mk)), (.int 4), (.ref b1)])) (fun t k => XS.iand X9.here hx rfl (hb hby at_98) rfl k) ?_
    obtain ⟨cl10, Ar10, Sz10, Ln10, Hs10⟩ := id V_b1_9
    obtain ⟨T11, h11, X11, e11, W11, st11⟩ := stI X9 hx hZ e9 Ar10 (j := (4 : Int32)) (own_Ai_at Sz10 Ln10 Hs10 (i := 4) (by simp only [List.length_set, List.length_replicate]; omega)).1 (g := (mkF m 99 #[.val (.long pr), .second, .val (.long qr), .second, .val (.long rr), .second, .val (.long sr), .second, iv nr, iv sm, iv (cnt.toInt32), iv mk, rv b1, .unset, .unset, .unset] [(.int ((((rr.toUInt64 >>> ((32 : Int32) &&& 0x3f).toInt64.toUInt64).toInt64).toInt32) &&& mk)), (.int 4), (.ref b1)])) rfl rfl (hb hby at_99)
    have V_b1_11 : own_Ai Z h11 b1 ((((((List.replicate 8 (0 : Int32)).set 0 ((((pr.toUInt64 >>> ((32 : Int32) &&& 0x3f).toInt64.toUInt64).toInt64).toInt32) &&& mk)).set 1 ((pr.toInt32) &&& mk)).set 2 ((((qr.toUInt64 >>> ((32 : Int32) &&& 0x3f).toInt64.toUInt64).toInt64).toInt32) &&& mk)).set 3 ((qr.toInt32) &&& mk)).set 4 ((((rr.toUInt64 >>> ((32 : Int32) &&& 0x3f).toInt64.toUInt64).toInt64).toInt32) &&& mk)) := own_Ai_set Ar10 Sz10 Ln10 Hs10 (i := 4) (by simp only [List.length_set, List.length_replicate]; omega) W11
    have Zs11 : n0 ≤ h11.size := Nat.le_trans Zs9 (Keep.of_wr W11).1
    have N11 := Fr.snoc X11 N9 g_b1
    have Ol11 := Ol9.wr W11 g_b1
    refine own_go (b := T11.setTop (mkF m 100 #[.val (.long pr), .second, .val (.long qr), .second, .val (.long rr), .second, .val (.long sr), .second, iv nr, iv sm, iv (cnt.toInt32), iv mk, rv b1, .unset, .unset, .unset] [])) st11 ?_
    refine own_go (b := T11.setTop (mkF m 102 #[.val (.long pr), .second, .val (.long qr), .second, .val (.long rr), .second, .val (.long sr), .second, iv nr, iv sm, iv (cnt.toInt32), iv mk, rv b1, .unset, .unset, .unset] [(.ref b1)])) (fun t k => XS.aload X11.here hx rfl (hb hby at_100) rfl rfl k) ?_
    refine own_go (b := T11.setTop (mkF m 103 #[.val (.long pr), .second, .val (.long qr), .second, .val (.long rr), .second, .val (.long sr), .second, iv nr, iv sm, iv (cnt.toInt32), iv mk, rv b1, .unset, .unset, .unset] [(.int 5), (.ref b1)])) (fun t k => XS.iconst X11.here hx rfl (hb hby at_102) k) ?_
    refine own_go (b := T11.setTop (mkF m 105 #[.val (.long pr), .second, .val (.long qr), .second, .val (.long rr), .second, .val (.long sr), .second, iv nr, iv sm, iv (cnt.toInt32), iv mk, rv b1, .unset, .unset, .unset] [(.long rr), (.int 5), (.ref b1)])) (fun t k => XS.lload X11.here hx rfl (hb hby at_103) rfl  k) ?_
    refine own_go (b := T11.setTop (mkF m 106 #[.val (.long pr), .second, .val (.long qr), .second, .val (.long rr), .second, .val (.long sr), .second, iv nr, iv sm, iv (cnt.toInt32), iv mk, rv b1, .unset, .unset, .unset] [(.int (rr.toInt32)), (.int 5), (.ref b1)])) (fun t k => XS.l2i X11.here hx rfl (hb hby at_105) rfl k) ?_
    refine own_go (b := T11.setTop (mkF m 108 #[.val (.long pr), .second, .val (.long qr), .second, .val (.long rr), .second, .val (.long sr), .second, iv nr, iv sm, iv (cnt.toInt32), iv mk, rv b1, .unset, .unset, .unset] [(.int mk), (.int (rr.toInt32)), (.int 5), (.ref b1)])) (fun t k => XS.iload X11.here hx rfl (hb hby at_106) rfl  k) ?_
    refine own_go (b := T11.setTop (mkF m 109 #[.val (.long pr), .second, .val (.long qr), .second, .val (.long rr), .second, .val (.long sr), .second, iv nr, iv sm, iv (cnt.toInt32), iv mk, rv b1, .unset, .unset, .unset] [(.int ((rr.toInt32) &&& mk)), (.int 5), (.ref b1)])) (fun t k => XS.iand X11.here hx rfl (hb hby at_108) rfl k) ?_
    obtain ⟨cl12, Ar12, Sz12, Ln12, Hs12⟩ := id V_b1_11
    obtain ⟨T13, h13, X13, e13, W13, st13⟩ := stI X11 hx hZ e11 Ar12 (j := (5 : Int32)) (own_Ai_at Sz12 Ln12 Hs12 (i := 5) (by simp only [List.length_set, List.length_replicate]; omega)).1 (g := (mkF m 109 #[.val (.long pr), .second, .val (.long qr), .second, .val (.long rr), .second, .val (.long sr), .second, iv nr, iv sm, iv (cnt.toInt32), iv mk, rv b1, .unset, .unset, .unset] [(.int ((rr.toInt32) &&& mk)), (.int 5), (.ref b1)])) rfl rfl (hb hby at_109)
    have V_b1_13 : own_Ai Z h13 b1 (((((((List.replicate 8 (0 : Int32)).set 0 ((((pr.toUInt64 >>> ((32 : Int32) &&& 0x3f).toInt64.toUInt64).toInt64).toInt32) &&& mk)).set 1 ((pr.toInt32) &&& mk)).set 2 ((((qr.toUInt64 >>> ((32 : Int32) &&& 0x3f).toInt64.toUInt64).toInt64).toInt32) &&& mk)).set 3 ((qr.toInt32) &&& mk)).set 4 ((((rr.toUInt64 >>> ((32 : Int32) &&& 0x3f).toInt64.toUInt64).toInt64).toInt32) &&& mk)).set 5 ((rr.toInt32) &&& mk)) := own_Ai_set Ar12 Sz12 Ln12 Hs12 (i := 5) (by simp only [List.length_set, List.length_replicate]; omega) W13
    have Zs13 : n0 ≤ h13.size := Nat.le_trans Zs11 (Keep.of_wr W13).1
    have N13 := Fr.snoc X13 N11 g_b1
    have Ol13 := Ol11.wr W13 g_b1
    refine own_go (b := T13.setTop (mkF m 110 #[.val (.long pr), .second, .val (.long qr), .second, .val (.long rr), .second, .val (.long sr), .second, iv nr, iv sm, iv (cnt.toInt32), iv mk, rv b1, .unset, .unset, .unset] [])) st13 ?_
    refine own_go (b := T13.setTop (mkF m 112 #[.val (.long pr), .second, .val (.long qr), .second, .val (.long rr), .second, .val (.long sr), .second, iv nr, iv sm, iv (cnt.toInt32), iv mk, rv b1, .unset, .unset, .unset] [(.ref b1)])) (fun t k => XS.aload X13.here hx rfl (hb hby at_110) rfl rfl k) ?_
    refine own_go (b := T13.setTop (mkF m 114 #[.val (.long pr), .second, .val (.long qr), .second, .val (.long rr), .second, .val (.long sr), .second, iv nr, iv sm, iv (cnt.toInt32), iv mk, rv b1, .unset, .unset, .unset] [(.int 6), (.ref b1)])) (fun t k => XS.bipush X13.here hx rfl (hb hby at_112) k) ?_
    refine own_go (b := T13.setTop (mkF m 116 #[.val (.long pr), .second, .val (.long qr), .second, .val (.long rr), .second, .val (.long sr), .second, iv nr, iv sm, iv (cnt.toInt32), iv mk, rv b1, .unset, .unset, .unset] [(.long sr), (.int 6), (.ref b1)])) (fun t k => XS.lload X13.here hx rfl (hb hby at_114) rfl  k) ?_
    refine own_go (b := T13.setTop (mkF m 118 #[.val (.long pr), .second, .val (.long qr), .second, .val (.long rr), .second, .val (.long sr), .second, iv nr, iv sm, iv (cnt.toInt32), iv mk, rv b1, .unset, .unset, .unset] [(.int 32), (.long sr), (.int 6), (.ref b1)])) (fun t k => XS.bipush X13.here hx rfl (hb hby at_116) k) ?_
    refine own_go (b := T13.setTop (mkF m 119 #[.val (.long pr), .second, .val (.long qr), .second, .val (.long rr), .second, .val (.long sr), .second, iv nr, iv sm, iv (cnt.toInt32), iv mk, rv b1, .unset, .unset, .unset] [(.long ((sr.toUInt64 >>> ((32 : Int32) &&& 0x3f).toInt64.toUInt64).toInt64)), (.int 6), (.ref b1)])) (fun t k => XS.lushr X13.here hx rfl (hb hby at_118) rfl k) ?_
    refine own_go (b := T13.setTop (mkF m 120 #[.val (.long pr), .second, .val (.long qr), .second, .val (.long rr), .second, .val (.long sr), .second, iv nr, iv sm, iv (cnt.toInt32), iv mk, rv b1, .unset, .unset, .unset] [(.int (((sr.toUInt64 >>> ((32 : Int32) &&& 0x3f).toInt64.toUInt64).toInt64).toInt32)), (.int 6), (.ref b1)])) (fun t k => XS.l2i X13.here hx rfl (hb hby at_119) rfl k) ?_
    refine own_go (b := T13.setTop (mkF m 122 #[.val (.long pr), .second, .val (.long qr), .second, .val (.long rr), .second, .val (.long sr), .second, iv nr, iv sm, iv (cnt.toInt32), iv mk, rv b1, .unset, .unset, .unset] [(.int mk), (.int (((sr.toUInt64 >>> ((32 : Int32) &&& 0x3f).toInt64.toUInt64).toInt64).toInt32)), (.int 6), (.ref b1)])) (fun t k => XS.iload X13.here hx rfl (hb hby at_120) rfl  k) ?_
    refine own_go (b := T13.setTop (mkF m 123 #[.val (.long pr), .second, .val (.long qr), .second, .val (.long rr), .second, .val (.long sr), .second, iv nr, iv sm, iv (cnt.toInt32), iv mk, rv b1, .unset, .unset, .unset] [(.int ((((sr.toUInt64 >>> ((32 : Int32) &&& 0x3f).toInt64.toUInt64).toInt64).toInt32) &&& mk)), (.int 6), (.ref b1)])) (fun t k => XS.iand X13.here hx rfl (hb hby at_122) rfl k) ?_
    obtain ⟨cl14, Ar14, Sz14, Ln14, Hs14⟩ := id V_b1_13
    obtain ⟨T15, h15, X15, e15, W15, st15⟩ := stI X13 hx hZ e13 Ar14 (j := (6 : Int32)) (own_Ai_at Sz14 Ln14 Hs14 (i := 6) (by simp only [List.length_set, List.length_replicate]; omega)).1 (g := (mkF m 123 #[.val (.long pr), .second, .val (.long qr), .second, .val (.long rr), .second, .val (.long sr), .second, iv nr, iv sm, iv (cnt.toInt32), iv mk, rv b1, .unset, .unset, .unset] [(.int ((((sr.toUInt64 >>> ((32 : Int32) &&& 0x3f).toInt64.toUInt64).toInt64).toInt32) &&& mk)), (.int 6), (.ref b1)])) rfl rfl (hb hby at_123)
    have V_b1_15 : own_Ai Z h15 b1 ((((((((List.replicate 8 (0 : Int32)).set 0 ((((pr.toUInt64 >>> ((32 : Int32) &&& 0x3f).toInt64.toUInt64).toInt64).toInt32) &&& mk)).set 1 ((pr.toInt32) &&& mk)).set 2 ((((qr.toUInt64 >>> ((32 : Int32) &&& 0x3f).toInt64.toUInt64).toInt64).toInt32) &&& mk)).set 3 ((qr.toInt32) &&& mk)).set 4 ((((rr.toUInt64 >>> ((32 : Int32) &&& 0x3f).toInt64.toUInt64).toInt64).toInt32) &&& mk)).set 5 ((rr.toInt32) &&& mk)).set 6 ((((sr.toUInt64 >>> ((32 : Int32) &&& 0x3f).toInt64.toUInt64).toInt64).toInt32) &&& mk)) := own_Ai_set Ar14 Sz14 Ln14 Hs14 (i := 6) (by simp only [List.length_set, List.length_replicate]; omega) W15
    have Zs15 : n0 ≤ h15.size := Nat.le_trans Zs13 (Keep.of_wr W15).1
    have N15 := Fr.snoc X15 N13 g_b1
    have Ol15 := Ol13.wr W15 g_b1
    refine own_go (b := T15.setTop (mkF m 124 #[.val (.long pr), .second, .val (.long qr), .second, .val (.long rr), .second, .val (.long sr), .second, iv nr, iv sm, iv (cnt.toInt32), iv mk, rv b1, .unset, .unset, .unset] [])) st15 ?_
    refine own_go (b := T15.setTop (mkF m 126 #[.val (.long pr), .second, .val (.long qr), .second, .val (.long rr), .second, .val (.long sr), .second, iv nr, iv sm, iv (cnt.toInt32), iv mk, rv b1, .unset, .unset, .unset] [(.ref b1)])) (fun t k => XS.aload X15.here hx rfl (hb hby at_124) rfl rfl k) ?_
    refine own_go (b := T15.setTop (mkF m 128 #[.val (.long pr), .second, .val (.long qr), .second, .val (.long rr), .second, .val (.long sr), .second, iv nr, iv sm, iv (cnt.toInt32), iv mk, rv b1, .unset, .unset, .unset] [(.int 7), (.ref b1)])) (fun t k => XS.bipush X15.here hx rfl (hb hby at_126) k) ?_
    refine own_go (b := T15.setTop (mkF m 130 #[.val (.long pr), .second, .val (.long qr), .second, .val (.long rr), .second, .val (.long sr), .second, iv nr, iv sm, iv (cnt.toInt32), iv mk, rv b1, .unset, .unset, .unset] [(.long sr), (.int 7), (.ref b1)])) (fun t k => XS.lload X15.here hx rfl (hb hby at_128) rfl  k) ?_
    refine own_go (b := T15.setTop (mkF m 131 #[.val (.long pr), .second, .val (.long qr), .second, .val (.long rr), .second, .val (.long sr), .second, iv nr, iv sm, iv (cnt.toInt32), iv mk, rv b1, .unset, .unset, .unset] [(.int (sr.toInt32)), (.int 7), (.ref b1)])) (fun t k => XS.l2i X15.here hx rfl (hb hby at_130) rfl k) ?_
    refine own_go (b := T15.setTop (mkF m 133 #[.val (.long pr), .second, .val (.long qr), .second, .val (.long rr), .second, .val (.long sr), .second, iv nr, iv sm, iv (cnt.toInt32), iv mk, rv b1, .unset, .unset, .unset] [(.int mk), (.int (sr.toInt32)), (.int 7), (.ref b1)])) (fun t k => XS.iload X15.here hx rfl (hb hby at_131) rfl  k) ?_
    refine own_go (b := T15.setTop (mkF m 134 #[.val (.long pr), .second, .val (.long qr), .second, .val (.long rr), .second, .val (.long sr), .second, iv nr, iv sm, iv (cnt.toInt32), iv mk, rv b1, .unset, .unset, .unset] [(.int ((sr.toInt32) &&& mk)), (.int 7), (.ref b1)])) (fun t k => XS.iand X15.here hx rfl (hb hby at_133) rfl k) ?_
    obtain ⟨cl16, Ar16, Sz16, Ln16, Hs16⟩ := id V_b1_15
    obtain ⟨T17, h17, X17, e17, W17, st17⟩ := stI X15 hx hZ e15 Ar16 (j := (7 : Int32)) (own_Ai_at Sz16 Ln16 Hs16 (i := 7) (by simp only [List.length_set, List.length_replicate]; omega)).1 (g := (mkF m 134 #[.val (.long pr), .second, .val (.long qr), .second, .val (.long rr), .second, .val (.long sr), .second, iv nr, iv sm, iv (cnt.toInt32), iv mk, rv b1, .unset, .unset, .unset] [(.int ((sr.toInt32) &&& mk)), (.int 7), (.ref b1)])) rfl rfl (hb hby at_134)
    have V_b1_17 : own_Ai Z h17 b1 (((((((((List.replicate 8 (0 : Int32)).set 0 ((((pr.toUInt64 >>> ((32 : Int32) &&& 0x3f).toInt64.toUInt64).toInt64).toInt32) &&& mk)).set 1 ((pr.toInt32) &&& mk)).set 2 ((((qr.toUInt64 >>> ((32 : Int32) &&& 0x3f).toInt64.toUInt64).toInt64).toInt32) &&& mk)).set 3 ((qr.toInt32) &&& mk)).set 4 ((((rr.toUInt64 >>> ((32 : Int32) &&& 0x3f).toInt64.toUInt64).toInt64).toInt32) &&& mk)).set 5 ((rr.toInt32) &&& mk)).set 6 ((((sr.toUInt64 >>> ((32 : Int32) &&& 0x3f).toInt64.toUInt64).toInt64).toInt32) &&& mk)).set 7 ((sr.toInt32) &&& mk)) := own_Ai_set Ar16 Sz16 Ln16 Hs16 (i := 7) (by simp only [List.length_set, List.length_replicate]; omega) W17
    have Zs17 : n0 ≤ h17.size := Nat.le_trans Zs15 (Keep.of_wr W17).1
    have N17 := Fr.snoc X17 N15 g_b1
    have Ol17 := Ol15.wr W17 g_b1
    refine own_go (b := T17.setTop (mkF m 135 #[.val (.long pr), .second, .val (.long qr), .second, .val (.long rr), .second, .val (.long sr), .second, iv nr, iv sm, iv (cnt.toInt32), iv mk, rv b1, .unset, .unset, .unset] [])) st17 ?_
    obtain ⟨ms, hms0⟩ : ∃ ms, ms = (((((((((List.replicate 8 (0 : Int32)).set 0 ((((pr.toUInt64 >>> ((32 : Int32) &&& 0x3f).toInt64.toUInt64).toInt64).toInt32) &&& mk)).set 1 ((pr.toInt32) &&& mk)).set 2 ((((qr.toUInt64 >>> ((32 : Int32) &&& 0x3f).toInt64.toUInt64).toInt64).toInt32) &&& mk)).set 3 ((qr.toInt32) &&& mk)).set 4 ((((rr.toUInt64 >>> ((32 : Int32) &&& 0x3f).toInt64.toUInt64).toInt64).toInt32) &&& mk)).set 5 ((rr.toInt32) &&& mk)).set 6 ((((sr.toUInt64 >>> ((32 : Int32) &&& 0x3f).toInt64.toUInt64).toInt64).toInt32) &&& mk)).set 7 ((sr.toInt32) &&& mk)) := ⟨_, rfl⟩
    have Vm := V_b1_17
    rw [← hms0] at Vm
    have hmL : ms.length = 8 := by rw [hms0]; simp
    have hms : ∀ e ∈ ms, e + 1 ≠ 0 := by rw [hms0]; intro e he; simp [List.replicate] at he; rcases he with rfl | rfl | rfl | rfl | rfl | rfl | rfl | rfl <;> exact own_pos hmk
    obtain ⟨T18, h18, X18, e18, E18, A18, D18, -, st18⟩ := newO X17 hx hZ hown (hw _ (List.mem_of_getElem? (i := 4) rfl)) (hw _ (List.mem_of_getElem? (i := 5) rfl)) (hw _ (List.mem_of_getElem? (i := 6) rfl)) e17 (g := (mkF m 135 #[.val (.long pr), .second, .val (.long qr), .second, .val (.long rr), .second, .val (.long sr), .second, iv nr, iv sm, iv (cnt.toInt32), iv mk, rv b1, .unset, .unset, .unset] [])) rfl (hb hby at_135) (by decide) (by decide)
    obtain ⟨b18, g18⟩ : ∃ z, z = h17.size := ⟨_, rfl⟩
    rw [← g18] at A18 D18 st18
    have g_b18 : n0 ≤ b18 := Nat.le_trans Zs17 (Nat.le_of_eq g18.symm)
    have Zs18 : n0 ≤ h18.size := Nat.le_trans Zs17 E18.1
    have Ol18 := Ol17.ext E18
    have F_slots_b18 : Fld Z h18 b18 "com/example/axiomloom/axiomloom/reasoner/IntSet" "slots" "[I" .null := D18 (Or.inl (hw _ (List.mem_of_getElem? (i := 14) rfl))) (ty := (.array .int)) (by decide)
    have F_shift_b18 : Fld Z h18 b18 "com/example/axiomloom/axiomloom/reasoner/IntSet" "shift" "I" (.int 0) := D18 (Or.inl (hw _ (List.mem_of_getElem? (i := 18) rfl))) (ty := .int) (by decide)
    have F_size_b18 : Fld Z h18 b18 "com/example/axiomloom/axiomloom/reasoner/IntSet" "size" "I" (.int 0) := D18 (Or.inl (hw _ (List.mem_of_getElem? (i := 33) rfl))) (ty := .int) (by decide)
    refine own_go (b := T18.setTop (mkF m 138 #[.val (.long pr), .second, .val (.long qr), .second, .val (.long rr), .second, .val (.long sr), .second, iv nr, iv sm, iv (cnt.toInt32), iv mk, rv b1, .unset, .unset, .unset] [(.ref b18)])) st18 ?_
    refine own_go (b := T18.setTop (mkF m 139 #[.val (.long pr), .second, .val (.long qr), .second, .val (.long rr), .second, .val (.long sr), .second, iv nr, iv sm, iv (cnt.toInt32), iv mk, rv b1, .unset, .unset, .unset] [(.ref b18), (.ref b18)])) (fun t k => XS.dup X18.here hx rfl (hb hby at_138) rfl rfl k) ?_
    have gl_b18 : b1 < b18 := Nat.lt_of_lt_of_le (Vm).lt (Nat.le_of_eq g18.symm)
    obtain ⟨_, _, ⟨T19, L19, k19, n19⟩, -, X19, ⟨Lc19, hQ19, l19, y19, z19⟩, st19⟩ := X18.specialBack hx (y := (⟨"com/example/axiomloom/axiomloom/reasoner/IntSet", "<init>", "()V"⟩ : MethodName)) rfl hown (mvT hZ (hw _ (List.mem_of_getElem? (i := 7) rfl))) (mvT hZ (hw _ (List.mem_of_getElem? (i := 8) rfl))) (mvT hZ (hw _ (List.mem_of_getElem? (i := 9) rfl))) (by decide) (backOf (W := 1) (rm1 l Z a0 hw [] b18 b18 h18 n0 Zs18 A18 F_slots_b18 F_shift_b18 F_size_b18 SF g_b18 (Nat.le_refl _) (Nat.le_of_lt (Exa.lt A18)) Ol18) hZ (hw _ (List.mem_of_getElem? (i := 9) rfl)) (hw _ (List.mem_of_getElem? (i := 6) rfl)) (by decide) (by decide)) (g := (mkF m 139 #[.val (.long pr), .second, .val (.long qr), .second, .val (.long rr), .second, .val (.long sr), .second, iv nr, iv sm, iv (cnt.toInt32), iv mk, rv b1, .unset, .unset, .unset] [(.ref b18), (.ref b18)])) rfl (by rw [hml]; rfl) (Steps.refl _) (a := b18) (argsL := []) (rest := [(.ref b18)]) (lenOf pd_0 rfl) rfl (by show 2 * 0 + _ ≤ _; exact Nat.le_of_eq rfl) (hb hby at_139) (fun _ _ => ⟨rfl, e18, (by decide : 2 + 1 ≤ _), (by decide : 11 + 8 ≤ _)⟩)
    dsimp only [Pt.U, Pt.locs, Pt.cells, Pt.slots] at X19 l19 y19 z19 st19 hQ19
    subst l19 y19 z19
    obtain ⟨rfl, N19q, K19, hS0⟩ := hQ19
    have Zs19 : n0 ≤ T19.heap.size := Nat.le_trans Zs18 K19.1
    have N19 := Fr.app N17 N19q
    have Ol19 := Ol18.keep K19 (allS g_b18 all0)
    have lz0 : b18 ≤ T19.heap.size := Nat.le_trans (Nat.le_of_lt (Exa.lt A18)) K19.1
    obtain ⟨lq19, X19, N19⟩ : ∃ lq, Stand p l e room_1 s m #[(.long pr), (.long qr), (.long rr), (.long sr), (.int nr)] below meth c T19 lq 3 19 ∧ Fr n0 lq := ⟨_, X19, N19⟩
    refine own_tr (b := T19.setTop (mkF m 142 #[.val (.long pr), .second, .val (.long qr), .second, .val (.long rr), .second, .val (.long sr), .second, iv nr, iv sm, iv (cnt.toInt32), iv mk, rv b1, .unset, .unset, .unset] [(.ref b18)])) st19 ?_
    refine own_go (b := T19.setTop (mkF m 144 #[.val (.long pr), .second, .val (.long qr), .second, .val (.long rr), .second, .val (.long sr), .second, iv nr, iv sm, iv (cnt.toInt32), iv mk, rv b1, rv b18, .unset, .unset] [])) (fun t k => XS.astore X19.here hx rfl (hb hby at_142) rfl rfl (l' := #[.val (.long pr), .second, .val (.long qr), .second, .val (.long rr), .second, .val (.long sr), .second, iv nr, iv sm, iv (cnt.toInt32), iv mk, rv b1, rv b18, .unset, .unset]) rfl k) ?_
    refine own_go (b := T19.setTop (mkF m 146 #[.val (.long pr), .second, .val (.long qr), .second, .val (.long rr), .second, .val (.long sr), .second, iv nr, iv sm, iv (cnt.toInt32), iv mk, rv b1, rv b18, .unset, .unset] [(.ref b18)])) (fun t k => XS.aload X19.here hx rfl (hb hby at_144) rfl rfl k) ?_
    refine own_go (b := T19.setTop (mkF m 148 #[.val (.long pr), .second, .val (.long qr), .second, .val (.long rr), .second, .val (.long sr), .second, iv nr, iv sm, iv (cnt.toInt32), iv mk, rv b1, rv b18, .unset, .unset] [(.ref b1), (.ref b18)])) (fun t k => XS.aload X19.here hx rfl (hb hby at_146) rfl rfl k) ?_
    refine own_go (b := T19.setTop (mkF m 149 #[.val (.long pr), .second, .val (.long qr), .second, .val (.long rr), .second, .val (.long sr), .second, iv nr, iv sm, iv (cnt.toInt32), iv mk, rv b1, rv b18, .unset, .unset] [(.int 0), (.ref b1), (.ref b18)])) (fun t k => XS.iconst X19.here hx rfl (hb hby at_148) k) ?_
    refine own_go (b := T19.setTop (mkF m 151 #[.val (.long pr), .second, .val (.long qr), .second, .val (.long rr), .second, .val (.long sr), .second, iv nr, iv sm, iv (cnt.toInt32), iv mk, rv b1, rv b18, .unset, .unset] [(.int (cnt.toInt32)), (.int 0), (.ref b1), (.ref b18)])) (fun t k => XS.iload X19.here hx rfl (hb hby at_149) rfl  k) ?_
    obtain ⟨_, _, ⟨T20, L20, k20, n20⟩, -, X20, ⟨Lc20, hQ20, l20, y20, z20⟩, st20⟩ := Jvm.LawKit.callS X19 hx (y := (⟨"com/example/axiomloom/axiomloom/reasoner/IntSetToArrayPinLaw", "addIf", "(Lcom/example/axiomloom/axiomloom/reasoner/IntSet;[III)V"⟩ : MethodName)) hown (mvT hZ (hw _ (List.mem_of_getElem? (i := 19) rfl))) (mvT hZ (hw _ (List.mem_of_getElem? (i := 20) rfl))) (mvT hZ (hw _ (List.mem_of_getElem? (i := 21) rfl))) (mvT hZ (hw _ (List.mem_of_getElem? (i := 22) rfl))) (by decide) (backOf (W := 0) (rm3 l Z a0 hw [] b18 b1 (0 : Int32) (cnt.toInt32) b18 ms (own_es ms cnt 0) 0 cnt T19.heap n0 Zs19 rfl rfl hS0 ((Vm.ext E18).keep K19 (ninS (Nat.ne_of_lt (Nat.lt_of_lt_of_le (Vm).lt (Nat.le_of_eq g18.symm))) nin0)) (by omega) (by decide) hcnt hms g_b18 lz0 (by have := own_es_le (ms := ms) (cnt := cnt) (k := 0) (by omega); omega)) hZ (hw _ (List.mem_of_getElem? (i := 22) rfl)) (hw _ (List.mem_of_getElem? (i := 21) rfl)) (by decide) (by decide)) (g := (mkF m 151 #[.val (.long pr), .second, .val (.long qr), .second, .val (.long rr), .second, .val (.long sr), .second, iv nr, iv sm, iv (cnt.toInt32), iv mk, rv b1, rv b18, .unset, .unset] [(.int (cnt.toInt32)), (.int 0), (.ref b1), (.ref b18)])) rfl (by rw [hml]; rfl) (argsL := [(.ref b18), (.ref b1), (.int 0), (.int (cnt.toInt32))]) (rest := []) (lenOf pd_6 rfl) rfl (by show 2 * 0 + _ ≤ _; exact Nat.le_of_eq rfl) (hb hby at_151) (fun _ _ => ⟨rfl, rfl, (by decide : 3 + 1 ≤ _), (by decide : 19 + 16 ≤ _)⟩)
    dsimp only [Pt.U, Pt.locs, Pt.cells, Pt.slots] at X20 l20 y20 z20 st20 hQ20
    subst l20 y20 z20
    obtain ⟨wz20, rfl, N20q, K20, hws20, hS1⟩ := hQ20
    have hS1' : own_Set Z T20.heap b18 b18 (own_es ms cnt 1) := hS1
    have Vm20 := ((Vm.ext E18).keep K19 (ninS (Nat.ne_of_lt (Nat.lt_of_lt_of_le (Vm).lt (Nat.le_of_eq g18.symm))) nin0)).keep K20 (own_nin gl_b18 hws20)
    have Zs20 : n0 ≤ T20.heap.size := Nat.le_trans Zs19 K20.1
    have N20 := Fr.app N19 N20q
    have lz1 : b18 ≤ T20.heap.size := Nat.le_trans lz0 K20.1
    obtain ⟨lq20, X20, N20⟩ : ∃ lq, Stand p l e room_1 s m #[(.long pr), (.long qr), (.long rr), (.long sr), (.int nr)] below meth c T20 lq 4 35 ∧ Fr n0 lq := ⟨_, X20, N20⟩
    refine own_go (b := T20.setTop (mkF m 154 #[.val (.long pr), .second, .val (.long qr), .second, .val (.long rr), .second, .val (.long sr), .second, iv nr, iv sm, iv (cnt.toInt32), iv mk, rv b1, rv b18, .unset, .unset] [])) st20 ?_
    refine own_go (b := T20.setTop (mkF m 156 #[.val (.long pr), .second, .val (.long qr), .second, .val (.long rr), .second, .val (.long sr), .second, iv nr, iv sm, iv (cnt.toInt32), iv mk, rv b1, rv b18, .unset, .unset] [(.ref b18)])) (fun t k => XS.aload X20.here hx rfl (hb hby at_154) rfl rfl k) ?_
    refine own_go (b := T20.setTop (mkF m 158 #[.val (.long pr), .second, .val (.long qr), .second, .val (.long rr), .second, .val (.long sr), .second, iv nr, iv sm, iv (cnt.toInt32), iv mk, rv b1, rv b18, .unset, .unset] [(.ref b1), (.ref b18)])) (fun t k => XS.aload X20.here hx rfl (hb hby at_156) rfl rfl k) ?_
    refine own_go (b := T20.setTop (mkF m 159 #[.val (.long pr), .second, .val (.long qr), .second, .val (.long rr), .second, .val (.long sr), .second, iv nr, iv sm, iv (cnt.toInt32), iv mk, rv b1, rv b18, .unset, .unset] [(.int 1), (.ref b1), (.ref b18)])) (fun t k => XS.iconst X20.here hx rfl (hb hby at_158) k) ?_
    refine own_go (b := T20.setTop (mkF m 161 #[.val (.long pr), .second, .val (.long qr), .second, .val (.long rr), .second, .val (.long sr), .second, iv nr, iv sm, iv (cnt.toInt32), iv mk, rv b1, rv b18, .unset, .unset] [(.int (cnt.toInt32)), (.int 1), (.ref b1), (.ref b18)])) (fun t k => XS.iload X20.here hx rfl (hb hby at_159) rfl  k) ?_
    obtain ⟨_, _, ⟨T21, L21, k21, n21⟩, -, X21, ⟨Lc21, hQ21, l21, y21, z21⟩, st21⟩ := Jvm.LawKit.callS X20 hx (y := (⟨"com/example/axiomloom/axiomloom/reasoner/IntSetToArrayPinLaw", "addIf", "(Lcom/example/axiomloom/axiomloom/reasoner/IntSet;[III)V"⟩ : MethodName)) hown (mvT hZ (hw _ (List.mem_of_getElem? (i := 19) rfl))) (mvT hZ (hw _ (List.mem_of_getElem? (i := 20) rfl))) (mvT hZ (hw _ (List.mem_of_getElem? (i := 21) rfl))) (mvT hZ (hw _ (List.mem_of_getElem? (i := 22) rfl))) (by decide) (backOf (W := 0) (rm3 l Z a0 hw [] b18 b1 (1 : Int32) (cnt.toInt32) b18 ms (own_es ms cnt 1) 1 cnt T20.heap n0 Zs20 rfl rfl hS1' Vm20 (by omega) (by decide) hcnt hms g_b18 lz1 (by have := own_es_le (ms := ms) (cnt := cnt) (k := 1) (by omega); omega)) hZ (hw _ (List.mem_of_getElem? (i := 22) rfl)) (hw _ (List.mem_of_getElem? (i := 21) rfl)) (by decide) (by decide)) (g := (mkF m 161 #[.val (.long pr), .second, .val (.long qr), .second, .val (.long rr), .second, .val (.long sr), .second, iv nr, iv sm, iv (cnt.toInt32), iv mk, rv b1, rv b18, .unset, .unset] [(.int (cnt.toInt32)), (.int 1), (.ref b1), (.ref b18)])) rfl (by rw [hml]; rfl) (argsL := [(.ref b18), (.ref b1), (.int 1), (.int (cnt.toInt32))]) (rest := []) (lenOf pd_6 rfl) rfl (by show 2 * 0 + _ ≤ _; exact Nat.le_of_eq rfl) (hb hby at_161) (fun _ _ => ⟨rfl, rfl, (by decide : 4 + 1 ≤ _), (by decide : 35 + 16 ≤ _)⟩)
    dsimp only [Pt.U, Pt.locs, Pt.cells, Pt.slots] at X21 l21 y21 z21 st21 hQ21
    subst l21 y21 z21
    obtain ⟨wz21, rfl, N21q, K21, hws21, hS2⟩ := hQ21
    have hS2' : own_Set Z T21.heap b18 b18 (own_es ms cnt 2) := hS2
    have Vm21 := Vm20.keep K21 (own_nin gl_b18 hws21)
    have Zs21 : n0 ≤ T21.heap.size := Nat.le_trans Zs20 K21.1
    have N21 := Fr.app N20 N21q
    have lz2 : b18 ≤ T21.heap.size := Nat.le_trans lz1 K21.1
    obtain ⟨lq21, X21, N21⟩ : ∃ lq, Stand p l e room_1 s m #[(.long pr), (.long qr), (.long rr), (.long sr), (.int nr)] below meth c T21 lq 5 51 ∧ Fr n0 lq := ⟨_, X21, N21⟩
    refine own_go (b := T21.setTop (mkF m 164 #[.val (.long pr), .second, .val (.long qr), .second, .val (.long rr), .second, .val (.long sr), .second, iv nr, iv sm, iv (cnt.toInt32), iv mk, rv b1, rv b18, .unset, .unset] [])) st21 ?_
    refine own_go (b := T21.setTop (mkF m 166 #[.val (.long pr), .second, .val (.long qr), .second, .val (.long rr), .second, .val (.long sr), .second, iv nr, iv sm, iv (cnt.toInt32), iv mk, rv b1, rv b18, .unset, .unset] [(.ref b18)])) (fun t k => XS.aload X21.here hx rfl (hb hby at_164) rfl rfl k) ?_
    refine own_go (b := T21.setTop (mkF m 168 #[.val (.long pr), .second, .val (.long qr), .second, .val (.long rr), .second, .val (.long sr), .second, iv nr, iv sm, iv (cnt.toInt32), iv mk, rv b1, rv b18, .unset, .unset] [(.ref b1), (.ref b18)])) (fun t k => XS.aload X21.here hx rfl (hb hby at_166) rfl rfl k) ?_
    refine own_go (b := T21.setTop (mkF m 169 #[.val (.long pr), .second, .val (.long qr), .second, .val (.long rr), .second, .val (.long sr), .second, iv nr, iv sm, iv (cnt.toInt32), iv mk, rv b1, rv b18, .unset, .unset] [(.int 2), (.ref b1), (.ref b18)])) (fun t k => XS.iconst X21.here hx rfl (hb hby at_168) k) ?_
    refine own_go (b := T21.setTop (mkF m 171 #[.val (.long pr), .second, .val (.long qr), .second, .val (.long rr), .second, .val (.long sr), .second, iv nr, iv sm, iv (cnt.toInt32), iv mk, rv b1, rv b18, .unset, .unset] [(.int (cnt.toInt32)), (.int 2), (.ref b1), (.ref b18)])) (fun t k => XS.iload X21.here hx rfl (hb hby at_169) rfl  k) ?_
    obtain ⟨_, _, ⟨T22, L22, k22, n22⟩, -, X22, ⟨Lc22, hQ22, l22, y22, z22⟩, st22⟩ := Jvm.LawKit.callS X21 hx (y := (⟨"com/example/axiomloom/axiomloom/reasoner/IntSetToArrayPinLaw", "addIf", "(Lcom/example/axiomloom/axiomloom/reasoner/IntSet;[III)V"⟩ : MethodName)) hown (mvT hZ (hw _ (List.mem_of_getElem? (i := 19) rfl))) (mvT hZ (hw _ (List.mem_of_getElem? (i := 20) rfl))) (mvT hZ (hw _ (List.mem_of_getElem? (i := 21) rfl))) (mvT hZ (hw _ (List.mem_of_getElem? (i := 22) rfl))) (by decide) (backOf (W := 0) (rm3 l Z a0 hw [] b18 b1 (2 : Int32) (cnt.toInt32) b18 ms (own_es ms cnt 2) 2 cnt T21.heap n0 Zs21 rfl rfl hS2' Vm21 (by omega) (by decide) hcnt hms g_b18 lz2 (by have := own_es_le (ms := ms) (cnt := cnt) (k := 2) (by omega); omega)) hZ (hw _ (List.mem_of_getElem? (i := 22) rfl)) (hw _ (List.mem_of_getElem? (i := 21) rfl)) (by decide) (by decide)) (g := (mkF m 171 #[.val (.long pr), .second, .val (.long qr), .second, .val (.long rr), .second, .val (.long sr), .second, iv nr, iv sm, iv (cnt.toInt32), iv mk, rv b1, rv b18, .unset, .unset] [(.int (cnt.toInt32)), (.int 2), (.ref b1), (.ref b18)])) rfl (by rw [hml]; rfl) (argsL := [(.ref b18), (.ref b1), (.int 2), (.int (cnt.toInt32))]) (rest := []) (lenOf pd_6 rfl) rfl (by show 2 * 0 + _ ≤ _; exact Nat.le_of_eq rfl) (hb hby at_171) (fun _ _ => ⟨rfl, rfl, (by decide : 5 + 1 ≤ _), (by decide : 51 + 16 ≤ _)⟩)
    dsimp only [Pt.U, Pt.locs, Pt.cells, Pt.slots] at X22 l22 y22 z22 st22 hQ22
    subst l22 y22 z22
    obtain ⟨wz22, rfl, N22q, K22, hws22, hS3⟩ := hQ22
    have hS3' : own_Set Z T22.heap b18 b18 (own_es ms cnt 3) := hS3
    have Vm22 := Vm21.keep K22 (own_nin gl_b18 hws22)
    have Zs22 : n0 ≤ T22.heap.size := Nat.le_trans Zs21 K22.1
    have N22 := Fr.app N21 N22q
    have lz3 : b18 ≤ T22.heap.size := Nat.le_trans lz2 K22.1
    obtain ⟨lq22, X22, N22⟩ : ∃ lq, Stand p l e room_1 s m #[(.long pr), (.long qr), (.long rr), (.long sr), (.int nr)] below meth c T22 lq 6 67 ∧ Fr n0 lq := ⟨_, X22, N22⟩
    refine own_go (b := T22.setTop (mkF m 174 #[.val (.long pr), .second, .val (.long qr), .second, .val (.long rr), .second, .val (.long sr), .second, iv nr, iv sm, iv (cnt.toInt32), iv mk, rv b1, rv b18, .unset, .unset] [])) st22 ?_
    refine own_go (b := T22.setTop (mkF m 176 #[.val (.long pr), .second, .val (.long qr), .second, .val (.long rr), .second, .val (.long sr), .second, iv nr, iv sm, iv (cnt.toInt32), iv mk, rv b1, rv b18, .unset, .unset] [(.ref b18)])) (fun t k => XS.aload X22.here hx rfl (hb hby at_174) rfl rfl k) ?_
    refine own_go (b := T22.setTop (mkF m 178 #[.val (.long pr), .second, .val (.long qr), .second, .val (.long rr), .second, .val (.long sr), .second, iv nr, iv sm, iv (cnt.toInt32), iv mk, rv b1, rv b18, .unset, .unset] [(.ref b1), (.ref b18)])) (fun t k => XS.aload X22.here hx rfl (hb hby at_176) rfl rfl k) ?_
    refine own_go (b := T22.setTop (mkF m 179 #[.val (.long pr), .second, .val (.long qr), .second, .val (.long rr), .second, .val (.long sr), .second, iv nr, iv sm, iv (cnt.toInt32), iv mk, rv b1, rv b18, .unset, .unset] [(.int 3), (.ref b1), (.ref b18)])) (fun t k => XS.iconst X22.here hx rfl (hb hby at_178) k) ?_
    refine own_go (b := T22.setTop (mkF m 181 #[.val (.long pr), .second, .val (.long qr), .second, .val (.long rr), .second, .val (.long sr), .second, iv nr, iv sm, iv (cnt.toInt32), iv mk, rv b1, rv b18, .unset, .unset] [(.int (cnt.toInt32)), (.int 3), (.ref b1), (.ref b18)])) (fun t k => XS.iload X22.here hx rfl (hb hby at_179) rfl  k) ?_
    obtain ⟨_, _, ⟨T23, L23, k23, n23⟩, -, X23, ⟨Lc23, hQ23, l23, y23, z23⟩, st23⟩ := Jvm.LawKit.callS X22 hx (y := (⟨"com/example/axiomloom/axiomloom/reasoner/IntSetToArrayPinLaw", "addIf", "(Lcom/example/axiomloom/axiomloom/reasoner/IntSet;[III)V"⟩ : MethodName)) hown (mvT hZ (hw _ (List.mem_of_getElem? (i := 19) rfl))) (mvT hZ (hw _ (List.mem_of_getElem? (i := 20) rfl))) (mvT hZ (hw _ (List.mem_of_getElem? (i := 21) rfl))) (mvT hZ (hw _ (List.mem_of_getElem? (i := 22) rfl))) (by decide) (backOf (W := 0) (rm3 l Z a0 hw [] b18 b1 (3 : Int32) (cnt.toInt32) b18 ms (own_es ms cnt 3) 3 cnt T22.heap n0 Zs22 rfl rfl hS3' Vm22 (by omega) (by decide) hcnt hms g_b18 lz3 (by have := own_es_le (ms := ms) (cnt := cnt) (k := 3) (by omega); omega)) hZ (hw _ (List.mem_of_getElem? (i := 22) rfl)) (hw _ (List.mem_of_getElem? (i := 21) rfl)) (by decide) (by decide)) (g := (mkF m 181 #[.val (.long pr), .second, .val (.long qr), .second, .val (.long rr), .second, .val (.long sr), .second, iv nr, iv sm, iv (cnt.toInt32), iv mk, rv b1, rv b18, .unset, .unset] [(.int (cnt.toInt32)), (.int 3), (.ref b1), (.ref b18)])) rfl (by rw [hml]; rfl) (argsL := [(.ref b18), (.ref b1), (.int 3), (.int (cnt.toInt32))]) (rest := []) (lenOf pd_6 rfl) rfl (by show 2 * 0 + _ ≤ _; exact Nat.le_of_eq rfl) (hb hby at_181) (fun _ _ => ⟨rfl, rfl, (by decide : 6 + 1 ≤ _), (by decide : 67 + 16 ≤ _)⟩)
    dsimp only [Pt.U, Pt.locs, Pt.cells, Pt.slots] at X23 l23 y23 z23 st23 hQ23
    subst l23 y23 z23
    obtain ⟨wz23, rfl, N23q, K23, hws23, hS4⟩ := hQ23
    have hS4' : own_Set Z T23.heap b18 b18 (own_es ms cnt 4) := hS4
    have Vm23 := Vm22.keep K23 (own_nin gl_b18 hws23)
    have Zs23 : n0 ≤ T23.heap.size := Nat.le_trans Zs22 K23.1
    have N23 := Fr.app N22 N23q
    have lz4 : b18 ≤ T23.heap.size := Nat.le_trans lz3 K23.1
    obtain ⟨lq23, X23, N23⟩ : ∃ lq, Stand p l e room_1 s m #[(.long pr), (.long qr), (.long rr), (.long sr), (.int nr)] below meth c T23 lq 7 83 ∧ Fr n0 lq := ⟨_, X23, N23⟩
    refine own_go (b := T23.setTop (mkF m 184 #[.val (.long pr), .second, .val (.long qr), .second, .val (.long rr), .second, .val (.long sr), .second, iv nr, iv sm, iv (cnt.toInt32), iv mk, rv b1, rv b18, .unset, .unset] [])) st23 ?_
    refine own_go (b := T23.setTop (mkF m 186 #[.val (.long pr), .second, .val (.long qr), .second, .val (.long rr), .second, .val (.long sr), .second, iv nr, iv sm, iv (cnt.toInt32), iv mk, rv b1, rv b18, .unset, .unset] [(.ref b18)])) (fun t k => XS.aload X23.here hx rfl (hb hby at_184) rfl rfl k) ?_
    refine own_go (b := T23.setTop (mkF m 188 #[.val (.long pr), .second, .val (.long qr), .second, .val (.long rr), .second, .val (.long sr), .second, iv nr, iv sm, iv (cnt.toInt32), iv mk, rv b1, rv b18, .unset, .unset] [(.ref b1), (.ref b18)])) (fun t k => XS.aload X23.here hx rfl (hb hby at_186) rfl rfl k) ?_
    refine own_go (b := T23.setTop (mkF m 189 #[.val (.long pr), .second, .val (.long qr), .second, .val (.long rr), .second, .val (.long sr), .second, iv nr, iv sm, iv (cnt.toInt32), iv mk, rv b1, rv b18, .unset, .unset] [(.int 4), (.ref b1), (.ref b18)])) (fun t k => XS.iconst X23.here hx rfl (hb hby at_188) k) ?_
    refine own_go (b := T23.setTop (mkF m 191 #[.val (.long pr), .second, .val (.long qr), .second, .val (.long rr), .second, .val (.long sr), .second, iv nr, iv sm, iv (cnt.toInt32), iv mk, rv b1, rv b18, .unset, .unset] [(.int (cnt.toInt32)), (.int 4), (.ref b1), (.ref b18)])) (fun t k => XS.iload X23.here hx rfl (hb hby at_189) rfl  k) ?_
    obtain ⟨_, _, ⟨T24, L24, k24, n24⟩, -, X24, ⟨Lc24, hQ24, l24, y24, z24⟩, st24⟩ := Jvm.LawKit.callS X23 hx (y := (⟨"com/example/axiomloom/axiomloom/reasoner/IntSetToArrayPinLaw", "addIf", "(Lcom/example/axiomloom/axiomloom/reasoner/IntSet;[III)V"⟩ : MethodName)) hown (mvT hZ (hw _ (List.mem_of_getElem? (i := 19) rfl))) (mvT hZ (hw _ (List.mem_of_getElem? (i := 20) rfl))) (mvT hZ (hw _ (List.mem_of_getElem? (i := 21) rfl))) (mvT hZ (hw _ (List.mem_of_getElem? (i := 22) rfl))) (by decide) (backOf (W := 0) (rm3 l Z a0 hw [] b18 b1 (4 : Int32) (cnt.toInt32) b18 ms (own_es ms cnt 4) 4 cnt T23.heap n0 Zs23 rfl rfl hS4' Vm23 (by omega) (by decide) hcnt hms g_b18 lz4 (by have := own_es_le (ms := ms) (cnt := cnt) (k := 4) (by omega); omega)) hZ (hw _ (List.mem_of_getElem? (i := 22) rfl)) (hw _ (List.mem_of_getElem? (i := 21) rfl)) (by decide) (by decide)) (g := (mkF m 191 #[.val (.long pr), .second, .val (.long qr), .second, .val (.long rr), .second, .val (.long sr), .second, iv nr, iv sm, iv (cnt.toInt32), iv mk, rv b1, rv b18, .unset, .unset] [(.int (cnt.toInt32)), (.int 4), (.ref b1), (.ref b18)])) rfl (by rw [hml]; rfl) (argsL := [(.ref b18), (.ref b1), (.int 4), (.int (cnt.toInt32))]) (rest := []) (lenOf pd_6 rfl) rfl (by show 2 * 0 + _ ≤ _; exact Nat.le_of_eq rfl) (hb hby at_191) (fun _ _ => ⟨rfl, rfl, (by decide : 7 + 1 ≤ _), (by decide : 83 + 16 ≤ _)⟩)
    dsimp only [Pt.U, Pt.locs, Pt.cells, Pt.slots] at X24 l24 y24 z24 st24 hQ24
    subst l24 y24 z24
    obtain ⟨wz24, rfl, N24q, K24, hws24, hS5⟩ := hQ24
    have hS5' : own_Set Z T24.heap b18 b18 (own_es ms cnt 5) := hS5
    have Vm24 := Vm23.keep K24 (own_nin gl_b18 hws24)
    have Zs24 : n0 ≤ T24.heap.size := Nat.le_trans Zs23 K24.1
    have N24 := Fr.app N23 N24q
    have lz5 : b18 ≤ T24.heap.size := Nat.le_trans lz4 K24.1
    obtain ⟨lq24, X24, N24⟩ : ∃ lq, Stand p l e room_1 s m #[(.long pr), (.long qr), (.long rr), (.long sr), (.int nr)] below meth c T24 lq 8 99 ∧ Fr n0 lq := ⟨_, X24, N24⟩
    refine own_go (b := T24.setTop (mkF m 194 #[.val (.long pr), .second, .val (.long qr), .second, .val (.long rr), .second, .val (.long sr), .second, iv nr, iv sm, iv (cnt.toInt32), iv mk, rv b1, rv b18, .unset, .unset] [])) st24 ?_
    refine own_go (b := T24.setTop (mkF m 196 #[.val (.long pr), .second, .val (.long qr), .second, .val (.long rr), .second, .val (.long sr), .second, iv nr, iv sm, iv (cnt.toInt32), iv mk, rv b1, rv b18, .unset, .unset] [(.ref b18)])) (fun t k => XS.aload X24.here hx rfl (hb hby at_194) rfl rfl k) ?_
    refine own_go (b := T24.setTop (mkF m 198 #[.val (.long pr), .second, .val (.long qr), .second, .val (.long rr), .second, .val (.long sr), .second, iv nr, iv sm, iv (cnt.toInt32), iv mk, rv b1, rv b18, .unset, .unset] [(.ref b1), (.ref b18)])) (fun t k => XS.aload X24.here hx rfl (hb hby at_196) rfl rfl k) ?_
    refine own_go (b := T24.setTop (mkF m 199 #[.val (.long pr), .second, .val (.long qr), .second, .val (.long rr), .second, .val (.long sr), .second, iv nr, iv sm, iv (cnt.toInt32), iv mk, rv b1, rv b18, .unset, .unset] [(.int 5), (.ref b1), (.ref b18)])) (fun t k => XS.iconst X24.here hx rfl (hb hby at_198) k) ?_
    refine own_go (b := T24.setTop (mkF m 201 #[.val (.long pr), .second, .val (.long qr), .second, .val (.long rr), .second, .val (.long sr), .second, iv nr, iv sm, iv (cnt.toInt32), iv mk, rv b1, rv b18, .unset, .unset] [(.int (cnt.toInt32)), (.int 5), (.ref b1), (.ref b18)])) (fun t k => XS.iload X24.here hx rfl (hb hby at_199) rfl  k) ?_
    obtain ⟨_, _, ⟨T25, L25, k25, n25⟩, -, X25, ⟨Lc25, hQ25, l25, y25, z25⟩, st25⟩ := Jvm.LawKit.callS X24 hx (y := (⟨"com/example/axiomloom/axiomloom/reasoner/IntSetToArrayPinLaw", "addIf", "(Lcom/example/axiomloom/axiomloom/reasoner/IntSet;[III)V"⟩ : MethodName)) hown (mvT hZ (hw _ (List.mem_of_getElem? (i := 19) rfl))) (mvT hZ (hw _ (List.mem_of_getElem? (i := 20) rfl))) (mvT hZ (hw _ (List.mem_of_getElem? (i := 21) rfl))) (mvT hZ (hw _ (List.mem_of_getElem? (i := 22) rfl))) (by decide) (backOf (W := 0) (rm3 l Z a0 hw [] b18 b1 (5 : Int32) (cnt.toInt32) b18 ms (own_es ms cnt 5) 5 cnt T24.heap n0 Zs24 rfl rfl hS5' Vm24 (by omega) (by decide) hcnt hms g_b18 lz5 (by have := own_es_le (ms := ms) (cnt := cnt) (k := 5) (by omega); omega)) hZ (hw _ (List.mem_of_getElem? (i := 22) rfl)) (hw _ (List.mem_of_getElem? (i := 21) rfl)) (by decide) (by decide)) (g := (mkF m 201 #[.val (.long pr), .second, .val (.long qr), .second, .val (.long rr), .second, .val (.long sr), .second, iv nr, iv sm, iv (cnt.toInt32), iv mk, rv b1, rv b18, .unset, .unset] [(.int (cnt.toInt32)), (.int 5), (.ref b1), (.ref b18)])) rfl (by rw [hml]; rfl) (argsL := [(.ref b18), (.ref b1), (.int 5), (.int (cnt.toInt32))]) (rest := []) (lenOf pd_6 rfl) rfl (by show 2 * 0 + _ ≤ _; exact Nat.le_of_eq rfl) (hb hby at_201) (fun _ _ => ⟨rfl, rfl, (by decide : 8 + 1 ≤ _), (by decide : 99 + 16 ≤ _)⟩)
    dsimp only [Pt.U, Pt.locs, Pt.cells, Pt.slots] at X25 l25 y25 z25 st25 hQ25
    subst l25 y25 z25
    obtain ⟨wz25, rfl, N25q, K25, hws25, hS6⟩ := hQ25
    have hS6' : own_Set Z T25.heap b18 b18 (own_es ms cnt 6) := hS6
    have Vm25 := Vm24.keep K25 (own_nin gl_b18 hws25)
    have Zs25 : n0 ≤ T25.heap.size := Nat.le_trans Zs24 K25.1
    have N25 := Fr.app N24 N25q
    have lz6 : b18 ≤ T25.heap.size := Nat.le_trans lz5 K25.1
    obtain ⟨lq25, X25, N25⟩ : ∃ lq, Stand p l e room_1 s m #[(.long pr), (.long qr), (.long rr), (.long sr), (.int nr)] below meth c T25 lq 9 115 ∧ Fr n0 lq := ⟨_, X25, N25⟩
    refine own_go (b := T25.setTop (mkF m 204 #[.val (.long pr), .second, .val (.long qr), .second, .val (.long rr), .second, .val (.long sr), .second, iv nr, iv sm, iv (cnt.toInt32), iv mk, rv b1, rv b18, .unset, .unset] [])) st25 ?_
    refine own_go (b := T25.setTop (mkF m 206 #[.val (.long pr), .second, .val (.long qr), .second, .val (.long rr), .second, .val (.long sr), .second, iv nr, iv sm, iv (cnt.toInt32), iv mk, rv b1, rv b18, .unset, .unset] [(.ref b18)])) (fun t k => XS.aload X25.here hx rfl (hb hby at_204) rfl rfl k) ?_
    refine own_go (b := T25.setTop (mkF m 208 #[.val (.long pr), .second, .val (.long qr), .second, .val (.long rr), .second, .val (.long sr), .second, iv nr, iv sm, iv (cnt.toInt32), iv mk, rv b1, rv b18, .unset, .unset] [(.ref b1), (.ref b18)])) (fun t k => XS.aload X25.here hx rfl (hb hby at_206) rfl rfl k) ?_
    refine own_go (b := T25.setTop (mkF m 210 #[.val (.long pr), .second, .val (.long qr), .second, .val (.long rr), .second, .val (.long sr), .second, iv nr, iv sm, iv (cnt.toInt32), iv mk, rv b1, rv b18, .unset, .unset] [(.int 6), (.ref b1), (.ref b18)])) (fun t k => XS.bipush X25.here hx rfl (hb hby at_208) k) ?_
    refine own_go (b := T25.setTop (mkF m 212 #[.val (.long pr), .second, .val (.long qr), .second, .val (.long rr), .second, .val (.long sr), .second, iv nr, iv sm, iv (cnt.toInt32), iv mk, rv b1, rv b18, .unset, .unset] [(.int (cnt.toInt32)), (.int 6), (.ref b1), (.ref b18)])) (fun t k => XS.iload X25.here hx rfl (hb hby at_210) rfl  k) ?_
    obtain ⟨_, _, ⟨T26, L26, k26, n26⟩, -, X26, ⟨Lc26, hQ26, l26, y26, z26⟩, st26⟩ := Jvm.LawKit.callS X25 hx (y := (⟨"com/example/axiomloom/axiomloom/reasoner/IntSetToArrayPinLaw", "addIf", "(Lcom/example/axiomloom/axiomloom/reasoner/IntSet;[III)V"⟩ : MethodName)) hown (mvT hZ (hw _ (List.mem_of_getElem? (i := 19) rfl))) (mvT hZ (hw _ (List.mem_of_getElem? (i := 20) rfl))) (mvT hZ (hw _ (List.mem_of_getElem? (i := 21) rfl))) (mvT hZ (hw _ (List.mem_of_getElem? (i := 22) rfl))) (by decide) (backOf (W := 0) (rm3 l Z a0 hw [] b18 b1 (6 : Int32) (cnt.toInt32) b18 ms (own_es ms cnt 6) 6 cnt T25.heap n0 Zs25 rfl rfl hS6' Vm25 (by omega) (by decide) hcnt hms g_b18 lz6 (by have := own_es_le (ms := ms) (cnt := cnt) (k := 6) (by omega); omega)) hZ (hw _ (List.mem_of_getElem? (i := 22) rfl)) (hw _ (List.mem_of_getElem? (i := 21) rfl)) (by decide) (by decide)) (g := (mkF m 212 #[.val (.long pr), .second, .val (.long qr), .second, .val (.long rr), .second, .val (.long sr), .second, iv nr, iv sm, iv (cnt.toInt32), iv mk, rv b1, rv b18, .unset, .unset] [(.int (cnt.toInt32)), (.int 6), (.ref b1), (.ref b18)])) rfl (by rw [hml]; rfl) (argsL := [(.ref b18), (.ref b1), (.int 6), (.int (cnt.toInt32))]) (rest := []) (lenOf pd_6 rfl) rfl (by show 2 * 0 + _ ≤ _; exact Nat.le_of_eq rfl) (hb hby at_212) (fun _ _ => ⟨rfl, rfl, (by decide : 9 + 1 ≤ _), (by decide : 115 + 16 ≤ _)⟩)
    dsimp only [Pt.U, Pt.locs, Pt.cells, Pt.slots] at X26 l26 y26 z26 st26 hQ26
    subst l26 y26 z26
    obtain ⟨wz26, rfl, N26q, K26, hws26, hS7⟩ := hQ26
    have hS7' : own_Set Z T26.heap b18 b18 (own_es ms cnt 7) := hS7
    have Vm26 := Vm25.keep K26 (own_nin gl_b18 hws26)
    have Zs26 : n0 ≤ T26.heap.size := Nat.le_trans Zs25 K26.1
    have N26 := Fr.app N25 N26q
    have lz7 : b18 ≤ T26.heap.size := Nat.le_trans lz6 K26.1
    obtain ⟨lq26, X26, N26⟩ : ∃ lq, Stand p l e room_1 s m #[(.long pr), (.long qr), (.long rr), (.long sr), (.int nr)] below meth c T26 lq 10 131 ∧ Fr n0 lq := ⟨_, X26, N26⟩
    refine own_go (b := T26.setTop (mkF m 215 #[.val (.long pr), .second, .val (.long qr), .second, .val (.long rr), .second, .val (.long sr), .second, iv nr, iv sm, iv (cnt.toInt32), iv mk, rv b1, rv b18, .unset, .unset] [])) st26 ?_
    refine own_go (b := T26.setTop (mkF m 217 #[.val (.long pr), .second, .val (.long qr), .second, .val (.long rr), .second, .val (.long sr), .second, iv nr, iv sm, iv (cnt.toInt32), iv mk, rv b1, rv b18, .unset, .unset] [(.ref b18)])) (fun t k => XS.aload X26.here hx rfl (hb hby at_215) rfl rfl k) ?_
    refine own_go (b := T26.setTop (mkF m 219 #[.val (.long pr), .second, .val (.long qr), .second, .val (.long rr), .second, .val (.long sr), .second, iv nr, iv sm, iv (cnt.toInt32), iv mk, rv b1, rv b18, .unset, .unset] [(.ref b1), (.ref b18)])) (fun t k => XS.aload X26.here hx rfl (hb hby at_217) rfl rfl k) ?_
    refine own_go (b := T26.setTop (mkF m 221 #[.val (.long pr), .second, .val (.long qr), .second, .val (.long rr), .second, .val (.long sr), .second, iv nr, iv sm, iv (cnt.toInt32), iv mk, rv b1, rv b18, .unset, .unset] [(.int 7), (.ref b1), (.ref b18)])) (fun t k => XS.bipush X26.here hx rfl (hb hby at_219) k) ?_
    refine own_go (b := T26.setTop (mkF m 223 #[.val (.long pr), .second, .val (.long qr), .second, .val (.long rr), .second, .val (.long sr), .second, iv nr, iv sm, iv (cnt.toInt32), iv mk, rv b1, rv b18, .unset, .unset] [(.int (cnt.toInt32)), (.int 7), (.ref b1), (.ref b18)])) (fun t k => XS.iload X26.here hx rfl (hb hby at_221) rfl  k) ?_
    obtain ⟨_, _, ⟨T27, L27, k27, n27⟩, -, X27, ⟨Lc27, hQ27, l27, y27, z27⟩, st27⟩ := Jvm.LawKit.callS X26 hx (y := (⟨"com/example/axiomloom/axiomloom/reasoner/IntSetToArrayPinLaw", "addIf", "(Lcom/example/axiomloom/axiomloom/reasoner/IntSet;[III)V"⟩ : MethodName)) hown (mvT hZ (hw _ (List.mem_of_getElem? (i := 19) rfl))) (mvT hZ (hw _ (List.mem_of_getElem? (i := 20) rfl))) (mvT hZ (hw _ (List.mem_of_getElem? (i := 21) rfl))) (mvT hZ (hw _ (List.mem_of_getElem? (i := 22) rfl))) (by decide) (backOf (W := 0) (rm3 l Z a0 hw [] b18 b1 (7 : Int32) (cnt.toInt32) b18 ms (own_es ms cnt 7) 7 cnt T26.heap n0 Zs26 rfl rfl hS7' Vm26 (by omega) (by decide) hcnt hms g_b18 lz7 (by have := own_es_le (ms := ms) (cnt := cnt) (k := 7) (by omega); omega)) hZ (hw _ (List.mem_of_getElem? (i := 22) rfl)) (hw _ (List.mem_of_getElem? (i := 21) rfl)) (by decide) (by decide)) (g := (mkF m 223 #[.val (.long pr), .second, .val (.long qr), .second, .val (.long rr), .second, .val (.long sr), .second, iv nr, iv sm, iv (cnt.toInt32), iv mk, rv b1, rv b18, .unset, .unset] [(.int (cnt.toInt32)), (.int 7), (.ref b1), (.ref b18)])) rfl (by rw [hml]; rfl) (argsL := [(.ref b18), (.ref b1), (.int 7), (.int (cnt.toInt32))]) (rest := []) (lenOf pd_6 rfl) rfl (by show 2 * 0 + _ ≤ _; exact Nat.le_of_eq rfl) (hb hby at_223) (fun _ _ => ⟨rfl, rfl, (by decide : 10 + 1 ≤ _), (by decide : 131 + 16 ≤ _)⟩)
    dsimp only [Pt.U, Pt.locs, Pt.cells, Pt.slots] at X27 l27 y27 z27 st27 hQ27
    subst l27 y27 z27
    obtain ⟨wz27, rfl, N27q, K27, hws27, hS8⟩ := hQ27
    have hS8' : own_Set Z T27.heap b18 b18 (own_es ms cnt 8) := hS8
    have Vm27 := Vm26.keep K27 (own_nin gl_b18 hws27)
    have Zs27 : n0 ≤ T27.heap.size := Nat.le_trans Zs26 K27.1
    have N27 := Fr.app N26 N27q
    have lz8 : b18 ≤ T27.heap.size := Nat.le_trans lz7 K27.1
    obtain ⟨lq27, X27, N27⟩ : ∃ lq, Stand p l e room_1 s m #[(.long pr), (.long qr), (.long rr), (.long sr), (.int nr)] below meth c T27 lq 11 147 ∧ Fr n0 lq := ⟨_, X27, N27⟩
    refine own_go (b := T27.setTop (mkF m 226 #[.val (.long pr), .second, .val (.long qr), .second, .val (.long rr), .second, .val (.long sr), .second, iv nr, iv sm, iv (cnt.toInt32), iv mk, rv b1, rv b18, .unset, .unset] [])) st27 ?_
    refine own_go (b := T27.setTop (mkF m 228 #[.val (.long pr), .second, .val (.long qr), .second, .val (.long rr), .second, .val (.long sr), .second, iv nr, iv sm, iv (cnt.toInt32), iv mk, rv b1, rv b18, .unset, .unset] [(.ref b18)])) (fun t k => XS.aload X27.here hx rfl (hb hby at_226) rfl rfl k) ?_
    obtain ⟨cq28, kq28, q28a, q28b, q28c⟩ := isOf hZ rfl (own_SetE hS8')
    obtain ⟨_, _, ⟨T28, L28, k28, n28⟩, -, X28, ⟨Lc28, hQ28, l28, y28, z28⟩, st28⟩ := X27.virtualBack hx (y := (⟨"com/example/axiomloom/axiomloom/reasoner/IntSet", "toArray", "()[I"⟩ : MethodName)) (z := (⟨"com/example/axiomloom/axiomloom/reasoner/IntSet", "toArray", "()[I"⟩ : MethodName)) hown (mvT hZ (hw _ (List.mem_of_getElem? (i := 34) rfl))) (mvT hZ (hw _ (List.mem_of_getElem? (i := 35) rfl))) (notFace_of_selects (args := #[]) (mvT hZ (hw _ (List.mem_of_getElem? (i := 37) rfl)))) (mvT hZ (hw _ (List.mem_of_getElem? (i := 37) rfl))) (mvT hZ (hw _ (List.mem_of_getElem? (i := 36) rfl))) (by decide) (backOf (W := 0) (rm6 l Z a0 hw [] b18 b18 (own_es ms cnt 8) T27.heap n0 Zs27 hS8' (own_es_le (by omega))) hZ (hw _ (List.mem_of_getElem? (i := 38) rfl)) (hw _ (List.mem_of_getElem? (i := 6) rfl)) (by decide) (by decide)) q28a q28c (g := (mkF m 228 #[.val (.long pr), .second, .val (.long qr), .second, .val (.long rr), .second, .val (.long sr), .second, iv nr, iv sm, iv (cnt.toInt32), iv mk, rv b1, rv b18, .unset, .unset] [(.ref b18)])) rfl (by rw [hml]; rfl) (Steps.refl _) (argsL := []) (rest := []) (lenOf pd_7 rfl) rfl (by show 2 * 0 + _ ≤ _; exact Nat.le_of_eq rfl) (hb hby at_228) (fun _ _ => ⟨rfl, rfl, (by decide : 11 + 1 ≤ _), (by decide : 147 + 8 ≤ _)⟩)
    dsimp only [Pt.U, Pt.locs, Pt.cells, Pt.slots] at X28 l28 y28 z28 st28 hQ28
    subst l28 y28 z28
    obtain ⟨ra, as, rfl, N28q, K28, hra, Vr, hpe⟩ := hQ28
    have Vm28 := Vm27.keep K28 nin0
    have Zs28 : n0 ≤ T28.heap.size := Nat.le_trans Zs27 K28.1
    have N28 := Fr.app N27 N28q
    have hel8 := own_es_le (ms := ms) (cnt := cnt) (k := 8) (by omega)
    have hal := hpe.length_eq
    obtain ⟨lq28, X28, N28⟩ : ∃ lq, Stand p l e room_1 s m #[(.long pr), (.long qr), (.long rr), (.long sr), (.int nr)] below meth c T28 lq 12 155 ∧ Fr n0 lq := ⟨_, X28, N28⟩
    refine own_tr (b := T28.setTop (mkF m 231 #[.val (.long pr), .second, .val (.long qr), .second, .val (.long rr), .second, .val (.long sr), .second, iv nr, iv sm, iv (cnt.toInt32), iv mk, rv b1, rv b18, .unset, .unset] [(.ref ra)])) st28 ?_
    refine own_go (b := T28.setTop (mkF m 233 #[.val (.long pr), .second, .val (.long qr), .second, .val (.long rr), .second, .val (.long sr), .second, iv nr, iv sm, iv (cnt.toInt32), iv mk, rv b1, rv b18, rv ra, .unset] [])) (fun t k => XS.astore X28.here hx rfl (hb hby at_231) rfl rfl (l' := #[.val (.long pr), .second, .val (.long qr), .second, .val (.long rr), .second, .val (.long sr), .second, iv nr, iv sm, iv (cnt.toInt32), iv mk, rv b1, rv b18, rv ra, .unset]) rfl k) ?_
    refine own_go (b := T28.setTop (mkF m 235 #[.val (.long pr), .second, .val (.long qr), .second, .val (.long rr), .second, .val (.long sr), .second, iv nr, iv sm, iv (cnt.toInt32), iv mk, rv b1, rv b18, rv ra, .unset] [(.ref b1)])) (fun t k => XS.aload X28.here hx rfl (hb hby at_233) rfl rfl k) ?_
    refine own_go (b := T28.setTop (mkF m 236 #[.val (.long pr), .second, .val (.long qr), .second, .val (.long rr), .second, .val (.long sr), .second, iv nr, iv sm, iv (cnt.toInt32), iv mk, rv b1, rv b18, rv ra, .unset] [(.int 0), (.ref b1)])) (fun t k => XS.iconst X28.here hx rfl (hb hby at_235) k) ?_
    refine own_go (b := T28.setTop (mkF m 238 #[.val (.long pr), .second, .val (.long qr), .second, .val (.long rr), .second, .val (.long sr), .second, iv nr, iv sm, iv (cnt.toInt32), iv mk, rv b1, rv b18, rv ra, .unset] [(.int (cnt.toInt32)), (.int 0), (.ref b1)])) (fun t k => XS.iload X28.here hx rfl (hb hby at_236) rfl  k) ?_
    obtain ⟨_, _, ⟨T29, L29, k29, n29⟩, -, X29, ⟨Lc29, hQ29, l29, y29, z29⟩, st29⟩ := Jvm.LawKit.callS X28 hx (y := (⟨"com/example/axiomloom/axiomloom/reasoner/IntSetToArrayPinLaw", "fresh", "([III)I"⟩ : MethodName)) hown (mvT hZ (hw _ (List.mem_of_getElem? (i := 39) rfl))) (mvT hZ (hw _ (List.mem_of_getElem? (i := 40) rfl))) (mvT hZ (hw _ (List.mem_of_getElem? (i := 21) rfl))) (mvT hZ (hw _ (List.mem_of_getElem? (i := 41) rfl))) (by decide) (backOf (W := 0) (rm7 l Z a0 hw [] b1 (0 : Int32) (cnt.toInt32) ms 0 cnt T28.heap n0 Zs28 Vm28 rfl rfl (by decide) hmL hcnt) hZ (hw _ (List.mem_of_getElem? (i := 41) rfl)) (hw _ (List.mem_of_getElem? (i := 21) rfl)) (by decide) (by decide)) (g := (mkF m 238 #[.val (.long pr), .second, .val (.long qr), .second, .val (.long rr), .second, .val (.long sr), .second, iv nr, iv sm, iv (cnt.toInt32), iv mk, rv b1, rv b18, rv ra, .unset] [(.int (cnt.toInt32)), (.int 0), (.ref b1)])) rfl (by rw [hml]; rfl) (argsL := [(.ref b1), (.int 0), (.int (cnt.toInt32))]) (rest := []) (lenOf pd_1 rfl) rfl (by show 2 * 0 + _ ≤ _; exact Nat.le_of_eq rfl) (hb hby at_238) (fun _ _ => ⟨rfl, rfl, (by decide : 12 + 0 ≤ _), (by decide : 155 + 0 ≤ _)⟩)
    dsimp only [Pt.U, Pt.locs, Pt.cells, Pt.slots] at X29 l29 y29 z29 st29 hQ29
    subst l29 y29 z29
    obtain ⟨rfl, N29q, e29⟩ := hQ29
    have N29 := Fr.app N28 N29q
    obtain ⟨lq29, X29, N29⟩ : ∃ lq, Stand p l e room_1 s m #[(.long pr), (.long qr), (.long rr), (.long sr), (.int nr)] below meth c T29 lq 12 155 ∧ Fr n0 lq := ⟨_, X29, N29⟩
    refine own_go (b := T29.setTop (mkF m 241 #[.val (.long pr), .second, .val (.long qr), .second, .val (.long rr), .second, .val (.long sr), .second, iv nr, iv sm, iv (cnt.toInt32), iv mk, rv b1, rv b18, rv ra, .unset] [(.int ((own_fr ms cnt 0).toInt32))])) st29 ?_
    refine own_go (b := T29.setTop (mkF m 243 #[.val (.long pr), .second, .val (.long qr), .second, .val (.long rr), .second, .val (.long sr), .second, iv nr, iv sm, iv (cnt.toInt32), iv mk, rv b1, rv b18, rv ra, .unset] [(.ref b1), (.int ((own_fr ms cnt 0).toInt32))])) (fun t k => XS.aload X29.here hx rfl (hb hby at_241) rfl rfl k) ?_
    refine own_go (b := T29.setTop (mkF m 244 #[.val (.long pr), .second, .val (.long qr), .second, .val (.long rr), .second, .val (.long sr), .second, iv nr, iv sm, iv (cnt.toInt32), iv mk, rv b1, rv b18, rv ra, .unset] [(.int 1), (.ref b1), (.int ((own_fr ms cnt 0).toInt32))])) (fun t k => XS.iconst X29.here hx rfl (hb hby at_243) k) ?_
    refine own_go (b := T29.setTop (mkF m 246 #[.val (.long pr), .second, .val (.long qr), .second, .val (.long rr), .second, .val (.long sr), .second, iv nr, iv sm, iv (cnt.toInt32), iv mk, rv b1, rv b18, rv ra, .unset] [(.int (cnt.toInt32)), (.int 1), (.ref b1), (.int ((own_fr ms cnt 0).toInt32))])) (fun t k => XS.iload X29.here hx rfl (hb hby at_244) rfl  k) ?_
    obtain ⟨_, _, ⟨T30, L30, k30, n30⟩, -, X30, ⟨Lc30, hQ30, l30, y30, z30⟩, st30⟩ := Jvm.LawKit.callS X29 hx (y := (⟨"com/example/axiomloom/axiomloom/reasoner/IntSetToArrayPinLaw", "fresh", "([III)I"⟩ : MethodName)) hown (mvT hZ (hw _ (List.mem_of_getElem? (i := 39) rfl))) (mvT hZ (hw _ (List.mem_of_getElem? (i := 40) rfl))) (mvT hZ (hw _ (List.mem_of_getElem? (i := 21) rfl))) (mvT hZ (hw _ (List.mem_of_getElem? (i := 41) rfl))) (by decide) (backOf (W := 1) (rm7 l Z a0 hw [] b1 (1 : Int32) (cnt.toInt32) ms 1 cnt T28.heap n0 Zs28 Vm28 rfl rfl (by decide) hmL hcnt) hZ (hw _ (List.mem_of_getElem? (i := 41) rfl)) (hw _ (List.mem_of_getElem? (i := 21) rfl)) (by decide) (by decide)) (g := (mkF m 246 #[.val (.long pr), .second, .val (.long qr), .second, .val (.long rr), .second, .val (.long sr), .second, iv nr, iv sm, iv (cnt.toInt32), iv mk, rv b1, rv b18, rv ra, .unset] [(.int (cnt.toInt32)), (.int 1), (.ref b1), (.int ((own_fr ms cnt 0).toInt32))])) rfl (by rw [hml]; rfl) (argsL := [(.ref b1), (.int 1), (.int (cnt.toInt32))]) (rest := [(.int ((own_fr ms cnt 0).toInt32))]) (lenOf pd_1 rfl) rfl (by show 2 * 0 + _ ≤ _; exact Nat.le_of_eq rfl) (hb hby at_246) (fun _ _ => ⟨rfl, e29, (by decide : 12 + 0 ≤ _), (by decide : 155 + 0 ≤ _)⟩)
    dsimp only [Pt.U, Pt.locs, Pt.cells, Pt.slots] at X30 l30 y30 z30 st30 hQ30
    subst l30 y30 z30
    obtain ⟨rfl, N30q, e30⟩ := hQ30
    have N30 := Fr.app N29 N30q
    obtain ⟨lq30, X30, N30⟩ : ∃ lq, Stand p l e room_1 s m #[(.long pr), (.long qr), (.long rr), (.long sr), (.int nr)] below meth c T30 lq 12 155 ∧ Fr n0 lq := ⟨_, X30, N30⟩
    refine own_go (b := T30.setTop (mkF m 249 #[.val (.long pr), .second, .val (.long qr), .second, .val (.long rr), .second, .val (.long sr), .second, iv nr, iv sm, iv (cnt.toInt32), iv mk, rv b1, rv b18, rv ra, .unset] [(.int ((own_fr ms cnt 1).toInt32)), (.int ((own_fr ms cnt 0).toInt32))])) st30 ?_
    refine own_go (b := T30.setTop (mkF m 250 #[.val (.long pr), .second, .val (.long qr), .second, .val (.long rr), .second, .val (.long sr), .second, iv nr, iv sm, iv (cnt.toInt32), iv mk, rv b1, rv b18, rv ra, .unset] [(.int (((own_fr ms cnt 0).toInt32) + ((own_fr ms cnt 1).toInt32)))])) (fun t k => XS.iadd X30.here hx rfl (hb hby at_249) rfl k) ?_
    refine own_go (b := T30.setTop (mkF m 252 #[.val (.long pr), .second, .val (.long qr), .second, .val (.long rr), .second, .val (.long sr), .second, iv nr, iv sm, iv (cnt.toInt32), iv mk, rv b1, rv b18, rv ra, .unset] [(.ref b1), (.int (((own_fr ms cnt 0).toInt32) + ((own_fr ms cnt 1).toInt32)))])) (fun t k => XS.aload X30.here hx rfl (hb hby at_250) rfl rfl k) ?_
    refine own_go (b := T30.setTop (mkF m 253 #[.val (.long pr), .second, .val (.long qr), .second, .val (.long rr), .second, .val (.long sr), .second, iv nr, iv sm, iv (cnt.toInt32), iv mk, rv b1, rv b18, rv ra, .unset] [(.int 2), (.ref b1), (.int (((own_fr ms cnt 0).toInt32) + ((own_fr ms cnt 1).toInt32)))])) (fun t k => XS.iconst X30.here hx rfl (hb hby at_252) k) ?_
    refine own_go (b := T30.setTop (mkF m 255 #[.val (.long pr), .second, .val (.long qr), .second, .val (.long rr), .second, .val (.long sr), .second, iv nr, iv sm, iv (cnt.toInt32), iv mk, rv b1, rv b18, rv ra, .unset] [(.int (cnt.toInt32)), (.int 2), (.ref b1), (.int (((own_fr ms cnt 0).toInt32) + ((own_fr ms cnt 1).toInt32)))])) (fun t k => XS.iload X30.here hx rfl (hb hby at_253) rfl  k) ?_
    obtain ⟨_, _, ⟨T31, L31, k31, n31⟩, -, X31, ⟨Lc31, hQ31, l31, y31, z31⟩, st31⟩ := Jvm.LawKit.callS X30 hx (y := (⟨"com/example/axiomloom/axiomloom/reasoner/IntSetToArrayPinLaw", "fresh", "([III)I"⟩ : MethodName)) hown (mvT hZ (hw _ (List.mem_of_getElem? (i := 39) rfl))) (mvT hZ (hw _ (List.mem_of_getElem? (i := 40) rfl))) (mvT hZ (hw _ (List.mem_of_getElem? (i := 21) rfl))) (mvT hZ (hw _ (List.mem_of_getElem? (i := 41) rfl))) (by decide) (backOf (W := 1) (rm7 l Z a0 hw [] b1 (2 : Int32) (cnt.toInt32) ms 2 cnt T28.heap n0 Zs28 Vm28 rfl rfl (by decide) hmL hcnt) hZ (hw _ (List.mem_of_getElem? (i := 41) rfl)) (hw _ (List.mem_of_getElem? (i := 21) rfl)) (by decide) (by decide)) (g := (mkF m 255 #[.val (.long pr), .second, .val (.long qr), .second, .val (.long rr), .second, .val (.long sr), .second, iv nr, iv sm, iv (cnt.toInt32), iv mk, rv b1, rv b18, rv ra, .unset] [(.int (cnt.toInt32)), (.int 2), (.ref b1), (.int (((own_fr ms cnt 0).toInt32) + ((own_fr ms cnt 1).toInt32)))])) rfl (by rw [hml]; rfl) (argsL := [(.ref b1), (.int 2), (.int (cnt.toInt32))]) (rest := [(.int (((own_fr ms cnt 0).toInt32) + ((own_fr ms cnt 1).toInt32)))]) (lenOf pd_1 rfl) rfl (by show 2 * 0 + _ ≤ _; exact Nat.le_of_eq rfl) (hb hby at_255) (fun _ _ => ⟨rfl, e30, (by decide : 12 + 0 ≤ _), (by decide : 155 + 0 ≤ _)⟩)
    dsimp only [Pt.U, Pt.locs, Pt.cells, Pt.slots] at X31 l31 y31 z31 st31 hQ31
    subst l31 y31 z31
    obtain ⟨rfl, N31q, e31⟩ := hQ31
    have N31 := Fr.app N30 N31q
    obtain ⟨lq31, X31, N31⟩ : ∃ lq, Stand p l e room_1 s m #[(.long pr), (.long qr), (.long rr), (.long sr), (.int nr)] below meth c T31 lq 12 155 ∧ Fr n0 lq := ⟨_, X31, N31⟩
    refine own_go (b := T31.setTop (mkF m 258 #[.val (.long pr), .second, .val (.long qr), .second, .val (.long rr), .second, .val (.long sr), .second, iv nr, iv sm, iv (cnt.toInt32), iv mk, rv b1, rv b18, rv ra, .unset] [(.int ((own_fr ms cnt 2).toInt32)), (.int (((own_fr ms cnt 0).toInt32) + ((own_fr ms cnt 1).toInt32)))])) st31 ?_
    refine own_go (b := T31.setTop (mkF m 259 #[.val (.long pr), .second, .val (.long qr), .second, .val (.long rr), .second, .val (.long sr), .second, iv nr, iv sm, iv (cnt.toInt32), iv mk, rv b1, rv b18, rv ra, .unset] [(.int ((((own_fr ms cnt 0).toInt32) + ((own_fr ms cnt 1).toInt32)) + ((own_fr ms cnt 2).toInt32)))])) (fun t k => XS.iadd X31.here hx rfl (hb hby at_258) rfl k) ?_
    refine own_go (b := T31.setTop (mkF m 261 #[.val (.long pr), .second, .val (.long qr), .second, .val (.long rr), .second, .val (.long sr), .second, iv nr, iv sm, iv (cnt.toInt32), iv mk, rv b1, rv b18, rv ra, .unset] [(.ref b1), (.int ((((own_fr ms cnt 0).toInt32) + ((own_fr ms cnt 1).toInt32)) + ((own_fr ms cnt 2).toInt32)))])) (fun t k => XS.aload X31.here hx rfl (hb hby at_259) rfl rfl k) ?_
    refine own_go (b := T31.setTop (mkF m 262 #[.val (.long pr), .second, .val (.long qr), .second, .val (.long rr), .second, .val (.long sr), .second, iv nr, iv sm, iv (cnt.toInt32), iv mk, rv b1, rv b18, rv ra, .unset] [(.int 3), (.ref b1), (.int ((((own_fr ms cnt 0).toInt32) + ((own_fr ms cnt 1).toInt32)) + ((own_fr ms cnt 2).toInt32)))])) (fun t k => XS.iconst X31.here hx rfl (hb hby at_261) k) ?_
    refine own_go (b := T31.setTop (mkF m 264 #[.val (.long pr), .second, .val (.long qr), .second, .val (.long rr), .second, .val (.long sr), .second, iv nr, iv sm, iv (cnt.toInt32), iv mk, rv b1, rv b18, rv ra, .unset] [(.int (cnt.toInt32)), (.int 3), (.ref b1), (.int ((((own_fr ms cnt 0).toInt32) + ((own_fr ms cnt 1).toInt32)) + ((own_fr ms cnt 2).toInt32)))])) (fun t k => XS.iload X31.here hx rfl (hb hby at_262) rfl  k) ?_
    obtain ⟨_, _, ⟨T32, L32, k32, n32⟩, -, X32, ⟨Lc32, hQ32, l32, y32, z32⟩, st32⟩ := Jvm.LawKit.callS X31 hx (y := (⟨"com/example/axiomloom/axiomloom/reasoner/IntSetToArrayPinLaw", "fresh", "([III)I"⟩ : MethodName)) hown (mvT hZ (hw _ (List.mem_of_getElem? (i := 39) rfl))) (mvT hZ (hw _ (List.mem_of_getElem? (i := 40) rfl))) (mvT hZ (hw _ (List.mem_of_getElem? (i := 21) rfl))) (mvT hZ (hw _ (List.mem_of_getElem? (i := 41) rfl))) (by decide) (backOf (W := 1) (rm7 l Z a0 hw [] b1 (3 : Int32) (cnt.toInt32) ms 3 cnt T28.heap n0 Zs28 Vm28 rfl rfl (by decide) hmL hcnt) hZ (hw _ (List.mem_of_getElem? (i := 41) rfl)) (hw _ (List.mem_of_getElem? (i := 21) rfl)) (by decide) (by decide)) (g := (mkF m 264 #[.val (.long pr), .second, .val (.long qr), .second, .val (.long rr), .second, .val (.long sr), .second, iv nr, iv sm, iv (cnt.toInt32), iv mk, rv b1, rv b18, rv ra, .unset] [(.int (cnt.toInt32)), (.int 3), (.ref b1), (.int ((((own_fr ms cnt 0).toInt32) + ((own_fr ms cnt 1).toInt32)) + ((own_fr ms cnt 2).toInt32)))])) rfl (by rw [hml]; rfl) (argsL := [(.ref b1), (.int 3), (.int (cnt.toInt32))]) (rest := [(.int ((((own_fr ms cnt 0).toInt32) + ((own_fr ms cnt 1).toInt32)) + ((own_fr ms cnt 2).toInt32)))]) (lenOf pd_1 rfl) rfl (by show 2 * 0 + _ ≤ _; exact Nat.le_of_eq rfl) (hb hby at_264) (fun _ _ => ⟨rfl, e31, (by decide : 12 + 0 ≤ _), (by decide : 155 + 0 ≤ _)⟩)
    dsimp only [Pt.U, Pt.locs, Pt.cells, Pt.slots] at X32 l32 y32 z32 st32 hQ32
    subst l32 y32 z32
    obtain ⟨rfl, N32q, e32⟩ := hQ32
    have N32 := Fr.app N31 N32q
    obtain ⟨lq32, X32, N32⟩ : ∃ lq, Stand p l e room_1 s m #[(.long pr), (.long qr), (.long rr), (.long sr), (.int nr)] below meth c T32 lq 12 155 ∧ Fr n0 lq := ⟨_, X32, N32⟩
    refine own_go (b := T32.setTop (mkF m 267 #[.val (.long pr), .second, .val (.long qr), .second, .val (.long rr), .second, .val (.long sr), .second, iv nr, iv sm, iv (cnt.toInt32), iv mk, rv b1, rv b18, rv ra, .unset] [(.int ((own_fr ms cnt 3).toInt32)), (.int ((((own_fr ms cnt 0).toInt32) + ((own_fr ms cnt 1).toInt32)) + ((own_fr ms cnt 2).toInt32)))])) st32 ?_
    refine own_go (b := T32.setTop (mkF m 268 #[.val (.long pr), .second, .val (.long qr), .second, .val (.long rr), .second, .val (.long sr), .second, iv nr, iv sm, iv (cnt.toInt32), iv mk, rv b1, rv b18, rv ra, .unset] [(.int (((((own_fr ms cnt 0).toInt32) + ((own_fr ms cnt 1).toInt32)) + ((own_fr ms cnt 2).toInt32)) + ((own_fr ms cnt 3).toInt32)))])) (fun t k => XS.iadd X32.here hx rfl (hb hby at_267) rfl k) ?_
    refine own_go (b := T32.setTop (mkF m 270 #[.val (.long pr), .second, .val (.long qr), .second, .val (.long rr), .second, .val (.long sr), .second, iv nr, iv sm, iv (cnt.toInt32), iv mk, rv b1, rv b18, rv ra, .unset] [(.ref b1), (.int (((((own_fr ms cnt 0).toInt32) + ((own_fr ms cnt 1).toInt32)) + ((own_fr ms cnt 2).toInt32)) + ((own_fr ms cnt 3).toInt32)))])) (fun t k => XS.aload X32.here hx rfl (hb hby at_268) rfl rfl k) ?_
    refine own_go (b := T32.setTop (mkF m 271 #[.val (.long pr), .second, .val (.long qr), .second, .val (.long rr), .second, .val (.long sr), .second, iv nr, iv sm, iv (cnt.toInt32), iv mk, rv b1, rv b18, rv ra, .unset] [(.int 4), (.ref b1), (.int (((((own_fr ms cnt 0).toInt32) + ((own_fr ms cnt 1).toInt32)) + ((own_fr ms cnt 2).toInt32)) + ((own_fr ms cnt 3).toInt32)))])) (fun t k => XS.iconst X32.here hx rfl (hb hby at_270) k) ?_
    refine own_go (b := T32.setTop (mkF m 273 #[.val (.long pr), .second, .val (.long qr), .second, .val (.long rr), .second, .val (.long sr), .second, iv nr, iv sm, iv (cnt.toInt32), iv mk, rv b1, rv b18, rv ra, .unset] [(.int (cnt.toInt32)), (.int 4), (.ref b1), (.int (((((own_fr ms cnt 0).toInt32) + ((own_fr ms cnt 1).toInt32)) + ((own_fr ms cnt 2).toInt32)) + ((own_fr ms cnt 3).toInt32)))])) (fun t k => XS.iload X32.here hx rfl (hb hby at_271) rfl  k) ?_
    obtain ⟨_, _, ⟨T33, L33, k33, n33⟩, -, X33, ⟨Lc33, hQ33, l33, y33, z33⟩, st33⟩ := Jvm.LawKit.callS X32 hx (y := (⟨"com/example/axiomloom/axiomloom/reasoner/IntSetToArrayPinLaw", "fresh", "([III)I"⟩ : MethodName)) hown (mvT hZ (hw _ (List.mem_of_getElem? (i := 39) rfl))) (mvT hZ (hw _ (List.mem_of_getElem? (i := 40) rfl))) (mvT hZ (hw _ (List.mem_of_getElem? (i := 21) rfl))) (mvT hZ (hw _ (List.mem_of_getElem? (i := 41) rfl))) (by decide) (backOf (W := 1) (rm7 l Z a0 hw [] b1 (4 : Int32) (cnt.toInt32) ms 4 cnt T28.heap n0 Zs28 Vm28 rfl rfl (by decide) hmL hcnt) hZ (hw _ (List.mem_of_getElem? (i := 41) rfl)) (hw _ (List.mem_of_getElem? (i := 21) rfl)) (by decide) (by decide)) (g := (mkF m 273 #[.val (.long pr), .second, .val (.long qr), .second, .val (.long rr), .second, .val (.long sr), .second, iv nr, iv sm, iv (cnt.toInt32), iv mk, rv b1, rv b18, rv ra, .unset] [(.int (cnt.toInt32)), (.int 4), (.ref b1), (.int (((((own_fr ms cnt 0).toInt32) + ((own_fr ms cnt 1).toInt32)) + ((own_fr ms cnt 2).toInt32)) + ((own_fr ms cnt 3).toInt32)))])) rfl (by rw [hml]; rfl) (argsL := [(.ref b1), (.int 4), (.int (cnt.toInt32))]) (rest := [(.int (((((own_fr ms cnt 0).toInt32) + ((own_fr ms cnt 1).toInt32)) + ((own_fr ms cnt 2).toInt32)) + ((own_fr ms cnt 3).toInt32)))]) (lenOf pd_1 rfl) rfl (by show 2 * 0 + _ ≤ _; exact Nat.le_of_eq rfl) (hb hby at_273) (fun _ _ => ⟨rfl, e32, (by decide : 12 + 0 ≤ _), (by decide : 155 + 0 ≤ _)⟩)
    dsimp only [Pt.U, Pt.locs, Pt.cells, Pt.slots] at X33 l33 y33 z33 st33 hQ33
    subst l33 y33 z33
    obtain ⟨rfl, N33q, e33⟩ := hQ33
    have N33 := Fr.app N32 N33q
    obtain ⟨lq33, X33, N33⟩ : ∃ lq, Stand p l e room_1 s m #[(.long pr), (.long qr), (.long rr), (.long sr), (.int nr)] below meth c T33 lq 12 155 ∧ Fr n0 lq := ⟨_, X33, N33⟩
    refine own_go (b := T33.setTop (mkF m 276 #[.val (.long pr), .second, .val (.long qr), .second, .val (.long rr), .second, .val (.long sr), .second, iv nr, iv sm, iv (cnt.toInt32), iv mk, rv b1, rv b18, rv ra, .unset] [(.int ((own_fr ms cnt 4).toInt32)), (.int (((((own_fr ms cnt 0).toInt32) + ((own_fr ms cnt 1).toInt32)) + ((own_fr ms cnt 2).toInt32)) + ((own_fr ms cnt 3).toInt32)))])) st33 ?_
    refine own_go (b := T33.setTop (mkF m 277 #[.val (.long pr), .second, .val (.long qr), .second, .val (.long rr), .second, .val (.long sr), .second, iv nr, iv sm, iv (cnt.toInt32), iv mk, rv b1, rv b18, rv ra, .unset] [(.int ((((((own_fr ms cnt 0).toInt32) + ((own_fr ms cnt 1).toInt32)) + ((own_fr ms cnt 2).toInt32)) + ((own_fr ms cnt 3).toInt32)) + ((own_fr ms cnt 4).toInt32)))])) (fun t k => XS.iadd X33.here hx rfl (hb hby at_276) rfl k) ?_
    refine own_go (b := T33.setTop (mkF m 279 #[.val (.long pr), .second, .val (.long qr), .second, .val (.long rr), .second, .val (.long sr), .second, iv nr, iv sm, iv (cnt.toInt32), iv mk, rv b1, rv b18, rv ra, .unset] [(.ref b1), (.int ((((((own_fr ms cnt 0).toInt32) + ((own_fr ms cnt 1).toInt32)) + ((own_fr ms cnt 2).toInt32)) + ((own_fr ms cnt 3).toInt32)) + ((own_fr ms cnt 4).toInt32)))])) (fun t k => XS.aload X33.here hx rfl (hb hby at_277) rfl rfl k) ?_
    refine own_go (b := T33.setTop (mkF m 280 #[.val (.long pr), .second, .val (.long qr), .second, .val (.long rr), .second, .val (.long sr), .second, iv nr, iv sm, iv (cnt.toInt32), iv mk, rv b1, rv b18, rv ra, .unset] [(.int 5), (.ref b1), (.int ((((((own_fr ms cnt 0).toInt32) + ((own_fr ms cnt 1).toInt32)) + ((own_fr ms cnt 2).toInt32)) + ((own_fr ms cnt 3).toInt32)) + ((own_fr ms cnt 4).toInt32)))])) (fun t k => XS.iconst X33.here hx rfl (hb hby at_279) k) ?_
    refine own_go (b := T33.setTop (mkF m 282 #[.val (.long pr), .second, .val (.long qr), .second, .val (.long rr), .second, .val (.long sr), .second, iv nr, iv sm, iv (cnt.toInt32), iv mk, rv b1, rv b18, rv ra, .unset] [(.int (cnt.toInt32)), (.int 5), (.ref b1), (.int ((((((own_fr ms cnt 0).toInt32) + ((own_fr ms cnt 1).toInt32)) + ((own_fr ms cnt 2).toInt32)) + ((own_fr ms cnt 3).toInt32)) + ((own_fr ms cnt 4).toInt32)))])) (fun t k => XS.iload X33.here hx rfl (hb hby at_280) rfl  k) ?_
    obtain ⟨_, _, ⟨T34, L34, k34, n34⟩, -, X34, ⟨Lc34, hQ34, l34, y34, z34⟩, st34⟩ := Jvm.LawKit.callS X33 hx (y := (⟨"com/example/axiomloom/axiomloom/reasoner/IntSetToArrayPinLaw", "fresh", "([III)I"⟩ : MethodName)) hown (mvT hZ (hw _ (List.mem_of_getElem? (i := 39) rfl))) (mvT hZ (hw _ (List.mem_of_getElem? (i := 40) rfl))) (mvT hZ (hw _ (List.mem_of_getElem? (i := 21) rfl))) (mvT hZ (hw _ (List.mem_of_getElem? (i := 41) rfl))) (by decide) (backOf (W := 1) (rm7 l Z a0 hw [] b1 (5 : Int32) (cnt.toInt32) ms 5 cnt T28.heap n0 Zs28 Vm28 rfl rfl (by decide) hmL hcnt) hZ (hw _ (List.mem_of_getElem? (i := 41) rfl)) (hw _ (List.mem_of_getElem? (i := 21) rfl)) (by decide) (by decide)) (g := (mkF m 282 #[.val (.long pr), .second, .val (.long qr), .second, .val (.long rr), .second, .val (.long sr), .second, iv nr, iv sm, iv (cnt.toInt32), iv mk, rv b1, rv b18, rv ra, .unset] [(.int (cnt.toInt32)), (.int 5), (.ref b1), (.int ((((((own_fr ms cnt 0).toInt32) + ((own_fr ms cnt 1).toInt32)) + ((own_fr ms cnt 2).toInt32)) + ((own_fr ms cnt 3).toInt32)) + ((own_fr ms cnt 4).toInt32)))])) rfl (by rw [hml]; rfl) (argsL := [(.ref b1), (.int 5), (.int (cnt.toInt32))]) (rest := [(.int ((((((own_fr ms cnt 0).toInt32) + ((own_fr ms cnt 1).toInt32)) + ((own_fr ms cnt 2).toInt32)) + ((own_fr ms cnt 3).toInt32)) + ((own_fr ms cnt 4).toInt32)))]) (lenOf pd_1 rfl) rfl (by show 2 * 0 + _ ≤ _; exact Nat.le_of_eq rfl) (hb hby at_282) (fun _ _ => ⟨rfl, e33, (by decide : 12 + 0 ≤ _), (by decide : 155 + 0 ≤ _)⟩)
    dsimp only [Pt.U, Pt.locs, Pt.cells, Pt.slots] at X34 l34 y34 z34 st34 hQ34
    subst l34 y34 z34
    obtain ⟨rfl, N34q, e34⟩ := hQ34
    have N34 := Fr.app N33 N34q
    obtain ⟨lq34, X34, N34⟩ : ∃ lq, Stand p l e room_1 s m #[(.long pr), (.long qr), (.long rr), (.long sr), (.int nr)] below meth c T34 lq 12 155 ∧ Fr n0 lq := ⟨_, X34, N34⟩
    refine own_go (b := T34.setTop (mkF m 285 #[.val (.long pr), .second, .val (.long qr), .second, .val (.long rr), .second, .val (.long sr), .second, iv nr, iv sm, iv (cnt.toInt32), iv mk, rv b1, rv b18, rv ra, .unset] [(.int ((own_fr ms cnt 5).toInt32)), (.int ((((((own_fr ms cnt 0).toInt32) + ((own_fr ms cnt 1).toInt32)) + ((own_fr ms cnt 2).toInt32)) + ((own_fr ms cnt 3).toInt32)) + ((own_fr ms cnt 4).toInt32)))])) st34 ?_
    refine own_go (b := T34.setTop (mkF m 286 #[.val (.long pr), .second, .val (.long qr), .second, .val (.long rr), .second, .val (.long sr), .second, iv nr, iv sm, iv (cnt.toInt32), iv mk, rv b1, rv b18, rv ra, .unset] [(.int (((((((own_fr ms cnt 0).toInt32) + ((own_fr ms cnt 1).toInt32)) + ((own_fr ms cnt 2).toInt32)) + ((own_fr ms cnt 3).toInt32)) + ((own_fr ms cnt 4).toInt32)) + ((own_fr ms cnt 5).toInt32)))])) (fun t k => XS.iadd X34.here hx rfl (hb hby at_285) rfl k) ?_
    refine own_go (b := T34.setTop (mkF m 288 #[.val (.long pr), .second, .val (.long qr), .second, .val (.long rr), .second, .val (.long sr), .second, iv nr, iv sm, iv (cnt.toInt32), iv mk, rv b1, rv b18, rv ra, .unset] [(.ref b1), (.int (((((((own_fr ms cnt 0).toInt32) + ((own_fr ms cnt 1).toInt32)) + ((own_fr ms cnt 2).toInt32)) + ((own_fr ms cnt 3).toInt32)) + ((own_fr ms cnt 4).toInt32)) + ((own_fr ms cnt 5).toInt32)))])) (fun t k => XS.aload X34.here hx rfl (hb hby at_286) rfl rfl k) ?_
    refine own_go (b := T34.setTop (mkF m 290 #[.val (.long pr), .second, .val (.long qr), .second, .val (.long rr), .second, .val (.long sr), .second, iv nr, iv sm, iv (cnt.toInt32), iv mk, rv b1, rv b18, rv ra, .unset] [(.int 6), (.ref b1), (.int (((((((own_fr ms cnt 0).toInt32) + ((own_fr ms cnt 1).toInt32)) + ((own_fr ms cnt 2).toInt32)) + ((own_fr ms cnt 3).toInt32)) + ((own_fr ms cnt 4).toInt32)) + ((own_fr ms cnt 5).toInt32)))])) (fun t k => XS.bipush X34.here hx rfl (hb hby at_288) k) ?_
    refine own_go (b := T34.setTop (mkF m 292 #[.val (.long pr), .second, .val (.long qr), .second, .val (.long rr), .second, .val (.long sr), .second, iv nr, iv sm, iv (cnt.toInt32), iv mk, rv b1, rv b18, rv ra, .unset] [(.int (cnt.toInt32)), (.int 6), (.ref b1), (.int (((((((own_fr ms cnt 0).toInt32) + ((own_fr ms cnt 1).toInt32)) + ((own_fr ms cnt 2).toInt32)) + ((own_fr ms cnt 3).toInt32)) + ((own_fr ms cnt 4).toInt32)) + ((own_fr ms cnt 5).toInt32)))])) (fun t k => XS.iload X34.here hx rfl (hb hby at_290) rfl  k) ?_
    obtain ⟨_, _, ⟨T35, L35, k35, n35⟩, -, X35, ⟨Lc35, hQ35, l35, y35, z35⟩, st35⟩ := Jvm.LawKit.callS X34 hx (y := (⟨"com/example/axiomloom/axiomloom/reasoner/IntSetToArrayPinLaw", "fresh", "([III)I"⟩ : MethodName)) hown (mvT hZ (hw _ (List.mem_of_getElem? (i := 39) rfl))) (mvT hZ (hw _ (List.mem_of_getElem? (i := 40) rfl))) (mvT hZ (hw _ (List.mem_of_getElem? (i := 21) rfl))) (mvT hZ (hw _ (List.mem_of_getElem? (i := 41) rfl))) (by decide) (backOf (W := 1) (rm7 l Z a0 hw [] b1 (6 : Int32) (cnt.toInt32) ms 6 cnt T28.heap n0 Zs28 Vm28 rfl rfl (by decide) hmL hcnt) hZ (hw _ (List.mem_of_getElem? (i := 41) rfl)) (hw _ (List.mem_of_getElem? (i := 21) rfl)) (by decide) (by decide)) (g := (mkF m 292 #[.val (.long pr), .second, .val (.long qr), .second, .val (.long rr), .second, .val (.long sr), .second, iv nr, iv sm, iv (cnt.toInt32), iv mk, rv b1, rv b18, rv ra, .unset] [(.int (cnt.toInt32)), (.int 6), (.ref b1), (.int (((((((own_fr ms cnt 0).toInt32) + ((own_fr ms cnt 1).toInt32)) + ((own_fr ms cnt 2).toInt32)) + ((own_fr ms cnt 3).toInt32)) + ((own_fr ms cnt 4).toInt32)) + ((own_fr ms cnt 5).toInt32)))])) rfl (by rw [hml]; rfl) (argsL := [(.ref b1), (.int 6), (.int (cnt.toInt32))]) (rest := [(.int (((((((own_fr ms cnt 0).toInt32) + ((own_fr ms cnt 1).toInt32)) + ((own_fr ms cnt 2).toInt32)) + ((own_fr ms cnt 3).toInt32)) + ((own_fr ms cnt 4).toInt32)) + ((own_fr ms cnt 5).toInt32)))]) (lenOf pd_1 rfl) rfl (by show 2 * 0 + _ ≤ _; exact Nat.le_of_eq rfl) (hb hby at_292) (fun _ _ => ⟨rfl, e34, (by decide : 12 + 0 ≤ _), (by decide : 155 + 0 ≤ _)⟩)
    dsimp only [Pt.U, Pt.locs, Pt.cells, Pt.slots] at X35 l35 y35 z35 st35 hQ35
    subst l35 y35 z35
    obtain ⟨rfl, N35q, e35⟩ := hQ35
    have N35 := Fr.app N34 N35q
    obtain ⟨lq35, X35, N35⟩ : ∃ lq, Stand p l e room_1 s m #[(.long pr), (.long qr), (.long rr), (.long sr), (.int nr)] below meth c T35 lq 12 155 ∧ Fr n0 lq := ⟨_, X35, N35⟩
    refine own_go (b := T35.setTop (mkF m 295 #[.val (.long pr), .second, .val (.long qr), .second, .val (.long rr), .second, .val (.long sr), .second, iv nr, iv sm, iv (cnt.toInt32), iv mk, rv b1, rv b18, rv ra, .unset] [(.int ((own_fr ms cnt 6).toInt32)), (.int (((((((own_fr ms cnt 0).toInt32) + ((own_fr ms cnt 1).toInt32)) + ((own_fr ms cnt 2).toInt32)) + ((own_fr ms cnt 3).toInt32)) + ((own_fr ms cnt 4).toInt32)) + ((own_fr ms cnt 5).toInt32)))])) st35 ?_
    refine own_go (b := T35.setTop (mkF m 296 #[.val (.long pr), .second, .val (.long qr), .second, .val (.long rr), .second, .val (.long sr), .second, iv nr, iv sm, iv (cnt.toInt32), iv mk, rv b1, rv b18, rv ra, .unset] [(.int ((((((((own_fr ms cnt 0).toInt32) + ((own_fr ms cnt 1).toInt32)) + ((own_fr ms cnt 2).toInt32)) + ((own_fr ms cnt 3).toInt32)) + ((own_fr ms cnt 4).toInt32)) + ((own_fr ms cnt 5).toInt32)) + ((own_fr ms cnt 6).toInt32)))])) (fun t k => XS.iadd X35.here hx rfl (hb hby at_295) rfl k) ?_
    refine own_go (b := T35.setTop (mkF m 298 #[.val (.long pr), .second, .val (.long qr), .second, .val (.long rr), .second, .val (.long sr), .second, iv nr, iv sm, iv (cnt.toInt32), iv mk, rv b1, rv b18, rv ra, .unset] [(.ref b1), (.int ((((((((own_fr ms cnt 0).toInt32) + ((own_fr ms cnt 1).toInt32)) + ((own_fr ms cnt 2).toInt32)) + ((own_fr ms cnt 3).toInt32)) + ((own_fr ms cnt 4).toInt32)) + ((own_fr ms cnt 5).toInt32)) + ((own_fr ms cnt 6).toInt32)))])) (fun t k => XS.aload X35.here hx rfl (hb hby at_296) rfl rfl k) ?_
    refine own_go (b := T35.setTop (mkF m 300 #[.val (.long pr), .second, .val (.long qr), .second, .val (.long rr), .second, .val (.long sr), .second, iv nr, iv sm, iv (cnt.toInt32), iv mk, rv b1, rv b18, rv ra, .unset] [(.int 7), (.ref b1), (.int ((((((((own_fr ms cnt 0).toInt32) + ((own_fr ms cnt 1).toInt32)) + ((own_fr ms cnt 2).toInt32)) + ((own_fr ms cnt 3).toInt32)) + ((own_fr ms cnt 4).toInt32)) + ((own_fr ms cnt 5).toInt32)) + ((own_fr ms cnt 6).toInt32)))])) (fun t k => XS.bipush X35.here hx rfl (hb hby at_298) k) ?_
    refine own_go (b := T35.setTop (mkF m 302 #[.val (.long pr), .second, .val (.long qr), .second, .val (.long rr), .second, .val (.long sr), .second, iv nr, iv sm, iv (cnt.toInt32), iv mk, rv b1, rv b18, rv ra, .unset] [(.int (cnt.toInt32)), (.int 7), (.ref b1), (.int ((((((((own_fr ms cnt 0).toInt32) + ((own_fr ms cnt 1).toInt32)) + ((own_fr ms cnt 2).toInt32)) + ((own_fr ms cnt 3).toInt32)) + ((own_fr ms cnt 4).toInt32)) + ((own_fr ms cnt 5).toInt32)) + ((own_fr ms cnt 6).toInt32)))])) (fun t k => XS.iload X35.here hx rfl (hb hby at_300) rfl  k) ?_
    obtain ⟨_, _, ⟨T36, L36, k36, n36⟩, -, X36, ⟨Lc36, hQ36, l36, y36, z36⟩, st36⟩ := Jvm.LawKit.callS X35 hx (y := (⟨"com/example/axiomloom/axiomloom/reasoner/IntSetToArrayPinLaw", "fresh", "([III)I"⟩ : MethodName)) hown (mvT hZ (hw _ (List.mem_of_getElem? (i := 39) rfl))) (mvT hZ (hw _ (List.mem_of_getElem? (i := 40) rfl))) (mvT hZ (hw _ (List.mem_of_getElem? (i := 21) rfl))) (mvT hZ (hw _ (List.mem_of_getElem? (i := 41) rfl))) (by decide) (backOf (W := 1) (rm7 l Z a0 hw [] b1 (7 : Int32) (cnt.toInt32) ms 7 cnt T28.heap n0 Zs28 Vm28 rfl rfl (by decide) hmL hcnt) hZ (hw _ (List.mem_of_getElem? (i := 41) rfl)) (hw _ (List.mem_of_getElem? (i := 21) rfl)) (by decide) (by decide)) (g := (mkF m 302 #[.val (.long pr), .second, .val (.long qr), .second, .val (.long rr), .second, .val (.long sr), .second, iv nr, iv sm, iv (cnt.toInt32), iv mk, rv b1, rv b18, rv ra, .unset] [(.int (cnt.toInt32)), (.int 7), (.ref b1), (.int ((((((((own_fr ms cnt 0).toInt32) + ((own_fr ms cnt 1).toInt32)) + ((own_fr ms cnt 2).toInt32)) + ((own_fr ms cnt 3).toInt32)) + ((own_fr ms cnt 4).toInt32)) + ((own_fr ms cnt 5).toInt32)) + ((own_fr ms cnt 6).toInt32)))])) rfl (by rw [hml]; rfl) (argsL := [(.ref b1), (.int 7), (.int (cnt.toInt32))]) (rest := [(.int ((((((((own_fr ms cnt 0).toInt32) + ((own_fr ms cnt 1).toInt32)) + ((own_fr ms cnt 2).toInt32)) + ((own_fr ms cnt 3).toInt32)) + ((own_fr ms cnt 4).toInt32)) + ((own_fr ms cnt 5).toInt32)) + ((own_fr ms cnt 6).toInt32)))]) (lenOf pd_1 rfl) rfl (by show 2 * 0 + _ ≤ _; exact Nat.le_of_eq rfl) (hb hby at_302) (fun _ _ => ⟨rfl, e35, (by decide : 12 + 0 ≤ _), (by decide : 155 + 0 ≤ _)⟩)
    dsimp only [Pt.U, Pt.locs, Pt.cells, Pt.slots] at X36 l36 y36 z36 st36 hQ36
    subst l36 y36 z36
    obtain ⟨rfl, N36q, e36⟩ := hQ36
    have N36 := Fr.app N35 N36q
    obtain ⟨lq36, X36, N36⟩ : ∃ lq, Stand p l e room_1 s m #[(.long pr), (.long qr), (.long rr), (.long sr), (.int nr)] below meth c T36 lq 12 155 ∧ Fr n0 lq := ⟨_, X36, N36⟩
    refine own_go (b := T36.setTop (mkF m 305 #[.val (.long pr), .second, .val (.long qr), .second, .val (.long rr), .second, .val (.long sr), .second, iv nr, iv sm, iv (cnt.toInt32), iv mk, rv b1, rv b18, rv ra, .unset] [(.int ((own_fr ms cnt 7).toInt32)), (.int ((((((((own_fr ms cnt 0).toInt32) + ((own_fr ms cnt 1).toInt32)) + ((own_fr ms cnt 2).toInt32)) + ((own_fr ms cnt 3).toInt32)) + ((own_fr ms cnt 4).toInt32)) + ((own_fr ms cnt 5).toInt32)) + ((own_fr ms cnt 6).toInt32)))])) st36 ?_
    refine own_go (b := T36.setTop (mkF m 306 #[.val (.long pr), .second, .val (.long qr), .second, .val (.long rr), .second, .val (.long sr), .second, iv nr, iv sm, iv (cnt.toInt32), iv mk, rv b1, rv b18, rv ra, .unset] [(.int (((((((((own_fr ms cnt 0).toInt32) + ((own_fr ms cnt 1).toInt32)) + ((own_fr ms cnt 2).toInt32)) + ((own_fr ms cnt 3).toInt32)) + ((own_fr ms cnt 4).toInt32)) + ((own_fr ms cnt 5).toInt32)) + ((own_fr ms cnt 6).toInt32)) + ((own_fr ms cnt 7).toInt32)))])) (fun t k => XS.iadd X36.here hx rfl (hb hby at_305) rfl k) ?_
    refine own_go (b := T36.setTop (mkF m 308 #[.val (.long pr), .second, .val (.long qr), .second, .val (.long rr), .second, .val (.long sr), .second, iv nr, iv sm, iv (cnt.toInt32), iv mk, rv b1, rv b18, rv ra, iv (((((((((own_fr ms cnt 0).toInt32) + ((own_fr ms cnt 1).toInt32)) + ((own_fr ms cnt 2).toInt32)) + ((own_fr ms cnt 3).toInt32)) + ((own_fr ms cnt 4).toInt32)) + ((own_fr ms cnt 5).toInt32)) + ((own_fr ms cnt 6).toInt32)) + ((own_fr ms cnt 7).toInt32))] [])) (fun t k => XS.istore X36.here hx rfl (hb hby at_306) rfl (l' := #[.val (.long pr), .second, .val (.long qr), .second, .val (.long rr), .second, .val (.long sr), .second, iv nr, iv sm, iv (cnt.toInt32), iv mk, rv b1, rv b18, rv ra, iv (((((((((own_fr ms cnt 0).toInt32) + ((own_fr ms cnt 1).toInt32)) + ((own_fr ms cnt 2).toInt32)) + ((own_fr ms cnt 3).toInt32)) + ((own_fr ms cnt 4).toInt32)) + ((own_fr ms cnt 5).toInt32)) + ((own_fr ms cnt 6).toInt32)) + ((own_fr ms cnt 7).toInt32))]) rfl k) ?_
    refine own_go (b := T36.setTop (mkF m 310 #[.val (.long pr), .second, .val (.long qr), .second, .val (.long rr), .second, .val (.long sr), .second, iv nr, iv sm, iv (cnt.toInt32), iv mk, rv b1, rv b18, rv ra, iv (((((((((own_fr ms cnt 0).toInt32) + ((own_fr ms cnt 1).toInt32)) + ((own_fr ms cnt 2).toInt32)) + ((own_fr ms cnt 3).toInt32)) + ((own_fr ms cnt 4).toInt32)) + ((own_fr ms cnt 5).toInt32)) + ((own_fr ms cnt 6).toInt32)) + ((own_fr ms cnt 7).toInt32))] [(.ref ra)])) (fun t k => XS.aload X36.here hx rfl (hb hby at_308) rfl rfl k) ?_
    obtain ⟨cl37, Ar37, Sz37, Ln37, Hs37⟩ := id Vr
    refine own_go (b := T36.setTop (mkF m 311 #[.val (.long pr), .second, .val (.long qr), .second, .val (.long rr), .second, .val (.long sr), .second, iv nr, iv sm, iv (cnt.toInt32), iv mk, rv b1, rv b18, rv ra, iv (((((((((own_fr ms cnt 0).toInt32) + ((own_fr ms cnt 1).toInt32)) + ((own_fr ms cnt 2).toInt32)) + ((own_fr ms cnt 3).toInt32)) + ((own_fr ms cnt 4).toInt32)) + ((own_fr ms cnt 5).toInt32)) + ((own_fr ms cnt 6).toInt32)) + ((own_fr ms cnt 7).toInt32))] [(.int (cl37.slots.size.toInt32))])) (fun t k => X36.arraylength hx (by rw [e36]; exact Ar37.1) (State.isArrayOf_alike hZ.alike Ar37.2.1) (g := (mkF m 310 #[.val (.long pr), .second, .val (.long qr), .second, .val (.long rr), .second, .val (.long sr), .second, iv nr, iv sm, iv (cnt.toInt32), iv mk, rv b1, rv b18, rv ra, iv (((((((((own_fr ms cnt 0).toInt32) + ((own_fr ms cnt 1).toInt32)) + ((own_fr ms cnt 2).toInt32)) + ((own_fr ms cnt 3).toInt32)) + ((own_fr ms cnt 4).toInt32)) + ((own_fr ms cnt 5).toInt32)) + ((own_fr ms cnt 6).toInt32)) + ((own_fr ms cnt 7).toInt32))] [(.ref ra)])) rfl rfl (hb hby at_310) t k) ?_
    rw [Sz37]
    refine own_go (b := T36.setTop (mkF m 313 #[.val (.long pr), .second, .val (.long qr), .second, .val (.long rr), .second, .val (.long sr), .second, iv nr, iv sm, iv (cnt.toInt32), iv mk, rv b1, rv b18, rv ra, iv (((((((((own_fr ms cnt 0).toInt32) + ((own_fr ms cnt 1).toInt32)) + ((own_fr ms cnt 2).toInt32)) + ((own_fr ms cnt 3).toInt32)) + ((own_fr ms cnt 4).toInt32)) + ((own_fr ms cnt 5).toInt32)) + ((own_fr ms cnt 6).toInt32)) + ((own_fr ms cnt 7).toInt32))] [(.int (((((((((own_fr ms cnt 0).toInt32) + ((own_fr ms cnt 1).toInt32)) + ((own_fr ms cnt 2).toInt32)) + ((own_fr ms cnt 3).toInt32)) + ((own_fr ms cnt 4).toInt32)) + ((own_fr ms cnt 5).toInt32)) + ((own_fr ms cnt 6).toInt32)) + ((own_fr ms cnt 7).toInt32))), (.int (as.length.toInt32))])) (fun t k => XS.iload X36.here hx rfl (hb hby at_311) rfl  k) ?_
    have hq313 : (as.length.toInt32) = (((((((((own_fr ms cnt 0).toInt32) + ((own_fr ms cnt 1).toInt32)) + ((own_fr ms cnt 2).toInt32)) + ((own_fr ms cnt 3).toInt32)) + ((own_fr ms cnt 4).toInt32)) + ((own_fr ms cnt 5).toInt32)) + ((own_fr ms cnt 6).toInt32)) + ((own_fr ms cnt 7).toInt32)) := by rw [hal]; exact (own_sum hmL).symm
    refine own_go (b := T36.setTop (mkF m 318 #[.val (.long pr), .second, .val (.long qr), .second, .val (.long rr), .second, .val (.long sr), .second, iv nr, iv sm, iv (cnt.toInt32), iv mk, rv b1, rv b18, rv ra, iv (((((((((own_fr ms cnt 0).toInt32) + ((own_fr ms cnt 1).toInt32)) + ((own_fr ms cnt 2).toInt32)) + ((own_fr ms cnt 3).toInt32)) + ((own_fr ms cnt 4).toInt32)) + ((own_fr ms cnt 5).toInt32)) + ((own_fr ms cnt 6).toInt32)) + ((own_fr ms cnt 7).toInt32))] [])) (fun t k => XS.icmpYes X36.here hx rfl (pc0 := 313) (pc' := 318) rfl (hb hby at_313) rfl (teq hq313).1 (by decide) (by decide) k) ?_
    refine own_go (b := T36.setTop (mkF m 320 #[.val (.long pr), .second, .val (.long qr), .second, .val (.long rr), .second, .val (.long sr), .second, iv nr, iv sm, iv (cnt.toInt32), iv mk, rv b1, rv b18, rv ra, iv (((((((((own_fr ms cnt 0).toInt32) + ((own_fr ms cnt 1).toInt32)) + ((own_fr ms cnt 2).toInt32)) + ((own_fr ms cnt 3).toInt32)) + ((own_fr ms cnt 4).toInt32)) + ((own_fr ms cnt 5).toInt32)) + ((own_fr ms cnt 6).toInt32)) + ((own_fr ms cnt 7).toInt32))] [(.ref b1)])) (fun t k => XS.aload X36.here hx rfl (hb hby at_318) rfl rfl k) ?_
    refine own_go (b := T36.setTop (mkF m 322 #[.val (.long pr), .second, .val (.long qr), .second, .val (.long rr), .second, .val (.long sr), .second, iv nr, iv sm, iv (cnt.toInt32), iv mk, rv b1, rv b18, rv ra, iv (((((((((own_fr ms cnt 0).toInt32) + ((own_fr ms cnt 1).toInt32)) + ((own_fr ms cnt 2).toInt32)) + ((own_fr ms cnt 3).toInt32)) + ((own_fr ms cnt 4).toInt32)) + ((own_fr ms cnt 5).toInt32)) + ((own_fr ms cnt 6).toInt32)) + ((own_fr ms cnt 7).toInt32))] [(.int (cnt.toInt32)), (.ref b1)])) (fun t k => XS.iload X36.here hx rfl (hb hby at_320) rfl  k) ?_
    refine own_go (b := T36.setTop (mkF m 324 #[.val (.long pr), .second, .val (.long qr), .second, .val (.long rr), .second, .val (.long sr), .second, iv nr, iv sm, iv (cnt.toInt32), iv mk, rv b1, rv b18, rv ra, iv (((((((((own_fr ms cnt 0).toInt32) + ((own_fr ms cnt 1).toInt32)) + ((own_fr ms cnt 2).toInt32)) + ((own_fr ms cnt 3).toInt32)) + ((own_fr ms cnt 4).toInt32)) + ((own_fr ms cnt 5).toInt32)) + ((own_fr ms cnt 6).toInt32)) + ((own_fr ms cnt 7).toInt32))] [(.ref ra), (.int (cnt.toInt32)), (.ref b1)])) (fun t k => XS.aload X36.here hx rfl (hb hby at_322) rfl rfl k) ?_
    refine own_go (b := T36.setTop (mkF m 326 #[.val (.long pr), .second, .val (.long qr), .second, .val (.long rr), .second, .val (.long sr), .second, iv nr, iv sm, iv (cnt.toInt32), iv mk, rv b1, rv b18, rv ra, iv (((((((((own_fr ms cnt 0).toInt32) + ((own_fr ms cnt 1).toInt32)) + ((own_fr ms cnt 2).toInt32)) + ((own_fr ms cnt 3).toInt32)) + ((own_fr ms cnt 4).toInt32)) + ((own_fr ms cnt 5).toInt32)) + ((own_fr ms cnt 6).toInt32)) + ((own_fr ms cnt 7).toInt32))] [(.ref ra), (.ref ra), (.int (cnt.toInt32)), (.ref b1)])) (fun t k => XS.aload X36.here hx rfl (hb hby at_324) rfl rfl k) ?_
    obtain ⟨cl38, Ar38, Sz38, Ln38, Hs38⟩ := id Vr
    refine own_go (b := T36.setTop (mkF m 327 #[.val (.long pr), .second, .val (.long qr), .second, .val (.long rr), .second, .val (.long sr), .second, iv nr, iv sm, iv (cnt.toInt32), iv mk, rv b1, rv b18, rv ra, iv (((((((((own_fr ms cnt 0).toInt32) + ((own_fr ms cnt 1).toInt32)) + ((own_fr ms cnt 2).toInt32)) + ((own_fr ms cnt 3).toInt32)) + ((own_fr ms cnt 4).toInt32)) + ((own_fr ms cnt 5).toInt32)) + ((own_fr ms cnt 6).toInt32)) + ((own_fr ms cnt 7).toInt32))] [(.int (cl38.slots.size.toInt32)), (.ref ra), (.int (cnt.toInt32)), (.ref b1)])) (fun t k => X36.arraylength hx (by rw [e36]; exact Ar38.1) (State.isArrayOf_alike hZ.alike Ar38.2.1) (g := (mkF m 326 #[.val (.long pr), .second, .val (.long qr), .second, .val (.long rr), .second, .val (.long sr), .second, iv nr, iv sm, iv (cnt.toInt32), iv mk, rv b1, rv b18, rv ra, iv (((((((((own_fr ms cnt 0).toInt32) + ((own_fr ms cnt 1).toInt32)) + ((own_fr ms cnt 2).toInt32)) + ((own_fr ms cnt 3).toInt32)) + ((own_fr ms cnt 4).toInt32)) + ((own_fr ms cnt 5).toInt32)) + ((own_fr ms cnt 6).toInt32)) + ((own_fr ms cnt 7).toInt32))] [(.ref ra), (.ref ra), (.int (cnt.toInt32)), (.ref b1)])) rfl rfl (hb hby at_326) t k) ?_
    rw [Sz38]
    obtain ⟨_, _, ⟨T39, L39, k39, n39⟩, -, X39, ⟨Lc39, hQ39, l39, y39, z39⟩, st39⟩ := Jvm.LawKit.callS X36 hx (y := (⟨"com/example/axiomloom/axiomloom/reasoner/IntSetToArrayPinLaw", "allIn", "([II[II)Z"⟩ : MethodName)) hown (mvT hZ (hw _ (List.mem_of_getElem? (i := 45) rfl))) (mvT hZ (hw _ (List.mem_of_getElem? (i := 46) rfl))) (mvT hZ (hw _ (List.mem_of_getElem? (i := 21) rfl))) (mvT hZ (hw _ (List.mem_of_getElem? (i := 47) rfl))) (by decide) (backOf (W := 0) (rm9 l Z a0 hw [] b1 (cnt.toInt32) ra (as.length.toInt32) ms cnt as as.length T28.heap n0 Zs28 Vm28 Vr rfl rfl hcnt (by omega) (by omega) (Nat.le_refl _) (fun j hj => by rw [List.take_length]; exact hpe.mem_iff.mpr ((own_es_mem (by omega) _).mpr (own_mem_take (by omega) (by omega))))) hZ (hw _ (List.mem_of_getElem? (i := 47) rfl)) (hw _ (List.mem_of_getElem? (i := 21) rfl)) (by decide) (by decide)) (g := (mkF m 327 #[.val (.long pr), .second, .val (.long qr), .second, .val (.long rr), .second, .val (.long sr), .second, iv nr, iv sm, iv (cnt.toInt32), iv mk, rv b1, rv b18, rv ra, iv (((((((((own_fr ms cnt 0).toInt32) + ((own_fr ms cnt 1).toInt32)) + ((own_fr ms cnt 2).toInt32)) + ((own_fr ms cnt 3).toInt32)) + ((own_fr ms cnt 4).toInt32)) + ((own_fr ms cnt 5).toInt32)) + ((own_fr ms cnt 6).toInt32)) + ((own_fr ms cnt 7).toInt32))] [(.int (as.length.toInt32)), (.ref ra), (.int (cnt.toInt32)), (.ref b1)])) rfl (by rw [hml]; rfl) (argsL := [(.ref b1), (.int (cnt.toInt32)), (.ref ra), (.int (as.length.toInt32))]) (rest := []) (lenOf pd_8 rfl) rfl (by show 2 * 0 + _ ≤ _; exact Nat.le_of_eq rfl) (hb hby at_327) (fun _ _ => ⟨rfl, e36, (by decide : 12 + 0 ≤ _), (by decide : 155 + 0 ≤ _)⟩)
    dsimp only [Pt.U, Pt.locs, Pt.cells, Pt.slots] at X39 l39 y39 z39 st39 hQ39
    subst l39 y39 z39
    obtain ⟨rfl, N39q, e39⟩ := hQ39
    have N39 := Fr.app N36 N39q
    obtain ⟨lq39, X39, N39⟩ : ∃ lq, Stand p l e room_1 s m #[(.long pr), (.long qr), (.long rr), (.long sr), (.int nr)] below meth c T39 lq 12 155 ∧ Fr n0 lq := ⟨_, X39, N39⟩
    refine own_go (b := T39.setTop (mkF m 330 #[.val (.long pr), .second, .val (.long qr), .second, .val (.long rr), .second, .val (.long sr), .second, iv nr, iv sm, iv (cnt.toInt32), iv mk, rv b1, rv b18, rv ra, iv (((((((((own_fr ms cnt 0).toInt32) + ((own_fr ms cnt 1).toInt32)) + ((own_fr ms cnt 2).toInt32)) + ((own_fr ms cnt 3).toInt32)) + ((own_fr ms cnt 4).toInt32)) + ((own_fr ms cnt 5).toInt32)) + ((own_fr ms cnt 6).toInt32)) + ((own_fr ms cnt 7).toInt32))] [(.int 1)])) st39 ?_
    refine own_go (b := T39.setTop (mkF m 333 #[.val (.long pr), .second, .val (.long qr), .second, .val (.long rr), .second, .val (.long sr), .second, iv nr, iv sm, iv (cnt.toInt32), iv mk, rv b1, rv b18, rv ra, iv (((((((((own_fr ms cnt 0).toInt32) + ((own_fr ms cnt 1).toInt32)) + ((own_fr ms cnt 2).toInt32)) + ((own_fr ms cnt 3).toInt32)) + ((own_fr ms cnt 4).toInt32)) + ((own_fr ms cnt 5).toInt32)) + ((own_fr ms cnt 6).toInt32)) + ((own_fr ms cnt 7).toInt32))] [])) (fun t k => XS.ifNo X39.here hx rfl (hb hby at_330) rfl ((if0 _ _).trans (feq (by decide : ¬ ((1 : Int32) = (0 : Int32)))).1) k) ?_
    refine own_go (b := T39.setTop (mkF m 335 #[.val (.long pr), .second, .val (.long qr), .second, .val (.long rr), .second, .val (.long sr), .second, iv nr, iv sm, iv (cnt.toInt32), iv mk, rv b1, rv b18, rv ra, iv (((((((((own_fr ms cnt 0).toInt32) + ((own_fr ms cnt 1).toInt32)) + ((own_fr ms cnt 2).toInt32)) + ((own_fr ms cnt 3).toInt32)) + ((own_fr ms cnt 4).toInt32)) + ((own_fr ms cnt 5).toInt32)) + ((own_fr ms cnt 6).toInt32)) + ((own_fr ms cnt 7).toInt32))] [(.ref ra)])) (fun t k => XS.aload X39.here hx rfl (hb hby at_333) rfl rfl k) ?_
    refine own_go (b := T39.setTop (mkF m 337 #[.val (.long pr), .second, .val (.long qr), .second, .val (.long rr), .second, .val (.long sr), .second, iv nr, iv sm, iv (cnt.toInt32), iv mk, rv b1, rv b18, rv ra, iv (((((((((own_fr ms cnt 0).toInt32) + ((own_fr ms cnt 1).toInt32)) + ((own_fr ms cnt 2).toInt32)) + ((own_fr ms cnt 3).toInt32)) + ((own_fr ms cnt 4).toInt32)) + ((own_fr ms cnt 5).toInt32)) + ((own_fr ms cnt 6).toInt32)) + ((own_fr ms cnt 7).toInt32))] [(.ref ra), (.ref ra)])) (fun t k => XS.aload X39.here hx rfl (hb hby at_335) rfl rfl k) ?_
    obtain ⟨cl40, Ar40, Sz40, Ln40, Hs40⟩ := id Vr
    refine own_go (b := T39.setTop (mkF m 338 #[.val (.long pr), .second, .val (.long qr), .second, .val (.long rr), .second, .val (.long sr), .second, iv nr, iv sm, iv (cnt.toInt32), iv mk, rv b1, rv b18, rv ra, iv (((((((((own_fr ms cnt 0).toInt32) + ((own_fr ms cnt 1).toInt32)) + ((own_fr ms cnt 2).toInt32)) + ((own_fr ms cnt 3).toInt32)) + ((own_fr ms cnt 4).toInt32)) + ((own_fr ms cnt 5).toInt32)) + ((own_fr ms cnt 6).toInt32)) + ((own_fr ms cnt 7).toInt32))] [(.int (cl40.slots.size.toInt32)), (.ref ra)])) (fun t k => X39.arraylength hx (by rw [e39]; exact Ar40.1) (State.isArrayOf_alike hZ.alike Ar40.2.1) (g := (mkF m 337 #[.val (.long pr), .second, .val (.long qr), .second, .val (.long rr), .second, .val (.long sr), .second, iv nr, iv sm, iv (cnt.toInt32), iv mk, rv b1, rv b18, rv ra, iv (((((((((own_fr ms cnt 0).toInt32) + ((own_fr ms cnt 1).toInt32)) + ((own_fr ms cnt 2).toInt32)) + ((own_fr ms cnt 3).toInt32)) + ((own_fr ms cnt 4).toInt32)) + ((own_fr ms cnt 5).toInt32)) + ((own_fr ms cnt 6).toInt32)) + ((own_fr ms cnt 7).toInt32))] [(.ref ra), (.ref ra)])) rfl rfl (hb hby at_337) t k) ?_
    rw [Sz40]
    refine own_go (b := T39.setTop (mkF m 340 #[.val (.long pr), .second, .val (.long qr), .second, .val (.long rr), .second, .val (.long sr), .second, iv nr, iv sm, iv (cnt.toInt32), iv mk, rv b1, rv b18, rv ra, iv (((((((((own_fr ms cnt 0).toInt32) + ((own_fr ms cnt 1).toInt32)) + ((own_fr ms cnt 2).toInt32)) + ((own_fr ms cnt 3).toInt32)) + ((own_fr ms cnt 4).toInt32)) + ((own_fr ms cnt 5).toInt32)) + ((own_fr ms cnt 6).toInt32)) + ((own_fr ms cnt 7).toInt32))] [(.ref b1), (.int (as.length.toInt32)), (.ref ra)])) (fun t k => XS.aload X39.here hx rfl (hb hby at_338) rfl rfl k) ?_
    refine own_go (b := T39.setTop (mkF m 342 #[.val (.long pr), .second, .val (.long qr), .second, .val (.long rr), .second, .val (.long sr), .second, iv nr, iv sm, iv (cnt.toInt32), iv mk, rv b1, rv b18, rv ra, iv (((((((((own_fr ms cnt 0).toInt32) + ((own_fr ms cnt 1).toInt32)) + ((own_fr ms cnt 2).toInt32)) + ((own_fr ms cnt 3).toInt32)) + ((own_fr ms cnt 4).toInt32)) + ((own_fr ms cnt 5).toInt32)) + ((own_fr ms cnt 6).toInt32)) + ((own_fr ms cnt 7).toInt32))] [(.int (cnt.toInt32)), (.ref b1), (.int (as.length.toInt32)), (.ref ra)])) (fun t k => XS.iload X39.here hx rfl (hb hby at_340) rfl  k) ?_
    obtain ⟨_, _, ⟨T41, L41, k41, n41⟩, -, X41, ⟨Lc41, hQ41, l41, y41, z41⟩, st41⟩ := Jvm.LawKit.callS X39 hx (y := (⟨"com/example/axiomloom/axiomloom/reasoner/IntSetToArrayPinLaw", "allIn", "([II[II)Z"⟩ : MethodName)) hown (mvT hZ (hw _ (List.mem_of_getElem? (i := 45) rfl))) (mvT hZ (hw _ (List.mem_of_getElem? (i := 46) rfl))) (mvT hZ (hw _ (List.mem_of_getElem? (i := 21) rfl))) (mvT hZ (hw _ (List.mem_of_getElem? (i := 47) rfl))) (by decide) (backOf (W := 0) (rm9 l Z a0 hw [] ra (as.length.toInt32) b1 (cnt.toInt32) as as.length ms cnt T28.heap n0 Zs28 Vr Vm28 rfl rfl (by omega) (Nat.le_refl _) hcnt (by omega) (fun j hj => by have q := (own_es_mem (ms := ms) (cnt := cnt) (k := 8) (by omega) _).mp (hpe.mem_iff.mp (own_getD_mem hj)); rw [show min 8 cnt = cnt from by omega] at q; exact q)) hZ (hw _ (List.mem_of_getElem? (i := 47) rfl)) (hw _ (List.mem_of_getElem? (i := 21) rfl)) (by decide) (by decide)) (g := (mkF m 342 #[.val (.long pr), .second, .val (.long qr), .second, .val (.long rr), .second, .val (.long sr), .second, iv nr, iv sm, iv (cnt.toInt32), iv mk, rv b1, rv b18, rv ra, iv (((((((((own_fr ms cnt 0).toInt32) + ((own_fr ms cnt 1).toInt32)) + ((own_fr ms cnt 2).toInt32)) + ((own_fr ms cnt 3).toInt32)) + ((own_fr ms cnt 4).toInt32)) + ((own_fr ms cnt 5).toInt32)) + ((own_fr ms cnt 6).toInt32)) + ((own_fr ms cnt 7).toInt32))] [(.int (cnt.toInt32)), (.ref b1), (.int (as.length.toInt32)), (.ref ra)])) rfl (by rw [hml]; rfl) (argsL := [(.ref ra), (.int (as.length.toInt32)), (.ref b1), (.int (cnt.toInt32))]) (rest := []) (lenOf pd_8 rfl) rfl (by show 2 * 0 + _ ≤ _; exact Nat.le_of_eq rfl) (hb hby at_342) (fun _ _ => ⟨rfl, e39, (by decide : 12 + 0 ≤ _), (by decide : 155 + 0 ≤ _)⟩)
    dsimp only [Pt.U, Pt.locs, Pt.cells, Pt.slots] at X41 l41 y41 z41 st41 hQ41
    subst l41 y41 z41
    obtain ⟨rfl, N41q, e41⟩ := hQ41
    have N41 := Fr.app N39 N41q
    obtain ⟨lq41, X41, N41⟩ : ∃ lq, Stand p l e room_1 s m #[(.long pr), (.long qr), (.long rr), (.long sr), (.int nr)] below meth c T41 lq 12 155 ∧ Fr n0 lq := ⟨_, X41, N41⟩
    refine own_go (b := T41.setTop (mkF m 345 #[.val (.long pr), .second, .val (.long qr), .second, .val (.long rr), .second, .val (.long sr), .second, iv nr, iv sm, iv (cnt.toInt32), iv mk, rv b1, rv b18, rv ra, iv (((((((((own_fr ms cnt 0).toInt32) + ((own_fr ms cnt 1).toInt32)) + ((own_fr ms cnt 2).toInt32)) + ((own_fr ms cnt 3).toInt32)) + ((own_fr ms cnt 4).toInt32)) + ((own_fr ms cnt 5).toInt32)) + ((own_fr ms cnt 6).toInt32)) + ((own_fr ms cnt 7).toInt32))] [(.int 1)])) st41 ?_
    refine own_go (b := T41.setTop (mkF m 348 #[.val (.long pr), .second, .val (.long qr), .second, .val (.long rr), .second, .val (.long sr), .second, iv nr, iv sm, iv (cnt.toInt32), iv mk, rv b1, rv b18, rv ra, iv (((((((((own_fr ms cnt 0).toInt32) + ((own_fr ms cnt 1).toInt32)) + ((own_fr ms cnt 2).toInt32)) + ((own_fr ms cnt 3).toInt32)) + ((own_fr ms cnt 4).toInt32)) + ((own_fr ms cnt 5).toInt32)) + ((own_fr ms cnt 6).toInt32)) + ((own_fr ms cnt 7).toInt32))] [])) (fun t k => XS.ifNo X41.here hx rfl (hb hby at_345) rfl ((if0 _ _).trans (feq (by decide : ¬ ((1 : Int32) = (0 : Int32)))).1) k) ?_
    refine own_go (b := T41.setTop (mkF m 349 #[.val (.long pr), .second, .val (.long qr), .second, .val (.long rr), .second, .val (.long sr), .second, iv nr, iv sm, iv (cnt.toInt32), iv mk, rv b1, rv b18, rv ra, iv (((((((((own_fr ms cnt 0).toInt32) + ((own_fr ms cnt 1).toInt32)) + ((own_fr ms cnt 2).toInt32)) + ((own_fr ms cnt 3).toInt32)) + ((own_fr ms cnt 4).toInt32)) + ((own_fr ms cnt 5).toInt32)) + ((own_fr ms cnt 6).toInt32)) + ((own_fr ms cnt 7).toInt32))] [(.int 1)])) (fun t k => XS.iconst X41.here hx rfl (hb hby at_348) k) ?_
    refine own_go (b := T41.setTop (mkF m 353 #[.val (.long pr), .second, .val (.long qr), .second, .val (.long rr), .second, .val (.long sr), .second, iv nr, iv sm, iv (cnt.toInt32), iv mk, rv b1, rv b18, rv ra, iv (((((((((own_fr ms cnt 0).toInt32) + ((own_fr ms cnt 1).toInt32)) + ((own_fr ms cnt 2).toInt32)) + ((own_fr ms cnt 3).toInt32)) + ((own_fr ms cnt 4).toInt32)) + ((own_fr ms cnt 5).toInt32)) + ((own_fr ms cnt 6).toInt32)) + ((own_fr ms cnt 7).toInt32))] [(.int 1)])) (fun t k => XS.goto X41.here hx rfl (pc0 := 349) (pc' := 353) rfl (hb hby at_349) (by decide) (by decide) k) ?_
    exact own_retN X41 hx hlk (t := .boolean) hrt (by simp) (hb hby at_353) (Nat.le_of_ble_eq_true rfl) (Nat.le_of_ble_eq_true rfl) (⟨rfl, N41⟩)
  refine own_go (b := s₁.setTop (mkF m 2 #[.val (.long pr), .second, .val (.long qr), .second, .val (.long rr), .second, .val (.long sr), .second, iv nr, .unset, .unset, .unset, .unset, .unset, .unset, .unset] [(.int nr)])) (fun t k => XS.iload X0.here hx rfl (hb hby at_0) rfl  k) ?_
  refine own_go (b := s₁.setTop (mkF m 4 #[.val (.long pr), .second, .val (.long qr), .second, .val (.long rr), .second, .val (.long sr), .second, iv nr, .unset, .unset, .unset, .unset, .unset, .unset, .unset] [(.int 65536), (.int nr)])) (fun t k => X0.ldcInt hx hown (mvT hZ (hw _ (List.mem_of_getElem? (i := 0) rfl))) (g := (mkF m 2 #[.val (.long pr), .second, .val (.long qr), .second, .val (.long rr), .second, .val (.long sr), .second, iv nr, .unset, .unset, .unset, .unset, .unset, .unset, .unset] [(.int nr)])) rfl (hb hby at_2) t k) ?_
  refine own_go (b := s₁.setTop (mkF m 5 #[.val (.long pr), .second, .val (.long qr), .second, .val (.long rr), .second, .val (.long sr), .second, iv nr, .unset, .unset, .unset, .unset, .unset, .unset, .unset] [(.int (nr &&& (65536 : Int32)))])) (fun t k => XS.iand X0.here hx rfl (hb hby at_4) rfl k) ?_
  by_cases hc42 : (nr &&& (65536 : Int32)) = (0 : Int32)
  · refine own_go (b := s₁.setTop (mkF m 12 #[.val (.long pr), .second, .val (.long qr), .second, .val (.long rr), .second, .val (.long sr), .second, iv nr, .unset, .unset, .unset, .unset, .unset, .unset, .unset] [])) (fun t k => XS.ifYes X0.here hx rfl (pc0 := 5) (pc' := 12) rfl (hb hby at_5) rfl ((if0 _ _).trans (teq hc42).1) (by decide) (by decide) k) ?_
    refine own_go (b := s₁.setTop (mkF m 13 #[.val (.long pr), .second, .val (.long qr), .second, .val (.long rr), .second, .val (.long sr), .second, iv nr, .unset, .unset, .unset, .unset, .unset, .unset, .unset] [(.int 0)])) (fun t k => XS.iconst X0.here hx rfl (hb hby at_12) k) ?_
    refine own_go (b := s₁.setTop (mkF m 15 #[.val (.long pr), .second, .val (.long qr), .second, .val (.long rr), .second, .val (.long sr), .second, iv nr, iv 0, .unset, .unset, .unset, .unset, .unset, .unset] [])) (fun t k => XS.istore X0.here hx rfl (hb hby at_13) rfl (l' := #[.val (.long pr), .second, .val (.long qr), .second, .val (.long rr), .second, .val (.long sr), .second, iv nr, iv 0, .unset, .unset, .unset, .unset, .unset, .unset]) rfl k) ?_
    refine own_go (b := s₁.setTop (mkF m 17 #[.val (.long pr), .second, .val (.long qr), .second, .val (.long rr), .second, .val (.long sr), .second, iv nr, iv 0, .unset, .unset, .unset, .unset, .unset, .unset] [(.int nr)])) (fun t k => XS.iload X0.here hx rfl (hb hby at_15) rfl  k) ?_
    refine own_go (b := s₁.setTop (mkF m 19 #[.val (.long pr), .second, .val (.long qr), .second, .val (.long rr), .second, .val (.long sr), .second, iv nr, iv 0, .unset, .unset, .unset, .unset, .unset, .unset] [(.int 65535), (.int nr)])) (fun t k => X0.ldcInt hx hown (mvT hZ (hw _ (List.mem_of_getElem? (i := 1) rfl))) (g := (mkF m 17 #[.val (.long pr), .second, .val (.long qr), .second, .val (.long rr), .second, .val (.long sr), .second, iv nr, iv 0, .unset, .unset, .unset, .unset, .unset, .unset] [(.int nr)])) rfl (hb hby at_17) t k) ?_
    refine own_go (b := s₁.setTop (mkF m 20 #[.val (.long pr), .second, .val (.long qr), .second, .val (.long rr), .second, .val (.long sr), .second, iv nr, iv 0, .unset, .unset, .unset, .unset, .unset, .unset] [(.int (nr &&& (65535 : Int32)))])) (fun t k => XS.iand X0.here hx rfl (hb hby at_19) rfl k) ?_
    refine own_go (b := s₁.setTop (mkF m 22 #[.val (.long pr), .second, .val (.long qr), .second, .val (.long rr), .second, .val (.long sr), .second, iv nr, iv 0, .unset, .unset, .unset, .unset, .unset, .unset] [(.int 9), (.int (nr &&& (65535 : Int32)))])) (fun t k => XS.bipush X0.here hx rfl (hb hby at_20) k) ?_
    refine own_go (b := s₁.setTop (mkF m 23 #[.val (.long pr), .second, .val (.long qr), .second, .val (.long rr), .second, .val (.long sr), .second, iv nr, iv 0, .unset, .unset, .unset, .unset, .unset, .unset] [(.int ((nr &&& (65535 : Int32)) % (9 : Int32)))])) (fun t k => iremM X0 hx rfl (hb hby at_22) rfl (by decide) k) ?_
    refine own_go (b := s₁.setTop (mkF m 25 #[.val (.long pr), .second, .val (.long qr), .second, .val (.long rr), .second, .val (.long sr), .second, iv nr, iv 0, iv ((nr &&& (65535 : Int32)) % (9 : Int32)), .unset, .unset, .unset, .unset, .unset] [])) (fun t k => XS.istore X0.here hx rfl (hb hby at_23) rfl (l' := #[.val (.long pr), .second, .val (.long qr), .second, .val (.long rr), .second, .val (.long sr), .second, iv nr, iv 0, iv ((nr &&& (65535 : Int32)) % (9 : Int32)), .unset, .unset, .unset, .unset, .unset]) rfl k) ?_
    obtain ⟨cnt, hcnt, hX⟩ := own_cnt nr
    rw [hX]
    refine own_go (b := s₁.setTop (mkF m 27 #[.val (.long pr), .second, .val (.long qr), .second, .val (.long rr), .second, .val (.long sr), .second, iv nr, iv 0, iv (cnt.toInt32), .unset, .unset, .unset, .unset, .unset] [(.int 0)])) (fun t k => XS.iload X0.here hx rfl (hb hby at_25) rfl  k) ?_
    refine own_go (b := s₁.setTop (mkF m 35 #[.val (.long pr), .second, .val (.long qr), .second, .val (.long rr), .second, .val (.long sr), .second, iv nr, iv 0, iv (cnt.toInt32), .unset, .unset, .unset, .unset, .unset] [])) (fun t k => XS.ifYes X0.here hx rfl (pc0 := 27) (pc' := 35) rfl (hb hby at_27) rfl ((if0 _ _).trans (teq (rfl : (0 : Int32) = (0 : Int32))).1) (by decide) (by decide) k) ?_
    refine own_go (b := s₁.setTop (mkF m 37 #[.val (.long pr), .second, .val (.long qr), .second, .val (.long rr), .second, .val (.long sr), .second, iv nr, iv 0, iv (cnt.toInt32), .unset, .unset, .unset, .unset, .unset] [(.int 2147483647)])) (fun t k => X0.ldcInt hx hown (mvT hZ (hw _ (List.mem_of_getElem? (i := 2) rfl))) (g := (mkF m 35 #[.val (.long pr), .second, .val (.long qr), .second, .val (.long rr), .second, .val (.long sr), .second, iv nr, iv 0, iv (cnt.toInt32), .unset, .unset, .unset, .unset, .unset] [])) rfl (hb hby at_35) t k) ?_
    refine own_go (b := s₁.setTop (mkF m 39 #[.val (.long pr), .second, .val (.long qr), .second, .val (.long rr), .second, .val (.long sr), .second, iv nr, iv 0, iv (cnt.toInt32), iv 2147483647, .unset, .unset, .unset, .unset] [])) (fun t k => XS.istore X0.here hx rfl (hb hby at_37) rfl (l' := #[.val (.long pr), .second, .val (.long qr), .second, .val (.long rr), .second, .val (.long sr), .second, iv nr, iv 0, iv (cnt.toInt32), iv 2147483647, .unset, .unset, .unset, .unset]) rfl k) ?_
    exact J39 s₁ X0 e0 (0 : Int32) (2147483647 : Int32) cnt hcnt (by decide)
  · refine own_go (b := s₁.setTop (mkF m 8 #[.val (.long pr), .second, .val (.long qr), .second, .val (.long rr), .second, .val (.long sr), .second, iv nr, .unset, .unset, .unset, .unset, .unset, .unset, .unset] [])) (fun t k => XS.ifNo X0.here hx rfl (hb hby at_5) rfl ((if0 _ _).trans (feq hc42).1) k) ?_
    refine own_go (b := s₁.setTop (mkF m 9 #[.val (.long pr), .second, .val (.long qr), .second, .val (.long rr), .second, .val (.long sr), .second, iv nr, .unset, .unset, .unset, .unset, .unset, .unset, .unset] [(.int 1)])) (fun t k => XS.iconst X0.here hx rfl (hb hby at_8) k) ?_
    refine own_go (b := s₁.setTop (mkF m 13 #[.val (.long pr), .second, .val (.long qr), .second, .val (.long rr), .second, .val (.long sr), .second, iv nr, .unset, .unset, .unset, .unset, .unset, .unset, .unset] [(.int 1)])) (fun t k => XS.goto X0.here hx rfl (pc0 := 9) (pc' := 13) rfl (hb hby at_9) (by decide) (by decide) k) ?_
    refine own_go (b := s₁.setTop (mkF m 15 #[.val (.long pr), .second, .val (.long qr), .second, .val (.long rr), .second, .val (.long sr), .second, iv nr, iv 1, .unset, .unset, .unset, .unset, .unset, .unset] [])) (fun t k => XS.istore X0.here hx rfl (hb hby at_13) rfl (l' := #[.val (.long pr), .second, .val (.long qr), .second, .val (.long rr), .second, .val (.long sr), .second, iv nr, iv 1, .unset, .unset, .unset, .unset, .unset, .unset]) rfl k) ?_
    refine own_go (b := s₁.setTop (mkF m 17 #[.val (.long pr), .second, .val (.long qr), .second, .val (.long rr), .second, .val (.long sr), .second, iv nr, iv 1, .unset, .unset, .unset, .unset, .unset, .unset] [(.int nr)])) (fun t k => XS.iload X0.here hx rfl (hb hby at_15) rfl  k) ?_
    refine own_go (b := s₁.setTop (mkF m 19 #[.val (.long pr), .second, .val (.long qr), .second, .val (.long rr), .second, .val (.long sr), .second, iv nr, iv 1, .unset, .unset, .unset, .unset, .unset, .unset] [(.int 65535), (.int nr)])) (fun t k => X0.ldcInt hx hown (mvT hZ (hw _ (List.mem_of_getElem? (i := 1) rfl))) (g := (mkF m 17 #[.val (.long pr), .second, .val (.long qr), .second, .val (.long rr), .second, .val (.long sr), .second, iv nr, iv 1, .unset, .unset, .unset, .unset, .unset, .unset] [(.int nr)])) rfl (hb hby at_17) t k) ?_
    refine own_go (b := s₁.setTop (mkF m 20 #[.val (.long pr), .second, .val (.long qr), .second, .val (.long rr), .second, .val (.long sr), .second, iv nr, iv 1, .unset, .unset, .unset, .unset, .unset, .unset] [(.int (nr &&& (65535 : Int32)))])) (fun t k => XS.iand X0.here hx rfl (hb hby at_19) rfl k) ?_
    refine own_go (b := s₁.setTop (mkF m 22 #[.val (.long pr), .second, .val (.long qr), .second, .val (.long rr), .second, .val (.long sr), .second, iv nr, iv 1, .unset, .unset, .unset, .unset, .unset, .unset] [(.int 9), (.int (nr &&& (65535 : Int32)))])) (fun t k => XS.bipush X0.here hx rfl (hb hby at_20) k) ?_
    refine own_go (b := s₁.setTop (mkF m 23 #[.val (.long pr), .second, .val (.long qr), .second, .val (.long rr), .second, .val (.long sr), .second, iv nr, iv 1, .unset, .unset, .unset, .unset, .unset, .unset] [(.int ((nr &&& (65535 : Int32)) % (9 : Int32)))])) (fun t k => iremM X0 hx rfl (hb hby at_22) rfl (by decide) k) ?_
    refine own_go (b := s₁.setTop (mkF m 25 #[.val (.long pr), .second, .val (.long qr), .second, .val (.long rr), .second, .val (.long sr), .second, iv nr, iv 1, iv ((nr &&& (65535 : Int32)) % (9 : Int32)), .unset, .unset, .unset, .unset, .unset] [])) (fun t k => XS.istore X0.here hx rfl (hb hby at_23) rfl (l' := #[.val (.long pr), .second, .val (.long qr), .second, .val (.long rr), .second, .val (.long sr), .second, iv nr, iv 1, iv ((nr &&& (65535 : Int32)) % (9 : Int32)), .unset, .unset, .unset, .unset, .unset]) rfl k) ?_
    obtain ⟨cnt, hcnt, hX⟩ := own_cnt nr
    rw [hX]
    refine own_go (b := s₁.setTop (mkF m 27 #[.val (.long pr), .second, .val (.long qr), .second, .val (.long rr), .second, .val (.long sr), .second, iv nr, iv 1, iv (cnt.toInt32), .unset, .unset, .unset, .unset, .unset] [(.int 1)])) (fun t k => XS.iload X0.here hx rfl (hb hby at_25) rfl  k) ?_
    refine own_go (b := s₁.setTop (mkF m 30 #[.val (.long pr), .second, .val (.long qr), .second, .val (.long rr), .second, .val (.long sr), .second, iv nr, iv 1, iv (cnt.toInt32), .unset, .unset, .unset, .unset, .unset] [])) (fun t k => XS.ifNo X0.here hx rfl (hb hby at_27) rfl ((if0 _ _).trans (feq (by decide : ¬ ((1 : Int32) = (0 : Int32)))).1) k) ?_
    refine own_go (b := s₁.setTop (mkF m 32 #[.val (.long pr), .second, .val (.long qr), .second, .val (.long rr), .second, .val (.long sr), .second, iv nr, iv 1, iv (cnt.toInt32), .unset, .unset, .unset, .unset, .unset] [(.int 15)])) (fun t k => XS.bipush X0.here hx rfl (hb hby at_30) k) ?_
    refine own_go (b := s₁.setTop (mkF m 37 #[.val (.long pr), .second, .val (.long qr), .second, .val (.long rr), .second, .val (.long sr), .second, iv nr, iv 1, iv (cnt.toInt32), .unset, .unset, .unset, .unset, .unset] [(.int 15)])) (fun t k => XS.goto X0.here hx rfl (pc0 := 32) (pc' := 37) rfl (hb hby at_32) (by decide) (by decide) k) ?_
    refine own_go (b := s₁.setTop (mkF m 39 #[.val (.long pr), .second, .val (.long qr), .second, .val (.long rr), .second, .val (.long sr), .second, iv nr, iv 1, iv (cnt.toInt32), iv 15, .unset, .unset, .unset, .unset] [])) (fun t k => XS.istore X0.here hx rfl (hb hby at_37) rfl (l' := #[.val (.long pr), .second, .val (.long qr), .second, .val (.long rr), .second, .val (.long sr), .second, iv nr, iv 1, iv (cnt.toInt32), iv 15, .unset, .unset, .unset, .unset]) rfl k) ?_
    exact J39 s₁ X0 e0 (1 : Int32) (15 : Int32) cnt hcnt (by decide)
set_option maxRecDepth 65536 in
set_option maxHeartbeats 40000000 in
theorem comes_1 {Post : Tables → Env → Array Value → State → Outcome → State → Prop} (hpost : ∀ tb e args s v u, (limb_1_1.after args s (.returned v) u = true ∧ limb_1_2.after args s (.returned v) u = true ∧ True) → FrameEnd s (.returned v) u (Jvm.fieldLocs frame_1_writes args s ++ Jvm.arrayLocs frame_1_arrays args s ++ Jvm.staticLocs frame_1_statics s) 24 192 → Post tb e args s (.returned v) u) :
    ArmFor flags0 classFile x code maxLocals ret World_1 tables_1 room_1 Calls_1 rest_1 Pre_1 Post := by
  intro l hfl _ _ p e ha hc hk s m args below hf hA hF happ hP
  obtain ⟨hcalls, hrest, hpre⟩ := hP
  obtain ⟨-, -, -, hnamed, -, -, -, hat⟩ := (Spec.applies_iff hf).mp happ
  obtain ⟨hg, hn⟩ := and_e (Cond.before_iff.mp (show (Jvm.Cond.and given_1 narrow_1).before args s = true from hpre))
  obtain ⟨g1, g2⟩ := and_e hg
  obtain ⟨g3, g4⟩ := and_e g2
  obtain ⟨g5, g6⟩ := and_e g4
  obtain ⟨g7, g8⟩ := and_e g6
  obtain ⟨g9, g10⟩ := and_e g8
  obtain ⟨w0, w1, w2, w3, w4, rfl⟩ : ∃ w0 w1 w2 w3 w4 : Value, args = #[w0, w1, w2, w3, w4] := by
    have hs : args.size = 5 := by simpa [Cond.value, given_1] using g1
    obtain ⟨L⟩ := args
    match L, hs with
    | [w0, w1, w2, w3, w4], _ => exact ⟨w0, w1, w2, w3, w4, rfl⟩
  have hw := fun d (hd : d ∈ tables_1) => atoms_spec (ws := Jvm.Cond.code x code maxLocals ret :: tables_1) hat d (List.mem_cons_of_mem _ hd)
  have hfit : Fit s := fun {y c} hc i hi => by
    obtain ⟨ha, rfl⟩ := Array.getElem?_eq_some_iff.mp hc
    have q := List.all_eq_true.mp ((Array.all_eq_true_iff_forall_mem.mp hF) _ (Array.getElem_mem ha)) i (List.mem_range.mpr hi)
    simpa [Array.getElem?_eq_getElem hi] using q
  obtain ⟨i0, ei0⟩ := isL_v g3
  obtain rfl : w0 = (.long i0) := Option.some.inj ei0
  obtain ⟨i1, ei1⟩ := isL_v g5
  obtain rfl : w1 = (.long i1) := Option.some.inj ei1
  obtain ⟨i2, ei2⟩ := isL_v g7
  obtain rfl : w2 = (.long i2) := Option.some.inj ei2
  obtain ⟨i3, ei3⟩ := isL_v g9
  obtain rfl : w3 = (.long i3) := Option.some.inj ei3
  obtain ⟨i4, ei4⟩ := is_v g10
  obtain rfl : w4 = (.int i4) := Option.some.inj ei4
  have evF := own_ev (u := .null) hn
  have SF := Sta.start evF (Or.inr ⟨(hw _ (List.mem_of_getElem? (i := 6) rfl)), (hw _ (List.mem_of_getElem? (i := 16) rfl))⟩)
  obtain ⟨n, o, h1, h2, h3, _, L, rfl, ⟨rfl, N⟩, hq⟩ := rm0 l s _ hw tables_1 i0 i1 i2 i3 i4  s.heap s.heap.size (Nat.le_refl _) SF (Old.start s) p e ha hc hk s m _ below hf ((Spec.applies_iff_loose hf).mp happ).1 ⟨rfl, State.Warmed39.refl s, rfl⟩ trivial
  refine ⟨n, _, h1, h2, h3, hpost _ _ _ _ _ _ ⟨Cond.after_iff.mpr rfl, Cond.after_iff.mpr (eq_i res_at (Term.int_eval (1)) rfl), trivial⟩ ⟨hq.1, hq.2.1, (hq.2.2.sift fun y hy => Or.inr (N y hy)).mono (by decide) (by decide)⟩⟩
theorem main_1_1 : Claimed_1_1 := comes_1 fun _ _ _ _ _ _ h hF => ⟨h.1, hF⟩
theorem main_1_2 : Claimed_1_2 := comes_1 fun _ _ _ _ _ _ h hF => ⟨h.2.1, hF⟩
end Jvm.Pilot.@@N@@
namespace Jvm.Pilot.@@N@@
open Jvm Jvm.ClassFile Sem Op Lib Jvm.Free Jvm.Stand Jvm.Pilot.@@N@@.Jvm.D
/-! MADE BY PROGRAM (witnessworld.py) out of the Statement's table words and the real class files: 9 classes; the members and pool entries that the words name. The judged class is class 1, her method 1. -/
namespace start1
open Jvm.ClassFile
def u (s : String) : CpInfo := .utf8 (stringToUtf16 s)
/-- a pool by its gaps: so many unusable entries, then the entry; so many at the end -/
def gap : Nat → List CpInfo → List CpInfo
  | 0, r => r
  | n + 1, r => .unusable :: gap n r
def poolList (es : List (Nat × CpInfo)) (last : Nat) : List CpInfo := es.foldr (fun e r => gap e.1 (e.2 :: r)) (gap last [])
def pool (es : List (Nat × CpInfo)) (last : Nat) : Array CpInfo := ⟨poolList es last⟩
def fileOf (pool : Array CpInfo) (this : Nat) (attrs : Array Attribute := #[]) (ms : Array MethodInfo := #[]) (fl : Nat := 33) (sup : Nat := 0) (ifs : Array Nat := #[]) (fds : Array FieldInfo := #[]) : ClassFile where
  minorVersion := 0
  majorVersion := 65
  constantPool := pool
  accessFlags := fl
  thisClass := this
  superClass := sup
  interfaces := ifs
  fields := fds
  methods := ms
  attributes := attrs
def plain (name : String) (sup : Option ClassId) : Class where
  name := name
  kind := .ordinary
  loader := none
  accessFlags := 33
  super := sup
  interfaces := #[]
  cf := none
  fields := #[]
  methods := #[]
  instanceTypes := #[]
  staticTypes := #[]
  resolved := #[]
  callSites := []
  init := .initialized
  statics := none
  mirror := none

def pool0 : Array CpInfo := pool [(5, u "<init>"), (0, u "()V"), (1, .class_ 10), (1, u "java/lang/Object")] 113

def k0c0 : Code := { maxStack := 0, maxLocals := 1, code := object_method_1_code, exceptionTable := #[], attributes := #[] }
def k0m0 : Method := { name := "<init>", desc := "()V", sig := { parameters := [], returnType := none }, accessFlags := 1, code := some k0c0 }
/-- java/lang/Object -/
def k0 : Class := { plain "java/lang/Object" none with
  accessFlags := 33
  interfaces := #[]
  cf := some (fileOf pool0 8 #[] #[{ accessFlags := 1, nameIndex := 5, descriptorIndex := 6, attributes := #[] }] 33 0 #[] #[])
  fields := #[]
  methods := #[k0m0]
  instanceTypes := #[]
  staticTypes := #[]
  resolved := Array.replicate 124 none
  statics := none }

def pool1 : Array CpInfo := pool [(2, .class_ 4), (0, .nameAndType 5 6), (0, u "java/lang/Object"), (0, u "<init>"), (0, u "()V"), (0, .integer 65536), (0, .integer 65535), (0, .integer 2147483647), (0, .class_ 11), (0, u "com/example/axiomloom/axiomloom/reasoner/IntSet"), (0, .methodref 10 3), (0, .methodref 14 15), (0, .class_ 16), (0, .nameAndType 17 18), (0, u "com/example/axiomloom/axiomloom/reasoner/IntSetToArrayPinLaw"), (0, u "addIf"), (0, u "(Lcom/example/axiomloom/axiomloom/reasoner/IntSet;[III)V"), (0, .methodref 10 20), (0, .nameAndType 21 22), (0, u "toArray"), (0, u "()[I"), (0, .methodref 14 24), (0, .nameAndType 25 26), (0, u "fresh"), (0, u "([III)I"), (0, .methodref 14 28), (0, .nameAndType 29 30), (0, u "allIn"), (0, u "([II[II)Z"), (0, .methodref 10 32), (0, .nameAndType 33 34), (0, u "add"), (0, u "(I)Z"), (0, .methodref 14 36), (0, .nameAndType 37 38), (0, u "seenBefore"), (0, u "([II)Z"), (0, .methodref 14 40), (0, .nameAndType 41 42), (0, u "has"), (0, u "([III)Z"), (0, .methodref 14 44), (0, .nameAndType 45 46), (0, u "okAt"), (0, u "([II[III)Z"), (2, u "law"), (0, u "(JJJJI)Z")] 5

def k1m0 : Method := { name := "<init>", desc := "()V", sig := { parameters := [], returnType := none }, accessFlags := 1, code := none }
def k1c1 : Code := { maxStack := 5, maxLocals := 16, code := code, exceptionTable := #[], attributes := #[] }
def k1m1 : Method := { name := "law", desc := "(JJJJI)Z", sig := { parameters := [.long, .long, .long, .long, .int], returnType := some .boolean }, accessFlags := 9, code := some k1c1 }
def k1c2 : Code := { maxStack := 3, maxLocals := 4, code := method_3_code, exceptionTable := #[], attributes := #[] }
def k1m2 : Method := { name := "addIf", desc := "(Lcom/example/axiomloom/axiomloom/reasoner/IntSet;[III)V", sig := { parameters := [(.object "com/example/axiomloom/axiomloom/reasoner/IntSet"), (.array .int), .int, .int], returnType := none }, accessFlags := 10, code := some k1c2 }
def k1c3 : Code := { maxStack := 3, maxLocals := 2, code := method_4_code, exceptionTable := #[], attributes := #[] }
def k1m3 : Method := { name := "seenBefore", desc := "([II)Z", sig := { parameters := [(.array .int), .int], returnType := some .boolean }, accessFlags := 10, code := some k1c3 }
def k1c4 : Code := { maxStack := 2, maxLocals := 3, code := method_5_code, exceptionTable := #[], attributes := #[] }
def k1m4 : Method := { name := "fresh", desc := "([III)I", sig := { parameters := [(.array .int), .int, .int], returnType := some .int }, accessFlags := 10, code := some k1c4 }
def k1c5 : Code := { maxStack := 2, maxLocals := 3, code := method_6_code, exceptionTable := #[], attributes := #[] }
def k1m5 : Method := { name := "has", desc := "([III)Z", sig := { parameters := [(.array .int), .int, .int], returnType := some .boolean }, accessFlags := 10, code := some k1c5 }
def k1c6 : Code := { maxStack := 4, maxLocals := 5, code := method_7_code, exceptionTable := #[], attributes := #[] }
def k1m6 : Method := { name := "okAt", desc := "([II[III)Z", sig := { parameters := [(.array .int), .int, (.array .int), .int, .int], returnType := some .boolean }, accessFlags := 10, code := some k1c6 }
def k1c7 : Code := { maxStack := 5, maxLocals := 4, code := method_8_code, exceptionTable := #[], attributes := #[] }
def k1m7 : Method := { name := "allIn", desc := "([II[II)Z", sig := { parameters := [(.array .int), .int, (.array .int), .int], returnType := some .boolean }, accessFlags := 10, code := some k1c7 }
/-- com/example/axiomloom/axiomloom/reasoner/IntSetToArrayPinLaw -/
def k1 : Class := { plain "com/example/axiomloom/axiomloom/reasoner/IntSetToArrayPinLaw" (some 0) with
  accessFlags := 49
  interfaces := #[]
  cf := some (fileOf pool1 14 #[] #[{ accessFlags := 1, nameIndex := 5, descriptorIndex := 6, attributes := #[] }, { accessFlags := 9, nameIndex := 49, descriptorIndex := 50, attributes := #[] }, { accessFlags := 10, nameIndex := 17, descriptorIndex := 18, attributes := #[] }, { accessFlags := 10, nameIndex := 37, descriptorIndex := 38, attributes := #[] }, { accessFlags := 10, nameIndex := 25, descriptorIndex := 26, attributes := #[] }, { accessFlags := 10, nameIndex := 41, descriptorIndex := 42, attributes := #[] }, { accessFlags := 10, nameIndex := 45, descriptorIndex := 46, attributes := #[] }, { accessFlags := 10, nameIndex := 29, descriptorIndex := 30, attributes := #[] }] 49 2 #[] #[])
  fields := #[]
  methods := #[k1m0, k1m1, k1m2, k1m3, k1m4, k1m5, k1m6, k1m7]
  instanceTypes := #[]
  staticTypes := #[]
  resolved := Array.replicate 56 none
  statics := none }

def pool2 : Array CpInfo := pool [(1, .methodref 2 3), (0, .class_ 4), (0, .nameAndType 5 6), (0, u "java/lang/Object"), (0, u "<init>"), (0, u "()V"), (0, .class_ 8), (0, u "com/example/axiomloom/axiomloom/reasoner/IntSet"), (0, .fieldref 7 10), (0, .nameAndType 11 12), (0, u "slots"), (0, u "[I"), (0, .fieldref 7 14), (0, .nameAndType 15 16), (0, u "FIRST_SHIFT"), (0, u "I"), (0, .fieldref 7 18), (0, .nameAndType 19 16), (0, u "shift"), (0, .methodref 7 21), (0, .nameAndType 22 23), (0, u "find"), (0, u "([III)I"), (0, .fieldref 7 25), (0, .nameAndType 26 16), (0, u "size"), (0, .methodref 7 28), (0, .nameAndType 29 6), (0, u "grow"), (6, .integer 2654435769), (6, u "FIRST_SLOTS"), (4, u "add"), (0, u "(I)Z"), (3, u "toArray"), (0, u "()[I")] 6

def k2c0 : Code := { maxStack := 2, maxLocals := 1, code := prog_106_method_1_code, exceptionTable := #[], attributes := #[] }
def k2m0 : Method := { name := "<init>", desc := "()V", sig := { parameters := [], returnType := none }, accessFlags := 0, code := some k2c0 }
def k2c1 : Code := { maxStack := 4, maxLocals := 3, code := prog_106_method_2_code, exceptionTable := #[], attributes := #[] }
def k2m1 : Method := { name := "add", desc := "(I)Z", sig := { parameters := [.int], returnType := some .boolean }, accessFlags := 0, code := some k2c1 }
def k2c2 : Code := { maxStack := 4, maxLocals := 7, code := prog_106_method_5_code, exceptionTable := #[], attributes := #[] }
def k2m2 : Method := { name := "toArray", desc := "()[I", sig := { parameters := [], returnType := some (.array .int) }, accessFlags := 0, code := some k2c2 }
def k2c3 : Code := { maxStack := 5, maxLocals := 7, code := prog_106_method_7_code, exceptionTable := #[], attributes := #[] }
def k2m3 : Method := { name := "grow", desc := "()V", sig := { parameters := [], returnType := none }, accessFlags := 2, code := some k2c3 }
def k2c4 : Code := { maxStack := 3, maxLocals := 5, code := prog_106_method_8_code, exceptionTable := #[], attributes := #[] }
def k2m4 : Method := { name := "find", desc := "([III)I", sig := { parameters := [(.array .int), .int, .int], returnType := some .int }, accessFlags := 10, code := some k2c4 }
/-- com/example/axiomloom/axiomloom/reasoner/IntSet -/
def k2 : Class := { plain "com/example/axiomloom/axiomloom/reasoner/IntSet" (some 0) with
  accessFlags := 48
  interfaces := #[]
  cf := some (fileOf pool2 7 #[] #[{ accessFlags := 0, nameIndex := 5, descriptorIndex := 6, attributes := #[] }, { accessFlags := 0, nameIndex := 48, descriptorIndex := 49, attributes := #[] }, { accessFlags := 0, nameIndex := 53, descriptorIndex := 54, attributes := #[] }, { accessFlags := 2, nameIndex := 29, descriptorIndex := 6, attributes := #[] }, { accessFlags := 10, nameIndex := 22, descriptorIndex := 23, attributes := #[] }] 48 2 #[] #[{ accessFlags := 26, nameIndex := 43, descriptorIndex := 16, attributes := #[] }, { accessFlags := 26, nameIndex := 15, descriptorIndex := 16, attributes := #[] }, { accessFlags := 2, nameIndex := 11, descriptorIndex := 12, attributes := #[] }, { accessFlags := 2, nameIndex := 19, descriptorIndex := 16, attributes := #[] }, { accessFlags := 2, nameIndex := 26, descriptorIndex := 16, attributes := #[] }])
  fields := #[{ name := "FIRST_SLOTS", type := .int, accessFlags := 26, slot := 0, constantValue := 0 }, { name := "FIRST_SHIFT", type := .int, accessFlags := 26, slot := 1, constantValue := 0 }, { name := "slots", type := (.array .int), accessFlags := 2, slot := 0, constantValue := 0 }, { name := "shift", type := .int, accessFlags := 2, slot := 1, constantValue := 0 }, { name := "size", type := .int, accessFlags := 2, slot := 2, constantValue := 0 }]
  methods := #[k2m0, k2m1, k2m2, k2m3, k2m4]
  instanceTypes := #[(.array .int), .int, .int]
  staticTypes := #[.int, .int]
  resolved := Array.replicate 61 none
  statics := some 0 }

def pool3 : Array CpInfo := pool [(1, u "java/lang/Cloneable"), (0, .class_ 1), (0, u "java/lang/Object"), (0, .class_ 3)] 3

/-- java/lang/Cloneable -/
def k3 : Class := { plain "java/lang/Cloneable" (some 0) with
  accessFlags := 1537
  interfaces := #[]
  cf := some (fileOf pool3 2 #[] #[] 1537 4 #[] #[])
  fields := #[]
  methods := #[]
  instanceTypes := #[]
  staticTypes := #[]
  resolved := Array.replicate 8 none
  statics := none }

def pool4 : Array CpInfo := pool [(1, u "java/io/Serializable"), (0, .class_ 1), (0, u "java/lang/Object"), (0, .class_ 3)] 3

/-- java/io/Serializable -/
def k4 : Class := { plain "java/io/Serializable" (some 0) with
  accessFlags := 1537
  interfaces := #[]
  cf := some (fileOf pool4 2 #[] #[] 1537 4 #[] #[])
  fields := #[]
  methods := #[]
  instanceTypes := #[]
  staticTypes := #[]
  resolved := Array.replicate 8 none
  statics := none }

/-- the primitive byte -/
def k5 : Class := { plain "byte" none with kind := .primitive 'B', accessFlags := 0x411 }
/-- [B -/
def k6 : Class := { plain "[B" (some 0) with kind := .array 5 .byte, interfaces := #[3, 4], accessFlags := 1041 }

/-- the primitive int -/
def k7 : Class := { plain "int" none with kind := .primitive 'I', accessFlags := 0x411 }
/-- [I -/
def k8 : Class := { plain "[I" (some 0) with kind := .array 7 .int, interfaces := #[3, 4], accessFlags := 1041 }

def heap : Heap := #[{ cls := 2, slots := #[.int 0, .int 29], vm := .statics 2 }]
def classes : Array Class := #[k0, k1, k2, k3, k4, k5, k6, k7, k8]
def interned : List (Array UInt16 × Addr) := []
def slotsUsed : Nat := 2
def theMethod : MethodId := ⟨1, 1⟩
def args0 : Array Value := #[.long 5, .long 6, .long 7, .long 8, .int 5]
def aboutOver (below : List Frame) : State where
  vm := { classes := classes, interned := interned.toArray }
  heap := heap
  slotsUsed := slotsUsed
  threads := #[{ frames := .invoking theMethod args0 :: below }]
def below0 : List Frame := [.native { method := ⟨0, 0⟩, args := #[] }]
def about1 : State := aboutOver below0
def p0 : Program := .bare "" "" ""
def e0 : Env := launch0.env 0 0 0
theorem w_frames : about1.frames = Frame.invoking theMethod args0 :: below0 := rfl
set_option maxRecDepth 65536 in
theorem w_args : argsFit about1.vm theMethod args0 = true := by decide +kernel
set_option maxRecDepth 65536 in
theorem w_heap : heapFits about1 = true := by decide +kernel
set_option maxRecDepth 65536 in
theorem w_runnable : about1.curStatus? = some .runnable := by decide +kernel
set_option maxRecDepth 65536 in
theorem w_alone : about1.alone = true := by decide +kernel
set_option maxRecDepth 65536 in
theorem w_named : about1.methodNamed? x = some theMethod := by decide +kernel
set_option maxRecDepth 65536 in
theorem w_hears : about1.hears theMethod below0 = true := by decide +kernel
set_option maxRecDepth 65536 in
theorem w_ripe : about1.ripe theMethod args0 below0 = true := by decide +kernel
theorem w_running : about1.status = .running := rfl
set_option maxRecDepth 65536 in
theorem w_room : about1.hasRoom e0.platform room_1 = true :=
  launch0.hasRoom_least _ room_1 (by decide +kernel) (by decide +kernel) (by decide +kernel) (by decide +kernel) (by decide +kernel) (by decide +kernel)
theorem allAtoms_all (ts : List Jvm.Cond) (a : Array Jvm.Value) (st : Jvm.State) : (allAtoms ts).before a st = ts.all (fun c => c.before a st) := by
  induction ts with
  | nil => rfl
  | cons c t ih =>
    show (Jvm.Cond.and c (allAtoms t)).before a st = _
    rw [Jvm.Cond.before_and, ih, List.all_cons]
def words1 : List Jvm.Cond := Jvm.Cond.code x code maxLocals ret :: tables_1
/-- a 'code' word, met by the world's own term for the bytes: nothing is compared byte by byte -/
theorem code_word {y : MethodName} {bytes : ByteArray} {mx : Nat} {rt : Option FieldType} {a : Array Value} {s : State} {m : MethodId} {meth : Method} {c : Code} (h1 : s.methodNamed? y = some m) (h2 : s.vm.method? m = some meth) (h3 : meth.code = some c) (h4 : c.code = bytes)
    (h5 : (c.maxLocals == mx && c.exceptionTable.isEmpty && decide (c.maxStack ≤ mostOperands) && decide (meth.sig.returnType = rt) && !meth.locks && decide (parseMethodDescriptor y.desc = some meth.sig)) = true) : (Jvm.Cond.code y bytes mx rt).before a s = true := by
  simp only [Bool.and_eq_true, beq_iff_eq, Bool.not_eq_true', decide_eq_true_eq] at h5
  obtain ⟨⟨⟨⟨⟨g1, g2⟩, g3⟩, g4⟩, g5⟩, g6⟩ := h5
  simp [Cond.before, Cond.holds, Cond.value, h1, h2, h3, h4, g1, g2, g3, g4, g5, g6]
def isCode : Jvm.Cond → Bool
  | .code _ _ _ _ => true
  | _ => false
theorem all_split {L : List Jvm.Cond} {P : Jvm.Cond → Bool} (h1 : L.all (fun c => isCode c || P c) = true) (h2 : ∀ c ∈ L.filter isCode, P c = true) : L.all P = true := by
  refine List.all_eq_true.mpr fun c hc => ?_
  have h := List.all_eq_true.mp h1 c hc
  rcases Bool.eq_false_or_eq_true (isCode c) with hi | hi
  · exact h2 c (List.mem_filter.mpr ⟨hc, hi⟩)
  · simpa [hi] using h
set_option maxRecDepth 65536 in
theorem w_c0 : (Jvm.Cond.code x code maxLocals ret).before args0 about1 = true := code_word (m := ⟨1, 1⟩) (meth := k1m1) (c := k1c1) (by decide +kernel) rfl rfl rfl (by decide +kernel)
set_option maxRecDepth 65536 in
theorem w_c1 : (Jvm.Cond.code ({ cls := "com/example/axiomloom/axiomloom/reasoner/IntSet", name := "<init>", desc := "()V" } : Jvm.MethodName) prog_106_method_1_code (1 : Nat) (Option.none : Option Jvm.ClassFile.FieldType)).before args0 about1 = true := code_word (m := ⟨2, 0⟩) (meth := k2m0) (c := k2c0) (by decide +kernel) rfl rfl rfl (by decide +kernel)
set_option maxRecDepth 65536 in
theorem w_c2 : (Jvm.Cond.code ({ cls := "java/lang/Object", name := "<init>", desc := "()V" } : Jvm.MethodName) object_method_1_code (1 : Nat) (Option.none : Option Jvm.ClassFile.FieldType)).before args0 about1 = true := code_word (m := ⟨0, 0⟩) (meth := k0m0) (c := k0c0) (by decide +kernel) rfl rfl rfl (by decide +kernel)
set_option maxRecDepth 65536 in
theorem w_c3 : (Jvm.Cond.code ({ cls := "com/example/axiomloom/axiomloom/reasoner/IntSetToArrayPinLaw", name := "addIf", desc := "(Lcom/example/axiomloom/axiomloom/reasoner/IntSet;[III)V" } : Jvm.MethodName) method_3_code (4 : Nat) (Option.none : Option Jvm.ClassFile.FieldType)).before args0 about1 = true := code_word (m := ⟨1, 2⟩) (meth := k1m2) (c := k1c2) (by decide +kernel) rfl rfl rfl (by decide +kernel)
set_option maxRecDepth 65536 in
theorem w_c4 : (Jvm.Cond.code ({ cls := "com/example/axiomloom/axiomloom/reasoner/IntSet", name := "add", desc := "(I)Z" } : Jvm.MethodName) prog_106_method_2_code (3 : Nat) (Option.some Jvm.ClassFile.FieldType.boolean)).before args0 about1 = true := code_word (m := ⟨2, 1⟩) (meth := k2m1) (c := k2c1) (by decide +kernel) rfl rfl rfl (by decide +kernel)
set_option maxRecDepth 65536 in
theorem w_c5 : (Jvm.Cond.code ({ cls := "com/example/axiomloom/axiomloom/reasoner/IntSet", name := "find", desc := "([III)I" } : Jvm.MethodName) prog_106_method_8_code (5 : Nat) (Option.some Jvm.ClassFile.FieldType.int)).before args0 about1 = true := code_word (m := ⟨2, 4⟩) (meth := k2m4) (c := k2c4) (by decide +kernel) rfl rfl rfl (by decide +kernel)
set_option maxRecDepth 65536 in
theorem w_c6 : (Jvm.Cond.code ({ cls := "com/example/axiomloom/axiomloom/reasoner/IntSet", name := "toArray", desc := "()[I" } : Jvm.MethodName) prog_106_method_5_code (7 : Nat) (Option.some (Jvm.ClassFile.FieldType.array Jvm.ClassFile.FieldType.int))).before args0 about1 = true := code_word (m := ⟨2, 2⟩) (meth := k2m2) (c := k2c2) (by decide +kernel) rfl rfl rfl (by decide +kernel)
set_option maxRecDepth 65536 in
theorem w_c7 : (Jvm.Cond.code ({ cls := "com/example/axiomloom/axiomloom/reasoner/IntSetToArrayPinLaw", name := "fresh", desc := "([III)I" } : Jvm.MethodName) method_5_code (3 : Nat) (Option.some Jvm.ClassFile.FieldType.int)).before args0 about1 = true := code_word (m := ⟨1, 4⟩) (meth := k1m4) (c := k1c4) (by decide +kernel) rfl rfl rfl (by decide +kernel)
set_option maxRecDepth 65536 in
theorem w_c8 : (Jvm.Cond.code ({ cls := "com/example/axiomloom/axiomloom/reasoner/IntSetToArrayPinLaw", name := "seenBefore", desc := "([II)Z" } : Jvm.MethodName) method_4_code (2 : Nat) (Option.some Jvm.ClassFile.FieldType.boolean)).before args0 about1 = true := code_word (m := ⟨1, 3⟩) (meth := k1m3) (c := k1c3) (by decide +kernel) rfl rfl rfl (by decide +kernel)
set_option maxRecDepth 65536 in
theorem w_c9 : (Jvm.Cond.code ({ cls := "com/example/axiomloom/axiomloom/reasoner/IntSetToArrayPinLaw", name := "allIn", desc := "([II[II)Z" } : Jvm.MethodName) method_8_code (4 : Nat) (Option.some Jvm.ClassFile.FieldType.boolean)).before args0 about1 = true := code_word (m := ⟨1, 7⟩) (meth := k1m7) (c := k1c7) (by decide +kernel) rfl rfl rfl (by decide +kernel)
set_option maxRecDepth 65536 in
theorem w_c10 : (Jvm.Cond.code ({ cls := "com/example/axiomloom/axiomloom/reasoner/IntSetToArrayPinLaw", name := "okAt", desc := "([II[III)Z" } : Jvm.MethodName) method_7_code (5 : Nat) (Option.some Jvm.ClassFile.FieldType.boolean)).before args0 about1 = true := code_word (m := ⟨1, 6⟩) (meth := k1m6) (c := k1c6) (by decide +kernel) rfl rfl rfl (by decide +kernel)
set_option maxRecDepth 65536 in
theorem w_c11 : (Jvm.Cond.code ({ cls := "com/example/axiomloom/axiomloom/reasoner/IntSetToArrayPinLaw", name := "has", desc := "([III)Z" } : Jvm.MethodName) method_6_code (3 : Nat) (Option.some Jvm.ClassFile.FieldType.boolean)).before args0 about1 = true := code_word (m := ⟨1, 5⟩) (meth := k1m5) (c := k1c5) (by decide +kernel) rfl rfl rfl (by decide +kernel)
set_option maxRecDepth 65536 in
theorem w_c12 : (Jvm.Cond.code ({ cls := "com/example/axiomloom/axiomloom/reasoner/IntSet", name := "grow", desc := "()V" } : Jvm.MethodName) prog_106_method_7_code (7 : Nat) (Option.none : Option Jvm.ClassFile.FieldType)).before args0 about1 = true := code_word (m := ⟨2, 3⟩) (meth := k2m3) (c := k2c3) (by decide +kernel) rfl rfl rfl (by decide +kernel)
def codes1 : List Jvm.Cond := [Jvm.Cond.code x code maxLocals ret, Jvm.Cond.code ({ cls := "com/example/axiomloom/axiomloom/reasoner/IntSet", name := "<init>", desc := "()V" } : Jvm.MethodName) prog_106_method_1_code (1 : Nat) (Option.none : Option Jvm.ClassFile.FieldType), Jvm.Cond.code ({ cls := "java/lang/Object", name := "<init>", desc := "()V" } : Jvm.MethodName) object_method_1_code (1 : Nat) (Option.none : Option Jvm.ClassFile.FieldType), Jvm.Cond.code ({ cls := "com/example/axiomloom/axiomloom/reasoner/IntSetToArrayPinLaw", name := "addIf", desc := "(Lcom/example/axiomloom/axiomloom/reasoner/IntSet;[III)V" } : Jvm.MethodName) method_3_code (4 : Nat) (Option.none : Option Jvm.ClassFile.FieldType), Jvm.Cond.code ({ cls := "com/example/axiomloom/axiomloom/reasoner/IntSet", name := "add", desc := "(I)Z" } : Jvm.MethodName) prog_106_method_2_code (3 : Nat) (Option.some Jvm.ClassFile.FieldType.boolean), Jvm.Cond.code ({ cls := "com/example/axiomloom/axiomloom/reasoner/IntSet", name := "find", desc := "([III)I" } : Jvm.MethodName) prog_106_method_8_code (5 : Nat) (Option.some Jvm.ClassFile.FieldType.int), Jvm.Cond.code ({ cls := "com/example/axiomloom/axiomloom/reasoner/IntSet", name := "toArray", desc := "()[I" } : Jvm.MethodName) prog_106_method_5_code (7 : Nat) (Option.some (Jvm.ClassFile.FieldType.array Jvm.ClassFile.FieldType.int)), Jvm.Cond.code ({ cls := "com/example/axiomloom/axiomloom/reasoner/IntSetToArrayPinLaw", name := "fresh", desc := "([III)I" } : Jvm.MethodName) method_5_code (3 : Nat) (Option.some Jvm.ClassFile.FieldType.int), Jvm.Cond.code ({ cls := "com/example/axiomloom/axiomloom/reasoner/IntSetToArrayPinLaw", name := "seenBefore", desc := "([II)Z" } : Jvm.MethodName) method_4_code (2 : Nat) (Option.some Jvm.ClassFile.FieldType.boolean), Jvm.Cond.code ({ cls := "com/example/axiomloom/axiomloom/reasoner/IntSetToArrayPinLaw", name := "allIn", desc := "([II[II)Z" } : Jvm.MethodName) method_8_code (4 : Nat) (Option.some Jvm.ClassFile.FieldType.boolean), Jvm.Cond.code ({ cls := "com/example/axiomloom/axiomloom/reasoner/IntSetToArrayPinLaw", name := "okAt", desc := "([II[III)Z" } : Jvm.MethodName) method_7_code (5 : Nat) (Option.some Jvm.ClassFile.FieldType.boolean), Jvm.Cond.code ({ cls := "com/example/axiomloom/axiomloom/reasoner/IntSetToArrayPinLaw", name := "has", desc := "([III)Z" } : Jvm.MethodName) method_6_code (3 : Nat) (Option.some Jvm.ClassFile.FieldType.boolean), Jvm.Cond.code ({ cls := "com/example/axiomloom/axiomloom/reasoner/IntSet", name := "grow", desc := "()V" } : Jvm.MethodName) prog_106_method_7_code (7 : Nat) (Option.none : Option Jvm.ClassFile.FieldType)]
set_option maxRecDepth 65536 in
theorem codes_eq : words1.filter isCode = codes1 := rfl
theorem w_codes : ∀ c ∈ words1.filter isCode, c.before args0 about1 = true := by
  rw [codes_eq]
  intro c hc
  simp only [codes1, List.mem_cons, List.not_mem_nil, or_false] at hc
  rcases hc with rfl | rfl | rfl | rfl | rfl | rfl | rfl | rfl | rfl | rfl | rfl | rfl | rfl
  · exact w_c0
  · exact w_c1
  · exact w_c2
  · exact w_c3
  · exact w_c4
  · exact w_c5
  · exact w_c6
  · exact w_c7
  · exact w_c8
  · exact w_c9
  · exact w_c10
  · exact w_c11
  · exact w_c12
set_option maxRecDepth 65536 in
theorem w_t1 : (words1.take 24).all (fun c => isCode c || c.before args0 about1) = true := by decide +kernel
set_option maxRecDepth 65536 in
theorem w_t2 : ((words1.drop 24).take 24).all (fun c => isCode c || c.before args0 about1) = true := by decide +kernel
set_option maxRecDepth 65536 in
theorem w_t3 : ((words1.drop 24).drop 24).all (fun c => isCode c || c.before args0 about1) = true := by decide +kernel
theorem w_tables : (allAtoms (Jvm.Cond.code x code maxLocals ret :: tables_1)).before args0 about1 = true := by
  rw [allAtoms_all]
  show words1.all (fun c => c.before args0 about1) = true
  refine all_split ?_ w_codes
  rw [← List.take_append_drop 24 words1, List.all_append, w_t1, ← List.take_append_drop 24 (words1.drop 24), List.all_append, w_t2, w_t3]
  rfl
set_option maxRecDepth 65536 in
theorem w_case : (Jvm.Cond.and given_1 narrow_1).before args0 about1 = true := by decide +kernel
theorem w_applies : (headSpec (Jvm.Cond.code x code maxLocals ret :: tables_1) room_1).applies x e0.platform about1 = true :=
  (Spec.applies_iff w_frames).mpr ⟨w_running, w_runnable, w_alone, w_named, w_hears, w_ripe, w_room, w_tables⟩
theorem atStart : AtStart classFile x code maxLocals ret World_1 tables_1 room_1 Calls_1 rest_1 Pre_1 launch0 p0 e0 about1 theMethod args0 below0 :=
  ⟨lists_1, trivial, launch0.admits_env _ _ _, launch0.least_env, fairChoices_fair.cas, fairChoices_fair.clock, w_frames, w_args, w_heap, w_applies, trivial, trivial, w_case⟩
end start1
theorem witness_1 : WitnessClaimed_1 := ⟨start1.p0, start1.e0, start1.about1, start1.theMethod, start1.args0, start1.below0, start1.atStart⟩
end Jvm.Pilot.@@N@@
