import JvmDerived
import JvmDerived.Pilot.@@N@@Statement
import JvmDerived.Pilot.@@N@@Code
set_option linter.unusedVariables false
set_option linter.unusedSimpArgs false
namespace Jvm.RoadKit
open Sem ClassFile Op Lib Jvm.Stand Jvm.Free Jvm.LawKit
section New
variable {p : Program} {l : Launch} {e : Env} {R : Room} {s : State} {m : MethodId} {args : Array Value} {below : List Frame} {meth : Method} {c : Code} {T : State} {locs : List Loc} {cells slots : Nat}
theorem retI (X : Stand p l e R s m args below meth c T locs cells slots) (hx : p.tables.exec = Jvm.exec) {pc : Nat} {Ls : Array Slot} {z : Int32} {rest : List Value} (hret : meth.sig.returnType = some .int) (hd : decode c.code pc = .ok (.ireturn, 1)) {fs : List Frame}
    (hl : ∀ (f : JFrame) (acts : List Action), f.method = m → f.locked = none → f.entered = [] → (doReturn e (T.setTop f) acts (some (.int z))).1 = T.setFrames fs) : Steps p.tables e below (T.setTop (mkF m pc Ls (.int z :: rest))) (T.setFrames fs) := by
  have hm' : T.vm.method? m = some meth := X.method'
  have hn : narrow .int (.int z) = .int z := rfl
  show Steps p.tables e below (T.setTop { method := m, pc := pc, locals := Ls, stack := _ :: rest, locked := none }) _
  jvm_step X.here [X.here.top, hx, hd, hm', hret, hn]
  first | (intro acts; rw [hl _ acts rfl rfl rfl]) | rw [hl _ _ rfl rfl rfl]
  exact Steps.refl _
/-- from the state a the run ends, within its caller's frames, in an outcome of which P holds -/
def own_Endz (tb : Tables) (e : Env) (below : List Frame) (P : Outcome → State → Prop) (a : State) : Prop := ∃ s₂ o, Steps tb e below a s₂ ∧ s₂.status = .running ∧ Ended s₂ below o ∧ P o s₂
abbrev own_EndQ (s : State) (k n : Nat) (Q : Option Value → Heap → List Loc → Prop) : Outcome → State → Prop := fun o U' => ∃ v L, o = .returned v ∧ Q v U'.heap L ∧ FrameEnd s o U' L k n
theorem own_go {tb : Tables} {P : Outcome → State → Prop} {a b : State} (h : ∀ t, Steps tb e below b t → Steps tb e below a t) (k : own_Endz tb e below P b) : own_Endz tb e below P a := by
  obtain ⟨s2, o, h1, r⟩ := k
  exact ⟨s2, o, h _ h1, r⟩
theorem own_tr {tb : Tables} {P : Outcome → State → Prop} {a b : State} (h : Steps tb e below a b) (k : own_Endz tb e below P b) : own_Endz tb e below P a := by
  obtain ⟨s2, o, h1, r⟩ := k
  exact ⟨s2, o, h.trans h1, r⟩
theorem own_cast {tb : Tables} {P : Outcome → State → Prop} {g g' : JFrame} (q : g = g') (k : own_Endz tb e below P (T.setTop g')) : own_Endz tb e below P (T.setTop g) := q ▸ k
theorem own_retN (X : Stand p l e R s m args below meth c T locs cells slots) (hx : p.tables.exec = Jvm.exec) (hlk : meth.locks = false) {pc : Nat} {Ls : Array Slot} {z : Int32} {t : FieldType} {rest : List Value} (hret : meth.sig.returnType = some t) (ht : t = .boolean ∨ t = .byte ∨ t = .char ∨ t = .short)
    (hd : decode c.code pc = .ok (.ireturn, 1)) {k n : Nat} {Q : Option Value → Heap → List Loc → Prop} (hk : cells ≤ k) (hn : slots ≤ n) (q : Q (some (.int (nar t z))) T.heap locs) : own_Endz p.tables e below (own_EndQ s k n Q) (T.setTop (mkF m pc Ls (.int z :: rest))) := by
  obtain ⟨fs, hr, hrun, hended, hW, hsame⟩ := X.leave (v := some (.int (nar t z))) (fun h => by rw [hret] at h; cases h) hlk
  exact ⟨_, _, retN X hx hret ht hd hr, hrun, hended, _, _, rfl, q, ⟨_, rfl⟩, hW, hsame.mono hk hn⟩
theorem own_retI (X : Stand p l e R s m args below meth c T locs cells slots) (hx : p.tables.exec = Jvm.exec) (hlk : meth.locks = false) {pc : Nat} {Ls : Array Slot} {z : Int32} {rest : List Value} (hret : meth.sig.returnType = some .int)
    (hd : decode c.code pc = .ok (.ireturn, 1)) {k n : Nat} {Q : Option Value → Heap → List Loc → Prop} (hk : cells ≤ k) (hn : slots ≤ n) (q : Q (some (.int z)) T.heap locs) : own_Endz p.tables e below (own_EndQ s k n Q) (T.setTop (mkF m pc Ls (.int z :: rest))) := by
  obtain ⟨fs, hr, hrun, hended, hW, hsame⟩ := X.leave (v := some (.int z)) (fun h => by rw [hret] at h; cases h) hlk
  exact ⟨_, _, retI X hx hret hd hr, hrun, hended, _, _, rfl, q, ⟨_, rfl⟩, hW, hsame.mono hk hn⟩
theorem own_retA (X : Stand p l e R s m args below meth c T locs cells slots) (hx : p.tables.exec = Jvm.exec) (hlk : meth.locks = false) {pc : Nat} {Ls : Array Slot} {w : Value} {t : FieldType} {rest : List Value} (hret : meth.sig.returnType = some t) (ht : t.isReference = true) (hw : w.isRef = true)
    (hd : decode c.code pc = .ok (.areturn, 1)) {k n : Nat} {Q : Option Value → Heap → List Loc → Prop} (hk : cells ≤ k) (hn : slots ≤ n) (q : Q (some w) T.heap locs) : own_Endz p.tables e below (own_EndQ s k n Q) (T.setTop (mkF m pc Ls (w :: rest))) := by
  obtain ⟨fs, hr, hrun, hended, hW, hsame⟩ := X.leave (v := some w) (fun h => by rw [hret] at h; cases h) hlk
  have hnw : narrow t w = w := by cases t <;> first | (cases ht; done) | rfl
  exact ⟨_, _, retOut X hx hret hnw (Or.inr (Or.inr (Or.inr (Or.inr ⟨rfl, ht, hw⟩)))) hd hr, hrun, hended, _, _, rfl, q, ⟨_, rfl⟩, hW, hsame.mono hk hn⟩
theorem own_retV (X : Stand p l e R s m args below meth c T locs cells slots) (hx : p.tables.exec = Jvm.exec) (hlk : meth.locks = false) {pc : Nat} {Ls : Array Slot} (hret : meth.sig.returnType = none)
    (hd : decode c.code pc = .ok (.return_, 1)) {k n : Nat} {Q : Option Value → Heap → List Loc → Prop} (hk : cells ≤ k) (hn : slots ≤ n) (q : Q none T.heap locs) : own_Endz p.tables e below (own_EndQ s k n Q) (T.setTop (mkF m pc Ls [])) := by
  obtain ⟨fs, hr, hrun, hended, hW, hsame⟩ := X.leave (v := none) (fun _ => rfl) hlk
  exact ⟨_, _, X.returnOut hx hret hd hr, hrun, hended, _, _, rfl, q, ⟨_, rfl⟩, hW, hsame.mono hk hn⟩
theorem own_ev {t u : Term} {k : Int32} {args : Array Value} (h : (Cond.eq t (.int k)).value args s none s [] = some true) : t.eval args s none [] s = some (.int k) := by
  simp only [Cond.value, Term.eval] at h
  split at h <;> simp_all
theorem own_fld {t : Term} {C n d : String} {k : Int32} {x : Addr} {args : Array Value} (ht : t.eval args s none [] s = some (.ref x)) (h : (Cond.eq (.field t C n d) (.int k)).value args s none s [] = some true) : Fld s s.heap x C n d (.int k) :=
  Fld.start ((fld_at ht).symm.trans (own_ev (u := t) h))
theorem own_enum {Z : State} {h : Heap} {C f d : String} {ad : Nat → Addr} {n : Nat} (hn : n ≤ 2 ^ 31) (F : ∀ i, i < n → Fld Z h (ad i) C f d (.int i.toInt32)) (i j : Nat) (hi : i < n) (hj : j < n) : ad i = ad j ↔ i = j := by
  refine ⟨fun q => Classical.byContradiction fun ne => (F i hi).ne (F j hj) (fun v => ne ?_) q, fun q => q ▸ rfl⟩
  have q1 := congrArg Int32.toInt (Value.int.inj v)
  rw [len_toInt (by omega), len_toInt (by omega)] at q1
  omega
theorem own_cat {v : Value} (h : v.isRef = true) : v.category = 1 := by cases v <;> first | rfl | (cases h)
theorem own_evR {t u : Term} {a : Addr} {args : Array Value} (hu : u.eval args s none [] s = some (.ref a)) (h : (Cond.eq t u).value args s none s [] = some true) : t.eval args s none [] s = some (.ref a) := by
  simp only [Cond.value, hu] at h
  split at h <;> simp_all
theorem own_len {t : Term} {x : Addr} {cl : Cell} {k : Int32} {args : Array Value} (ht : t.eval args s none [] s = some (.ref x)) (hc : s.heap[x]? = some cl) (h : (Cond.eq (.length t) (.int k)).value args s none s [] = some true) : cl.slots.size.toInt32 = k ∧ cl.slots.size < 2 ^ 31 := by
  have e := own_ev (u := t) h
  obtain ⟨x', cl', e1, e2, e3⟩ := Term.length_spec e
  cases ht.symm.trans e1
  have e4 : cl' = cl := by
    simp only [State.arrayAt?, Option.bind_eq_bind, hc, Option.bind_some] at e2
    obtain ⟨k1, -, e2⟩ := Option.bind_eq_some_iff.mp e2
    split at e2
    · cases e2
    · split at e2
      · exact (Option.some.inj e2).symm
      · cases e2
  subst e4
  refine ⟨(Value.int.inj e3).symm, Classical.byContradiction fun hn => ?_⟩
  simp [Term.eval, ht, e2] at e
  exact hn e.1
theorem own_elem {t u : Term} {x a : Addr} {cl : Cell} {k : Int32} {args : Array Value} (ht : t.eval args s none [] s = some (.ref x)) (hc : s.heap[x]? = some cl) (hu : u.eval args s none [] s = some (.ref a)) (h : (Cond.eq (.elem t (.int k)) u).value args s none s [] = some true) : cl.slots[k.toNatClampNeg]? = some (.ref a) := by
  have e := own_evR hu h
  exact (elem_in e ht (Term.int_eval k) hc).2
theorem own_ite {α : Type} {P : α → Prop} {q : Prop} [Decidable q] {a b : α} (ha : P a) (hb : P b) : P (if q then a else b) := by split <;> assumption
theorem own_i {x y : Int32} (h : x ≠ y) : (Value.int x) ≠ .int y := fun q => h (Value.int.inj q)
end New
end Jvm.RoadKit
/- laws to paste: Road.backV (cut by pick.py; bodies as the Statement names them) -/
namespace Jvm.Pilot.@@N@@
namespace StrChars
open Jvm Sem ClassFile Op Lib Jvm.Stand Jvm.Free.XT Jvm.Free.ALB Jvm.Free.JM Jvm.Free
open Jvm.Lib.Cold (StaticIs)
/-- a char array whose places are chars -/
def Ch (a : Addr) (A : Cell) (U : State) : Prop := Arr .char a A U ∧ Typed .char A
theorem Ch.mv {a : Addr} {A : Cell} {U U' : State} (h : Ch a A U) (hal : U.vm.Alike U'.vm) (hh : U'.heap = U.heap) : Ch a A U' := ⟨h.1.mv hal hh, h.2⟩
theorem Ch.keep {a : Addr} {A : Cell} {U U' : State} (h : Ch a A U) (hal : U.vm.Alike U'.vm) (hk : U'.heap[a]? = some A) : Ch a A U' := ⟨h.1.keep hal hk, h.2⟩
/-- what place i of a char[]'s cell holds -/
def cv (A : Cell) (i : Nat) : Int32 := match A.slots[i]? with | some (.int x) => x | _ => 0
theorem Ch.get {a : Addr} {A : Cell} {U : State} (h : Ch a A U) {i : Nat} (hi : i < A.slots.size) : A.slots[i]? = some (.int (cv A i)) := by
  have e := Array.getElem?_eq_getElem hi
  have f := h.2 i _ e
  unfold cv; rw [e]
  generalize A.slots[i] = v at f
  cases v <;> simp [fits] at f ⊢
/-- the byte that i2b leaves of a char -/
def lo8 (x : Int32) : Int32 := x.toInt8.toInt32
theorem fits_lo8 (y : Int32) : fits .byte (.int (lo8 y)) = true := by
  have h1 := y.toInt8.le_toInt
  have h2 := y.toInt8.toInt_lt
  simp only [lo8, fits, Bool.and_eq_true, decide_eq_true_eq, Int32.le_iff_toInt_le, Int8.toInt_toInt32, show (-128 : Int32).toInt = -128 from by decide, show (127 : Int32).toInt = 127 from by decide]
  omega
/-- A' is A but that each place j of lo .. hi - 1 holds f j -/
def Laid (A A' : Cell) (lo hi : Nat) (f : Nat → Value) : Prop := A'.cls = A.cls ∧ A'.vm = A.vm ∧ A'.slots.size = A.slots.size ∧ ∀ i, A'.slots[i]? = if lo ≤ i ∧ i < hi then some (f i) else A.slots[i]?
theorem Laid.zero (A : Cell) (lo : Nat) (f : Nat → Value) : Laid A A lo (lo + 0) f := ⟨rfl, rfl, rfl, fun i => by rw [if_neg (by omega)]⟩
theorem Laid.step {A Ak : Cell} {lo k : Nat} {f : Nat → Value} {v : Value} (h : Laid A Ak lo k f) (hlo : lo ≤ k) (hk : k < Ak.slots.size) (hv : v = f k) : Laid A (Ak.setSlot k v) lo (k + 1) f := by
  refine ⟨h.1, h.2.1, by simpa [Cell.setSlot] using h.2.2.1, fun i => ?_⟩
  by_cases e : k = i
  · subst e; rw [Cell.slots_setSlot_self v hk, if_pos (by omega), hv]
  · rw [Cell.slots_setSlot_ne v e, h.2.2.2 i]
    by_cases q : lo ≤ i ∧ i < k
    · rw [if_pos q, if_pos (by omega)]
    · rw [if_neg q, if_neg (by omega)]
def U16 : String := "java/lang/StringUTF16"
namespace Cmp5
def yN : MethodName := ⟨"java/lang/StringUTF16", "compress", "([CI[BII)I"⟩
abbrev yB : ByteArray := jdk_52_method_21_code
theorem d0 : decode yB 0 = .ok (.iconst 0, 1) := by decide +kernel
theorem d1 : decode yB 1 = .ok (.istore 5, 2) := by decide +kernel
theorem d3 : decode yB 3 = .ok (.iload 5, 2) := by decide +kernel
theorem d5 : decode yB 5 = .ok (.iload 4, 2) := by decide +kernel
theorem d7 : decode yB 7 = .ok (.if_icmp (.ge) 37, 3) := by decide +kernel
theorem d10 : decode yB 10 = .ok (.aload_n 0, 1) := by decide +kernel
theorem d11 : decode yB 11 = .ok (.iload_n 1, 1) := by decide +kernel
theorem d12 : decode yB 12 = .ok (.caload, 1) := by decide +kernel
theorem d13 : decode yB 13 = .ok (.istore 6, 2) := by decide +kernel
theorem d15 : decode yB 15 = .ok (.iload 6, 2) := by decide +kernel
theorem d17 : decode yB 17 = .ok (.sipush 255, 3) := by decide +kernel
theorem d20 : decode yB 20 = .ok (.if_icmp (.le) 6, 3) := by decide +kernel
theorem d26 : decode yB 26 = .ok (.aload_n 2, 1) := by decide +kernel
theorem d27 : decode yB 27 = .ok (.iload_n 3, 1) := by decide +kernel
theorem d28 : decode yB 28 = .ok (.iload 6, 2) := by decide +kernel
theorem d30 : decode yB 30 = .ok (.i2b, 1) := by decide +kernel
theorem d31 : decode yB 31 = .ok (.bastore, 1) := by decide +kernel
theorem d32 : decode yB 32 = .ok (.iinc 1 1, 3) := by decide +kernel
theorem d35 : decode yB 35 = .ok (.iinc 3 1, 3) := by decide +kernel
theorem d38 : decode yB 38 = .ok (.iinc 5 1, 3) := by decide +kernel
theorem d41 : decode yB 41 = .ok (.goto (-38), 3) := by decide +kernel
theorem d44 : decode yB 44 = .ok (.iload 4, 2) := by decide +kernel
theorem d46 : decode yB 46 = .ok (.ireturn, 1) := by decide +kernel
def site : List Cond := []
def tab : Cond := tabOf yN yB 7 (some .int) site
def P (b : Addr) (A : Cell) (d : Addr) (B : Cell) (o q len : Nat) (args : Array Value) (s : State) : Prop := args = #[.ref b, .int (Int32.ofNat o), .ref d, .int (Int32.ofNat q), .int (Int32.ofNat len)] ∧ Ch b A s ∧ Arr .byte d B s ∧ b ≠ d ∧ o + len ≤ A.slots.size ∧ q + len ≤ B.slots.size ∧ ∀ i, i < len → ¬ 255 < cv A (o + i)
def E (b : Addr) (A : Cell) (d : Addr) (B : Cell) (o q len : Nat) (r : Option Value) (s u : State) : Prop := r = some (.int (Int32.ofNat len)) ∧ ∃ B', Put d B' s u ∧ Laid B B' q (q + len) (fun j => Value.int (lo8 (cv A (o + (j - q)))))
/-- no char of the range above 255: len; the places written hold each char's low byte -/
theorem law (l : Launch) (b : Addr) (A : Cell) (d : Addr) (B : Cell) (o q len : Nat) : Law l yN 5 5 0 0 yB 7 (some .int) site (P b A d B o q len) (E b A d B o q len) (copyLocs d q len) 0 0 := by
  refine Law.of_walk (plainFor_of_name (by decide +kernel)) (by decide +kernel) (by decide +kernel) (by decide) (fun _ _ h => by rw [h.1]; rfl) (fun _ U U' hal hh h => ⟨h.1, h.2.1.mv hal hh, h.2.2.1.mv hal hh, h.2.2.2⟩) (fun r U U' V V' h1 hal h2 h => ⟨h.1, h.2.elim fun B' q => ⟨B', q.1.mv h1 h2, q.2⟩⟩) ?_
  intro p e s m args below meth c s₁ X0 hexec hbytes hml hret hlk hnm hown hh0 W hP
  obtain ⟨rfl, hA, hB, hne, l1, l2, hp⟩ := hP
  have c1 : Steps p.tables e below (s₁.setTop (entryFrame m #[.ref b, .int (Int32.ofNat o), .ref d, .int (Int32.ofNat q), .int (Int32.ofNat len)] 7)) (s₁.setTop (mkF m 0 #[.val (.ref b), .val (.int (Int32.ofNat o)), .val (.ref d), .val (.int (Int32.ofNat q)), .val (.int (Int32.ofNat len)), .unset, .unset] [])) := entry rfl
  have hA0 := hA.1.mv X0.warmed.alike hh0
  have hB0 := hB.mv X0.warmed.alike hh0
  have a31 := hA.1.2.2.2
  have c2 : Steps p.tables e below (s₁.setTop (entryFrame m #[.ref b, .int (Int32.ofNat o), .ref d, .int (Int32.ofNat q), .int (Int32.ofNat len)] 7)) (s₁.setTop (mkF m 3 #[.val (.ref b), .val (.int (Int32.ofNat o)), .val (.ref d), .val (.int (Int32.ofNat q)), .val (.int (Int32.ofNat len)), .val (.int 0), .unset] [])) := c1.trans (by
    refine iconstV X0.here hexec rfl 0 (hb hbytes d0) (by decide) ?_
    refine XS.istore X0.here hexec rfl (hb hbytes d1) rfl rfl ?_
    exact Steps.refl _)
  have loop : ∀ (r i : Nat), i + r = len → ∀ (z : Slot), (z = .unset ∨ ∃ w, z = .val w ∧ w.category = 1) → ∀ (Tl : State) (Bk : Cell), Stand p l e { frames := 0, locals := 0, cells := 0, slots := 0 } s m #[.ref b, .int (Int32.ofNat o), .ref d, .int (Int32.ofNat q), .int (Int32.ofNat len)] below meth c Tl ([] ++ copyLocs d q i) 0 0 → Put d Bk s₁ Tl → Laid B Bk q (q + i) (fun j => Value.int (lo8 (cv A (o + (j - q))))) →
      Steps p.tables e below (s₁.setTop (entryFrame m #[.ref b, .int (Int32.ofNat o), .ref d, .int (Int32.ofNat q), .int (Int32.ofNat len)] 7)) (Tl.setTop (mkF m 3 #[.val (.ref b), .val (.int (Int32.ofNat (o + i))), .val (.ref d), .val (.int (Int32.ofNat (q + i))), .val (.int (Int32.ofNat len)), .val (.int (Int32.ofNat i)), z] [])) → ∃ (T' : State) (B' : Cell) (z' : Slot), Stand p l e { frames := 0, locals := 0, cells := 0, slots := 0 } s m #[.ref b, .int (Int32.ofNat o), .ref d, .int (Int32.ofNat q), .int (Int32.ofNat len)] below meth c T' ([] ++ copyLocs d q len) 0 0 ∧ Put d B' s₁ T' ∧ Laid B B' q (q + len) (fun j => Value.int (lo8 (cv A (o + (j - q))))) ∧
      Steps p.tables e below (s₁.setTop (entryFrame m #[.ref b, .int (Int32.ofNat o), .ref d, .int (Int32.ofNat q), .int (Int32.ofNat len)] 7)) (T'.setTop (mkF m 3 #[.val (.ref b), .val (.int (Int32.ofNat (o + len))), .val (.ref d), .val (.int (Int32.ofNat (q + len))), .val (.int (Int32.ofNat len)), .val (.int (Int32.ofNat len)), z'] [])) := by
    intro r
    induction r with
    | zero =>
      intro i hi z hz Tl Bk Xl pl fl cl
      have hil : i = len := by omega
      rw [hil] at Xl fl cl
      exact ⟨Tl, Bk, z, Xl, pl, fl, cl⟩
    | succ r ih =>
      intro i hi z hz Tl Bk Xl pl fl cl
      have all := X0.warmed.alike.symm.trans Xl.warmed.alike
      have hAl := hA0.keep all (pl.other hne hA0.1)
      have hBk := hB0.like all pl.1 fl.1 fl.2.1 fl.2.2.1
      have hlt : q + i < Bk.slots.size := by rw [fl.2.2.1]; omega
      have c3 : Steps p.tables e below (s₁.setTop (entryFrame m #[.ref b, .int (Int32.ofNat o), .ref d, .int (Int32.ofNat q), .int (Int32.ofNat len)] 7)) (Tl.setTop (mkF m 12 #[.val (.ref b), .val (.int (Int32.ofNat (o + i))), .val (.ref d), .val (.int (Int32.ofNat (q + i))), .val (.int (Int32.ofNat len)), .val (.int (Int32.ofNat i)), z] [.int (Int32.ofNat (o + i)), .ref b])) := cl.trans (by
        refine XS.iload Xl.here hexec rfl (hb hbytes d3) rfl ?_
        refine XS.iload Xl.here hexec rfl (hb hbytes d5) rfl ?_
        refine XS.icmpNo Xl.here hexec rfl (hb hbytes d7) rfl (ii_ge_f (lt32 (by omega) (by omega))) ?_
        refine XS.aloadN Xl.here hexec rfl (hb hbytes d10) rfl rfl ?_
        refine XS.iloadN Xl.here hexec rfl (hb hbytes d11) rfl ?_
        exact Steps.refl _)
      have c4 : Steps p.tables e below (s₁.setTop (entryFrame m #[.ref b, .int (Int32.ofNat o), .ref d, .int (Int32.ofNat q), .int (Int32.ofNat len)] 7)) (Tl.setTop (mkF m 13 #[.val (.ref b), .val (.int (Int32.ofNat (o + i))), .val (.ref d), .val (.int (Int32.ofNat (q + i))), .val (.int (Int32.ofNat len)), .val (.int (Int32.ofNat i)), z] [.int (cv A (o + i))])) := c3.trans (by
        refine Xl.aget hexec hAl rfl (hA.get (i := o + i) (by omega)) rfl rfl (hb hbytes d12) ?_
        exact Steps.refl _)
      have c5 : Steps p.tables e below (s₁.setTop (entryFrame m #[.ref b, .int (Int32.ofNat o), .ref d, .int (Int32.ofNat q), .int (Int32.ofNat len)] 7)) (Tl.setTop (mkF m 15 #[.val (.ref b), .val (.int (Int32.ofNat (o + i))), .val (.ref d), .val (.int (Int32.ofNat (q + i))), .val (.int (Int32.ofNat len)), .val (.int (Int32.ofNat i)), .val (.int (cv A (o + i)))] [])) := c4.trans (by
        refine XS.istoreS Xl.here hexec rfl (hb hbytes d13) rfl rfl hz ?_
        exact Steps.refl _)
      have c6 : Steps p.tables e below (s₁.setTop (entryFrame m #[.ref b, .int (Int32.ofNat o), .ref d, .int (Int32.ofNat q), .int (Int32.ofNat len)] 7)) (Tl.setTop (mkF m 31 #[.val (.ref b), .val (.int (Int32.ofNat (o + i))), .val (.ref d), .val (.int (Int32.ofNat (q + i))), .val (.int (Int32.ofNat len)), .val (.int (Int32.ofNat i)), .val (.int (cv A (o + i)))] [.int (lo8 (cv A (o + i))), .int (Int32.ofNat (q + i)), .ref d])) := c5.trans (by
        refine XS.iload Xl.here hexec rfl (hb hbytes d15) rfl ?_
        refine sipushV Xl.here hexec rfl 255 (hb hbytes d17) (by decide) ?_
        refine XS.icmpYes Xl.here hexec rfl (pc0 := 20) rfl (hb hbytes d20) rfl (ii_le_t (hp i (by omega))) (by decide) rfl ?_
        refine XS.aloadN Xl.here hexec rfl (hb hbytes d26) rfl rfl ?_
        refine XS.iloadN Xl.here hexec rfl (hb hbytes d27) rfl ?_
        refine XS.iload Xl.here hexec rfl (hb hbytes d28) rfl ?_
        refine i2b Xl.here hexec rfl (hb hbytes d30) rfl ?_
        exact Steps.refl _)
      obtain ⟨T7, X7, p7, st7⟩ := Xl.aput hexec hBk rfl hlt rfl (fits_lo8 (cv A (o + i))) (g := (mkF m 31 #[.val (.ref b), .val (.int (Int32.ofNat (o + i))), .val (.ref d), .val (.int (Int32.ofNat (q + i))), .val (.int (Int32.ofNat len)), .val (.int (Int32.ofNat i)), .val (.int (cv A (o + i)))] [.int (lo8 (cv A (o + i))), .int (Int32.ofNat (q + i)), .ref d])) rfl (rest := []) rfl (hb hbytes d31)
      have c8 : Steps p.tables e below (s₁.setTop (entryFrame m #[.ref b, .int (Int32.ofNat o), .ref d, .int (Int32.ofNat q), .int (Int32.ofNat len)] 7)) (T7.setTop (mkF m 32 #[.val (.ref b), .val (.int (Int32.ofNat (o + i))), .val (.ref d), .val (.int (Int32.ofNat (q + i))), .val (.int (Int32.ofNat len)), .val (.int (Int32.ofNat i)), .val (.int (cv A (o + i)))] [])) := c6.trans (st7 _ (Steps.refl _))
      have c9 : Steps p.tables e below (s₁.setTop (entryFrame m #[.ref b, .int (Int32.ofNat o), .ref d, .int (Int32.ofNat q), .int (Int32.ofNat len)] 7)) (T7.setTop (mkF m 3 #[.val (.ref b), .val (.int (Int32.ofNat (o + i) + 1)), .val (.ref d), .val (.int (Int32.ofNat (q + i) + 1)), .val (.int (Int32.ofNat len)), .val (.int (Int32.ofNat i + 1)), .val (.int (cv A (o + i)))] [])) := c8.trans (by
        refine iincV X7.here hexec rfl 1 (hb hbytes d32) (by decide) rfl rfl ?_
        refine iincV X7.here hexec rfl 1 (hb hbytes d35) (by decide) rfl rfl ?_
        refine iincV X7.here hexec rfl 1 (hb hbytes d38) (by decide) rfl rfl ?_
        refine XS.goto X7.here hexec rfl (pc0 := 41) rfl (hb hbytes d41) (by decide) rfl ?_
        exact Steps.refl _)
      have c10 : Steps p.tables e below (s₁.setTop (entryFrame m #[.ref b, .int (Int32.ofNat o), .ref d, .int (Int32.ofNat q), .int (Int32.ofNat len)] 7)) (T7.setTop (mkF m 3 #[.val (.ref b), .val (.int (Int32.ofNat (o + (i + 1)))), .val (.ref d), .val (.int (Int32.ofNat (q + (i + 1)))), .val (.int (Int32.ofNat len)), .val (.int (Int32.ofNat (i + 1))), .val (.int (cv A (o + i)))] [])) := by
        have := c9
        rw [succ32, succ32, succ32] at this
        exact this
      exact ih (i + 1) (by omega) _ (Or.inr ⟨_, rfl, rfl⟩) T7 _ (by rw [copyLocs_step, ← List.append_assoc]; exact X7) (pl.trans p7) (fl.step (by omega) hlt (by simp)) c10
  obtain ⟨T9, B9, z9, X9, p9, f9, g9⟩ := loop len 0 (by omega) .unset (Or.inl rfl) s₁ B (by simpa [copyLocs] using X0) ⟨hB0.1, fun _ _ => rfl, rfl⟩ (Laid.zero _ _ _) c2
  have c11 : Steps p.tables e below (s₁.setTop (entryFrame m #[.ref b, .int (Int32.ofNat o), .ref d, .int (Int32.ofNat q), .int (Int32.ofNat len)] 7)) (T9.setTop (mkF m 46 #[.val (.ref b), .val (.int (Int32.ofNat (o + len))), .val (.ref d), .val (.int (Int32.ofNat (q + len))), .val (.int (Int32.ofNat len)), .val (.int (Int32.ofNat len)), z9] [.int (Int32.ofNat len)])) := g9.trans (by
    refine XS.iload X9.here hexec rfl (hb hbytes d3) rfl ?_
    refine XS.iload X9.here hexec rfl (hb hbytes d5) rfl ?_
    refine XS.icmpYes X9.here hexec rfl (pc0 := 7) rfl (hb hbytes d7) rfl (ii_ge_t (nlt32 (by omega) (Nat.le_refl _))) (by decide) rfl ?_
    refine XS.iload X9.here hexec rfl (hb hbytes d44) rfl ?_
    exact Steps.refl _)
  exact ⟨T9, some (.int (Int32.ofNat len)), _, _, _, X9, by simp, rfl, rfl, (fun h => by cases h), ⟨rfl, B9, p9.from hh0, f9⟩, fun fs hl => c11.trans (X9.ireturnOut hexec hret rfl (Or.inl rfl) (hb hbytes d46) hl)⟩
end Cmp5
namespace Cmp3
def yN : MethodName := ⟨"java/lang/StringUTF16", "compress", "([CII)[B"⟩
abbrev yB : ByteArray := jdk_52_method_16_code
theorem d0 : decode yB 0 = .ok (.iload_n 2, 1) := by decide +kernel
theorem d1 : decode yB 1 = .ok (.newarray .byte, 2) := by decide +kernel
theorem d3 : decode yB 3 = .ok (.astore_n 3, 1) := by decide +kernel
theorem d4 : decode yB 4 = .ok (.aload_n 0, 1) := by decide +kernel
theorem d5 : decode yB 5 = .ok (.iload_n 1, 1) := by decide +kernel
theorem d6 : decode yB 6 = .ok (.aload_n 3, 1) := by decide +kernel
theorem d7 : decode yB 7 = .ok (.iconst 0, 1) := by decide +kernel
theorem d8 : decode yB 8 = .ok (.iload_n 2, 1) := by decide +kernel
theorem d9 : decode yB 9 = .ok (.invokestatic 115, 3) := by decide +kernel
theorem d12 : decode yB 12 = .ok (.istore 4, 2) := by decide +kernel
theorem d14 : decode yB 14 = .ok (.iload 4, 2) := by decide +kernel
theorem d16 : decode yB 16 = .ok (.iload_n 2, 1) := by decide +kernel
theorem d17 : decode yB 17 = .ok (.if_icmp (.eq) 40, 3) := by decide +kernel
theorem d57 : decode yB 57 = .ok (.aload_n 3, 1) := by decide +kernel
theorem d58 : decode yB 58 = .ok (.areturn, 1) := by decide +kernel
def site : List Cond := [.arrayClass .byte, Cmp5.tab] ++ staticW U16 115 Cmp5.yN
def tab : Cond := tabOf yN yB 6 (some (.array .byte)) site
def P (b : Addr) (A : Cell) (o len : Nat) (args : Array Value) (s : State) : Prop := args = #[.ref b, .int (Int32.ofNat o), .int (Int32.ofNat len)] ∧ Ch b A s ∧ o + len ≤ A.slots.size ∧ len ≤ 536870912 ∧ ∀ i, i < len → ¬ 255 < cv A (o + i)
def E (b : Addr) (A : Cell) (o len : Nat) (r : Option Value) (s u : State) : Prop := NewArr .byte "[B" len (fun j => .int (lo8 (cv A (o + j)))) r s u ∧ u.heap.size = s.heap.size + 1
/-- no char of the range above 255: a new byte[] of their low bytes -/
theorem law (l : Launch) (b : Addr) (A : Cell) (o len : Nat) : Law l yN 3 3 1 18 yB 6 (some (.array .byte)) site (P b A o len) (E b A o len) [] 1 len := by
  refine Law.of_walk (plainFor_of_name (by decide +kernel)) (by decide +kernel) (by decide +kernel) (by decide) (fun _ _ h => by rw [h.1]; rfl) (fun _ U U' hal hh h => ⟨h.1, h.2.1.mv hal hh, h.2.2⟩) (fun r U U' V V' h1 hal h2 h => ⟨NewArr.mv r U U' V V' h1 hal h2 h.1, by rw [h1, h2]; exact h.2⟩) ?_
  intro p e s m args below meth c s₁ X0 hexec hbytes hml hret hlk hnm hown hh0 W hP
  obtain ⟨rfl, hA, l1, l2, hp⟩ := hP
  have a31 := hA.1.2.2.2
  have c1 : Steps p.tables e below (s₁.setTop (entryFrame m #[.ref b, .int (Int32.ofNat o), .int (Int32.ofNat len)] 6)) (s₁.setTop (mkF m 0 #[.val (.ref b), .val (.int (Int32.ofNat o)), .val (.int (Int32.ofNat len)), .unset, .unset, .unset] [])) := entry rfl
  have c2 : Steps p.tables e below (s₁.setTop (entryFrame m #[.ref b, .int (Int32.ofNat o), .int (Int32.ofNat len)] 6)) (s₁.setTop (mkF m 1 #[.val (.ref b), .val (.int (Int32.ofNat o)), .val (.int (Int32.ofNat len)), .unset, .unset, .unset] [.int (Int32.ofNat len)])) := c1.trans (by
    refine XS.iloadN X0.here hexec rfl (hb hbytes d0) rfl ?_
    exact Steps.refl _)
  obtain ⟨T3, B3, X3, ba3, bs3, bv3, bh3, bf3, st3⟩ := X0.anew hexec (atype := .byte) (wk W (.arrayClass .byte)) rfl (by show len * 1 ≤ _; omega) (by omega) (g := (mkF m 1 #[.val (.ref b), .val (.int (Int32.ofNat o)), .val (.int (Int32.ofNat len)), .unset, .unset, .unset] [.int (Int32.ofNat len)])) rfl (hb hbytes d1) (rest := []) rfl (Nat.le_refl _) (by show 0 + len ≤ len; omega)
  rw [hh0] at ba3 st3
  have kp3 : XT.Kept s T3 := (XT.Kept.of_eq hh0).push bh3
  have hA3 := hA.keep X3.warmed.alike (kp3 _ _ hA.1.1)
  have hne : b ≠ s.heap.size := hA.1.ne
  have c4 : Steps p.tables e below (s₁.setTop (entryFrame m #[.ref b, .int (Int32.ofNat o), .int (Int32.ofNat len)] 6)) (T3.setTop (mkF m 3 #[.val (.ref b), .val (.int (Int32.ofNat o)), .val (.int (Int32.ofNat len)), .unset, .unset, .unset] [.ref s.heap.size])) := c2.trans (st3 _ (Steps.refl _))
  have c5 : Steps p.tables e below (s₁.setTop (entryFrame m #[.ref b, .int (Int32.ofNat o), .int (Int32.ofNat len)] 6)) (T3.setTop (mkF m 9 #[.val (.ref b), .val (.int (Int32.ofNat o)), .val (.int (Int32.ofNat len)), .val (.ref s.heap.size), .unset, .unset] [.int (Int32.ofNat len), .int 0, .ref s.heap.size, .int (Int32.ofNat o), .ref b])) := c4.trans (by
    refine XS.astoreN X3.here hexec rfl (hb hbytes d3) rfl rfl rfl ?_
    refine XS.aloadN X3.here hexec rfl (hb hbytes d4) rfl rfl ?_
    refine XS.iloadN X3.here hexec rfl (hb hbytes d5) rfl ?_
    refine XS.aloadN X3.here hexec rfl (hb hbytes d6) rfl rfl ?_
    refine iconstV X3.here hexec rfl 0 (hb hbytes d7) (by decide) ?_
    refine XS.iloadN X3.here hexec rfl (hb hbytes d8) rfl ?_
    exact Steps.refl _)
  obtain ⟨v6, T6, X6, E6, g6⟩ := X3.callS hexec (Cmp5.law l b A s.heap.size B3 o 0 len) hown (wks W (staticW U16 115 Cmp5.yN)) (wk W Cmp5.tab) (W := 0) (Nat.le_of_ble_eq_true rfl) (Nat.le_of_ble_eq_true rfl) (Nat.le_refl _) (by show 0 + len + 0 ≤ len; omega) (g := (mkF m 9 #[.val (.ref b), .val (.int (Int32.ofNat o)), .val (.int (Int32.ofNat len)), .val (.ref s.heap.size), .unset, .unset] [.int (Int32.ofNat len), .int (Int32.ofNat 0), .ref s.heap.size, .int (Int32.ofNat o), .ref b])) rfl (by rw [hml]; rfl) c5 (argsL := [.ref b, .int (Int32.ofNat o), .ref s.heap.size, .int (Int32.ofNat 0), .int (Int32.ofNat len)]) (rest := []) rfl rfl (by show 2 * 0 + 0 ≤ _; decide) (hb hbytes d9) (⟨rfl, hA3, ba3, hne, l1, by rw [bs3]; simp, hp⟩)
  obtain ⟨rfl, B6, p6, f6⟩ := E6
  have c7 : Steps p.tables e below (s₁.setTop (entryFrame m #[.ref b, .int (Int32.ofNat o), .int (Int32.ofNat len)] 6)) (T6.setTop (mkF m 12 #[.val (.ref b), .val (.int (Int32.ofNat o)), .val (.int (Int32.ofNat len)), .val (.ref s.heap.size), .unset, .unset] [.int (Int32.ofNat len)])) := g6
  have c8 : Steps p.tables e below (s₁.setTop (entryFrame m #[.ref b, .int (Int32.ofNat o), .int (Int32.ofNat len)] 6)) (T6.setTop (mkF m 58 #[.val (.ref b), .val (.int (Int32.ofNat o)), .val (.int (Int32.ofNat len)), .val (.ref s.heap.size), .val (.int (Int32.ofNat len)), .unset] [.ref s.heap.size])) := c7.trans (by
    refine XS.istore X6.here hexec rfl (hb hbytes d12) rfl rfl ?_
    refine XS.iload X6.here hexec rfl (hb hbytes d14) rfl ?_
    refine XS.iloadN X6.here hexec rfl (hb hbytes d16) rfl ?_
    refine XS.icmpYes X6.here hexec rfl (pc0 := 17) rfl (hb hbytes d17) rfl (ii_eq_t rfl) (by decide) rfl ?_
    refine XS.aloadN X6.here hexec rfl (hb hbytes d57) rfl rfl ?_
    exact Steps.refl _)
  have X8 := X6.wide (L' := []) (cells' := 1) (slots' := len) (fun x hx hlt => by
    simp only [List.nil_append, copyLocs, List.mem_map, List.mem_range] at hx
    obtain ⟨i, -, rfl⟩ := hx
    exact absurd hlt (Nat.lt_irrefl _)) (Nat.le_refl _) (by omega)
  exact ⟨T6, some (.ref s.heap.size), _, _, _, X8, rfl, rfl, rfl, (fun h => by cases h), ⟨⟨rfl, B6, ba3.like (X3.warmed.alike.symm.trans X6.warmed.alike) p6.1 f6.1 f6.2.1 f6.2.2.1, f6.2.1.trans bv3, by rw [X6.warmed.alike.findClass, f6.1]; exact bf3, by rw [f6.2.2.1, bs3]; simp, fun j hj => by rw [f6.2.2.2 j, if_pos (by omega)]; rfl, kp3.put p6 (Nat.le_refl _)⟩, by rw [p6.2.2, bh3, hh0]; simp⟩, fun fs hl => c8.trans (X8.areturnOut hexec rfl hret rfl (hb hbytes d58) hl)⟩
end Cmp3
namespace CodL
def yN : MethodName := ⟨"java/lang/StringUTF16", "coderFromArrayLen", "([BI)B"⟩
abbrev yB : ByteArray := jdk_52_method_15_code
theorem d0 : decode yB 0 = .ok (.iload_n 1, 1) := by decide +kernel
theorem d1 : decode yB 1 = .ok (.aload_n 0, 1) := by decide +kernel
theorem d2 : decode yB 2 = .ok (.arraylength, 1) := by decide +kernel
theorem d3 : decode yB 3 = .ok (.isub, 1) := by decide +kernel
theorem d4 : decode yB 4 = .ok (.bipush 31, 2) := by decide +kernel
theorem d6 : decode yB 6 = .ok (.iushr, 1) := by decide +kernel
theorem d7 : decode yB 7 = .ok (.i2b, 1) := by decide +kernel
theorem d8 : decode yB 8 = .ok (.ireturn, 1) := by decide +kernel
def site : List Cond := []
def tab : Cond := tabOf yN yB 2 (some .byte) site
def P (d : Addr) (B : Cell) (args : Array Value) (s : State) : Prop := args = #[.ref d, .int (Int32.ofNat B.slots.size)] ∧ Arr .byte d B s
def E (r : Option Value) (s u : State) : Prop := XT.PureE (some (.int 0)) r s u
/-- an array as long as the number of chars: LATIN1 -/
theorem law (l : Launch) (d : Addr) (B : Cell) : Law l yN 2 2 0 0 yB 2 (some .byte) site (P d B) E [] 0 0 := by
  refine Law.of_walk (plainFor_of_name (by decide +kernel)) (by decide +kernel) (by decide +kernel) (by decide) (fun _ _ h => by rw [h.1]; rfl) (fun _ U U' hal hh h => ⟨h.1, h.2.mv hal hh⟩) (fun r U U' V V' h1 hal h2 h => XT.PureE.mv r U U' V V' h1 hal h2 h) ?_
  intro p e s m args below meth c s₁ X0 hexec hbytes hml hret hlk hnm hown hh0 W hP
  obtain ⟨rfl, hB⟩ := hP
  have hB0 := hB.mv X0.warmed.alike hh0
  have c1 : Steps p.tables e below (s₁.setTop (entryFrame m #[.ref d, .int (Int32.ofNat B.slots.size)] 2)) (s₁.setTop (mkF m 0 #[.val (.ref d), .val (.int (Int32.ofNat B.slots.size))] [])) := entry rfl
  have c2 : Steps p.tables e below (s₁.setTop (entryFrame m #[.ref d, .int (Int32.ofNat B.slots.size)] 2)) (s₁.setTop (mkF m 2 #[.val (.ref d), .val (.int (Int32.ofNat B.slots.size))] [.ref d, .int (Int32.ofNat B.slots.size)])) := c1.trans (by
    refine XS.iloadN X0.here hexec rfl (hb hbytes d0) rfl ?_
    refine XS.aloadN X0.here hexec rfl (hb hbytes d1) rfl rfl ?_
    exact Steps.refl _)
  have c3 : Steps p.tables e below (s₁.setTop (entryFrame m #[.ref d, .int (Int32.ofNat B.slots.size)] 2)) (s₁.setTop (mkF m 8 #[.val (.ref d), .val (.int (Int32.ofNat B.slots.size))] [.int (lo8 (ushr (Int32.ofNat B.slots.size - Int32.ofNat B.slots.size) 31))])) := c2.trans (by
    refine X0.alen hexec hB0 rfl rfl (hb hbytes d2) ?_
    refine XS.isub X0.here hexec rfl (hb hbytes d3) rfl ?_
    refine bipushV X0.here hexec rfl 31 (hb hbytes d4) (by decide) ?_
    refine iushr X0.here hexec rfl (hb hbytes d6) rfl ?_
    refine i2b X0.here hexec rfl (hb hbytes d7) rfl ?_
    exact Steps.refl _)
  have e0 : lo8 (ushr (Int32.ofNat B.slots.size - Int32.ofNat B.slots.size) 31) = 0 := by rw [Int32.sub_self]; decide
  rw [e0] at c3
  exact ⟨s₁, some (.int 0), _, _, _, X0, rfl, rfl, rfl, (fun h => by cases h), ⟨rfl, hh0⟩, fun fs hl => c3.trans (X0.ireturnOut hexec hret rfl (Or.inr (Or.inr (Or.inl rfl))) (hb hbytes d8) hl)⟩
end CodL
/-- the String at a is Latin-1 over a new byte[] (the heap's one new cell): the low bytes of the len chars of A from o on; every cell but a is kept -/
def Got (a : Addr) (D : Cell) (fV fC : Field) (A : Cell) (o len : Nat) (r : Option Value) (s u : State) : Prop := r = none ∧ ∃ D' V : Cell, Blank "java/lang/String" a D' u ∧ Same D D' [fV.slot, fC.slot] ∧ D'.slots[fV.slot]? = some (.ref s.heap.size) ∧ D'.slots[fC.slot]? = some (.int 0) ∧ Arr .byte s.heap.size V u ∧ V.vm = .none ∧ u.vm.findClass "[B" = some V.cls ∧ V.slots.size = len ∧ (∀ j, j < len → V.slots[j]? = some (.int (lo8 (cv A (o + j))))) ∧ (∀ (y : Addr) (c : Cell), y ≠ a → s.heap[y]? = some c → u.heap[y]? = some c) ∧ u.heap.size = s.heap.size + 1
theorem Got.mv {a : Addr} {D A : Cell} {fV fC : Field} {o len : Nat} : ∀ r (U U' V V' : State), U'.heap = U.heap → V.vm.Alike V'.vm → V'.heap = V.heap → Got a D fV fC A o len r U V → Got a D fV fC A o len r U' V' :=
  fun r U U' V V' h1 hal h2 ⟨e0, D', X, a1, a2, a3, a4, a5, a6, a7, a8, a9, a10, a11⟩ => ⟨e0, D', X, a1.mv hal h2, a2, by rw [h1]; exact a3, a4, by rw [h1]; exact a5.mv hal h2, a6, by rw [hal.findClass]; exact a7, a8, a9, by rw [h1, h2]; exact a10, by rw [h1, h2]; exact a11⟩
namespace New4
def yN : MethodName := ⟨"java/lang/String", "<init>", "([CIILjava/lang/Void;)V"⟩
abbrev yB : ByteArray := jdk_42_method_149_code
theorem d0 : decode yB 0 = .ok (.aload_n 0, 1) := by decide +kernel
theorem d1 : decode yB 1 = .ok (.invokespecial 1, 3) := by decide +kernel
theorem d4 : decode yB 4 = .ok (.iload_n 3, 1) := by decide +kernel
theorem d5 : decode yB 5 = .ok (.ifCond (.ne) 22, 3) := by decide +kernel
theorem d27 : decode yB 27 = .ok (.getstatic 38, 3) := by decide +kernel
theorem d30 : decode yB 30 = .ok (.ifCond (.eq) 28, 3) := by decide +kernel
theorem d33 : decode yB 33 = .ok (.aload_n 1, 1) := by decide +kernel
theorem d34 : decode yB 34 = .ok (.iload_n 2, 1) := by decide +kernel
theorem d35 : decode yB 35 = .ok (.iload_n 3, 1) := by decide +kernel
theorem d36 : decode yB 36 = .ok (.invokestatic 177, 3) := by decide +kernel
theorem d39 : decode yB 39 = .ok (.astore 5, 2) := by decide +kernel
theorem d41 : decode yB 41 = .ok (.aload_n 0, 1) := by decide +kernel
theorem d42 : decode yB 42 = .ok (.aload 5, 2) := by decide +kernel
theorem d44 : decode yB 44 = .ok (.iload_n 3, 1) := by decide +kernel
theorem d45 : decode yB 45 = .ok (.invokestatic 47, 3) := by decide +kernel
theorem d48 : decode yB 48 = .ok (.putfield 15, 3) := by decide +kernel
theorem d51 : decode yB 51 = .ok (.aload_n 0, 1) := by decide +kernel
theorem d52 : decode yB 52 = .ok (.aload 5, 2) := by decide +kernel
theorem d54 : decode yB 54 = .ok (.putfield 9, 3) := by decide +kernel
theorem d57 : decode yB 57 = .ok (.return_, 1) := by decide +kernel
def site : List Cond := [.fieldLink "java/lang/String" 38 "java/lang/String" "COMPACT_STRINGS" "Z", Cmp3.tab, CodL.tab, .laysFinal "java/lang/String" "java/lang/String" "value" "[B", .fieldLink "java/lang/String" 9 "java/lang/String" "value" "[B", .laysFinal "java/lang/String" "java/lang/String" "coder" "B", .fieldLink "java/lang/String" 15 "java/lang/String" "coder" "B"] ++ objW "java/lang/String" 1 ++ staticW "java/lang/String" 177 Cmp3.yN ++ staticW "java/lang/String" 47 CodL.yN
def tab : Cond := tabOf yN yB 6 none site
def P (a : Addr) (D : Cell) (fV fC : Field) (b : Addr) (A : Cell) (z : Int32) (o len : Nat) (args : Array Value) (s : State) : Prop := args = #[.ref a, .ref b, .int (Int32.ofNat o), .int (Int32.ofNat len), .null] ∧ Blank "java/lang/String" a D s ∧ Found "java/lang/String" "value" "[B" fV s ∧ Found "java/lang/String" "coder" "B" fC s ∧ Ch b A s ∧ StaticIs s "java/lang/String" "COMPACT_STRINGS" "Z" (.int z) ∧ ¬ z = 0 ∧ 0 < len ∧ o + len ≤ A.slots.size ∧ len ≤ 536870912 ∧ ∀ i, i < len → ¬ 255 < cv A (o + i)
def E (a : Addr) (D : Cell) (fV fC : Field) (A : Cell) (o len : Nat) (r : Option Value) (s u : State) : Prop := Got a D fV fC A o len r s u
/-- len > 0, no char of the range above 255: a Latin-1 String of their low bytes -/
theorem law (l : Launch) (a : Addr) (D : Cell) (fV fC : Field) (b : Addr) (A : Cell) (z : Int32) (o len : Nat) : Law l yN 5 4 2 35 yB 6 none site (P a D fV fC b A z o len) (E a D fV fC A o len) [⟨a, fC.slot⟩, ⟨a, fV.slot⟩] 1 len := by
  refine Law.of_walk (plainFor_of_name (by decide +kernel)) (by decide +kernel) (by decide +kernel) (by decide) (fun _ _ h => by rw [h.1]; rfl) (fun _ U U' hal hh h => ⟨h.1, h.2.1.mv hal hh, h.2.2.1.al hal, h.2.2.2.1.al hal, h.2.2.2.2.1.mv hal hh, h.2.2.2.2.2.1.there hal hh, h.2.2.2.2.2.2⟩) (fun r U U' V V' h1 hal h2 h => Got.mv r U U' V V' h1 hal h2 h) ?_
  intro p e s m args below meth c s₁ X0 hexec hbytes hml hret hlk hnm hown hh0 W hP
  obtain ⟨rfl, hB, f1, f2, hA, s1, hz, l0, l1, l2, hp⟩ := hP
  have a31 := hA.1.2.2.2
  have c1 : Steps p.tables e below (s₁.setTop (entryFrame m #[.ref a, .ref b, .int (Int32.ofNat o), .int (Int32.ofNat len), .null] 6)) (s₁.setTop (mkF m 0 #[.val (.ref a), .val (.ref b), .val (.int (Int32.ofNat o)), .val (.int (Int32.ofNat len)), .val .null, .unset] [])) := entry rfl
  have c2 : Steps p.tables e below (s₁.setTop (entryFrame m #[.ref a, .ref b, .int (Int32.ofNat o), .int (Int32.ofNat len), .null] 6)) (s₁.setTop (mkF m 1 #[.val (.ref a), .val (.ref b), .val (.int (Int32.ofNat o)), .val (.int (Int32.ofNat len)), .val .null, .unset] [.ref a])) := c1.trans (by
    refine XS.aloadN X0.here hexec rfl (hb hbytes d0) rfl rfl ?_
    exact Steps.refl _)
  obtain ⟨T3, X3, q3, st3⟩ := X0.oinit hexec hown (wks W (objW "java/lang/String" 1)) (g := (mkF m 1 #[.val (.ref a), .val (.ref b), .val (.int (Int32.ofNat o)), .val (.int (Int32.ofNat len)), .val .null, .unset] [.ref a])) rfl (by rw [hml]; rfl) (rest := []) rfl (hb hbytes d1) (W := 0) (by show 2 * 0 + 0 ≤ _; decide) (Nat.le_of_ble_eq_true rfl) (Nat.le_of_ble_eq_true rfl)
  have hh3 := q3.trans hh0
  have c4 : Steps p.tables e below (s₁.setTop (entryFrame m #[.ref a, .ref b, .int (Int32.ofNat o), .int (Int32.ofNat len), .null] 6)) (T3.setTop (mkF m 27 #[.val (.ref a), .val (.ref b), .val (.int (Int32.ofNat o)), .val (.int (Int32.ofNat len)), .val .null, .unset] [])) := (c2.trans (st3 _ (Steps.refl _))).trans (by
    refine XS.iloadN X3.here hexec rfl (hb hbytes d4) rfl ?_
    refine XS.ifYes X3.here hexec rfl (pc0 := 5) rfl (hb hbytes d5) rfl (i0_ne_t (nz32 (by omega) l0)) (by decide) rfl ?_
    exact Steps.refl _)
  obtain ⟨T5, X5, q5, st5⟩ := X3.sget hexec hown (wk W (.fieldLink "java/lang/String" 38 "java/lang/String" "COMPACT_STRINGS" "Z")) s1 (fun _ _ h => by rw [hh3]; exact h) (g := (mkF m 27 #[.val (.ref a), .val (.ref b), .val (.int (Int32.ofNat o)), .val (.int (Int32.ofNat len)), .val .null, .unset] [])) rfl (hb hbytes d27)
  have hh5 := q5.trans hh3
  have c6 : Steps p.tables e below (s₁.setTop (entryFrame m #[.ref a, .ref b, .int (Int32.ofNat o), .int (Int32.ofNat len), .null] 6)) (T5.setTop (mkF m 30 #[.val (.ref a), .val (.ref b), .val (.int (Int32.ofNat o)), .val (.int (Int32.ofNat len)), .val .null, .unset] [.int z])) := c4.trans (st5 _ (Steps.refl _))
  have c7 : Steps p.tables e below (s₁.setTop (entryFrame m #[.ref a, .ref b, .int (Int32.ofNat o), .int (Int32.ofNat len), .null] 6)) (T5.setTop (mkF m 36 #[.val (.ref a), .val (.ref b), .val (.int (Int32.ofNat o)), .val (.int (Int32.ofNat len)), .val .null, .unset] [.int (Int32.ofNat len), .int (Int32.ofNat o), .ref b])) := c6.trans (by
    refine XS.ifNo X5.here hexec rfl (hb hbytes d30) rfl (i0_eq_f hz) ?_
    refine XS.aloadN X5.here hexec rfl (hb hbytes d33) rfl rfl ?_
    refine XS.iloadN X5.here hexec rfl (hb hbytes d34) rfl ?_
    refine XS.iloadN X5.here hexec rfl (hb hbytes d35) rfl ?_
    exact Steps.refl _)
  obtain ⟨v8, T8, X8, E8, g8⟩ := X5.callS hexec (Cmp3.law l b A o len) hown (wks W (staticW "java/lang/String" 177 Cmp3.yN)) (wk W Cmp3.tab) (W := 0) (Nat.le_of_ble_eq_true rfl) (Nat.le_of_ble_eq_true rfl) (Nat.le_refl _) (by show 0 + len ≤ len; omega) (g := (mkF m 36 #[.val (.ref a), .val (.ref b), .val (.int (Int32.ofNat o)), .val (.int (Int32.ofNat len)), .val .null, .unset] [.int (Int32.ofNat len), .int (Int32.ofNat o), .ref b])) rfl (by rw [hml]; rfl) c7 (argsL := [.ref b, .int (Int32.ofNat o), .int (Int32.ofNat len)]) (rest := []) rfl rfl (by show 2 * 0 + 0 ≤ _; decide) (hb hbytes d36) (⟨rfl, hA.mv X5.warmed.alike hh5, l1, l2, hp⟩)
  obtain ⟨e8, z8⟩ := E8
  obtain ⟨rfl, N, n1, n2, n3, n4, n5, n6⟩ := NewArr.mv _ T5 s _ _ hh5.symm (Vm.Alike.refl _) rfl e8
  rw [hh5] at z8
  have hB1 := hB.keep X8.warmed.alike (n6 _ _ hB.1)
  have hne : s.heap.size ≠ a := (Nat.ne_of_lt (Array.getElem?_eq_some_iff.mp hB.1).1).symm
  have c9 : Steps p.tables e below (s₁.setTop (entryFrame m #[.ref a, .ref b, .int (Int32.ofNat o), .int (Int32.ofNat len), .null] 6)) (T8.setTop (mkF m 39 #[.val (.ref a), .val (.ref b), .val (.int (Int32.ofNat o)), .val (.int (Int32.ofNat len)), .val .null, .unset] [.ref s.heap.size])) := g8
  have c10 : Steps p.tables e below (s₁.setTop (entryFrame m #[.ref a, .ref b, .int (Int32.ofNat o), .int (Int32.ofNat len), .null] 6)) (T8.setTop (mkF m 45 #[.val (.ref a), .val (.ref b), .val (.int (Int32.ofNat o)), .val (.int (Int32.ofNat len)), .val .null, .val (.ref s.heap.size)] [.int (Int32.ofNat N.slots.size), .ref s.heap.size, .ref a])) := by
    have hc : Steps p.tables e below (s₁.setTop (entryFrame m #[.ref a, .ref b, .int (Int32.ofNat o), .int (Int32.ofNat len), .null] 6)) (T8.setTop (mkF m 45 #[.val (.ref a), .val (.ref b), .val (.int (Int32.ofNat o)), .val (.int (Int32.ofNat len)), .val .null, .val (.ref s.heap.size)] [.int (Int32.ofNat len), .ref s.heap.size, .ref a])) := c9.trans (by
      refine XS.astore X8.here hexec rfl (hb hbytes d39) rfl rfl rfl ?_
      refine XS.aloadN X8.here hexec rfl (hb hbytes d41) rfl rfl ?_
      refine XS.aload X8.here hexec rfl (hb hbytes d42) rfl rfl ?_
      refine XS.iloadN X8.here hexec rfl (hb hbytes d44) rfl ?_
      exact Steps.refl _)
    rw [n4]; exact hc
  obtain ⟨v11, T11, X11, E11, g11⟩ := X8.callS hexec (CodL.law l s.heap.size N) hown (wks W (staticW "java/lang/String" 47 CodL.yN)) (wk W CodL.tab) (W := 1) (Nat.le_of_ble_eq_true rfl) (Nat.le_of_ble_eq_true rfl) (Nat.le_refl _) (by show 0 + len + 0 ≤ len; omega) (g := (mkF m 45 #[.val (.ref a), .val (.ref b), .val (.int (Int32.ofNat o)), .val (.int (Int32.ofNat len)), .val .null, .val (.ref s.heap.size)] [.int (Int32.ofNat N.slots.size), .ref s.heap.size, .ref a])) rfl (by rw [hml]; rfl) c10 (argsL := [.ref s.heap.size, .int (Int32.ofNat N.slots.size)]) (rest := [.ref a]) rfl rfl (by show 2 * 0 + (1 + 0) ≤ _; decide) (hb hbytes d45) (⟨rfl, n1⟩)
  obtain ⟨rfl, q11⟩ := E11
  have hB11 := hB1.mv (X8.warmed.alike.symm.trans X11.warmed.alike) q11
  have c12 : Steps p.tables e below (s₁.setTop (entryFrame m #[.ref a, .ref b, .int (Int32.ofNat o), .int (Int32.ofNat len), .null] 6)) (T11.setTop (mkF m 48 #[.val (.ref a), .val (.ref b), .val (.int (Int32.ofNat o)), .val (.int (Int32.ofNat len)), .val .null, .val (.ref s.heap.size)] [.int 0, .ref a])) := g11
  obtain ⟨T13, X13, p13, bl13, sl13, st13⟩ := X11.finit hexec hown (wk W (.fieldLink "java/lang/String" 15 "java/lang/String" "coder" "B")) (Or.inr ⟨_, (wk W (.laysFinal "java/lang/String" "java/lang/String" "coder" "B"))⟩) (Or.inl ⟨rfl, hnm⟩) f2 (Or.inl rfl) hB11 (t := .byte) (by decide +kernel) rfl (g := (mkF m 48 #[.val (.ref a), .val (.ref b), .val (.int (Int32.ofNat o)), .val (.int (Int32.ofNat len)), .val .null, .val (.ref s.heap.size)] [.int 0, .ref a])) rfl (rest := []) rfl (hb hbytes d48)
  have c14 : Steps p.tables e below (s₁.setTop (entryFrame m #[.ref a, .ref b, .int (Int32.ofNat o), .int (Int32.ofNat len), .null] 6)) (T13.setTop (mkF m 54 #[.val (.ref a), .val (.ref b), .val (.int (Int32.ofNat o)), .val (.int (Int32.ofNat len)), .val .null, .val (.ref s.heap.size)] [.ref s.heap.size, .ref a])) := (c12.trans (st13 _ (Steps.refl _))).trans (by
    refine XS.aloadN X13.here hexec rfl (hb hbytes d51) rfl rfl ?_
    refine XS.aload X13.here hexec rfl (hb hbytes d52) rfl rfl ?_
    exact Steps.refl _)
  obtain ⟨T15, X15, p15, bl15, sl15, st15⟩ := X13.finit hexec hown (wk W (.fieldLink "java/lang/String" 9 "java/lang/String" "value" "[B")) (Or.inr ⟨_, (wk W (.laysFinal "java/lang/String" "java/lang/String" "value" "[B"))⟩) (Or.inl ⟨rfl, hnm⟩) f1 (Or.inl rfl) bl13 (t := (.array .byte)) (by decide +kernel) rfl (g := (mkF m 54 #[.val (.ref a), .val (.ref b), .val (.int (Int32.ofNat o)), .val (.int (Int32.ofNat len)), .val .null, .val (.ref s.heap.size)] [.ref s.heap.size, .ref a])) rfl (rest := []) rfl (hb hbytes d54)
  have c16 : Steps p.tables e below (s₁.setTop (entryFrame m #[.ref a, .ref b, .int (Int32.ofNat o), .int (Int32.ofNat len), .null] 6)) (T15.setTop (mkF m 57 #[.val (.ref a), .val (.ref b), .val (.int (Int32.ofNat o)), .val (.int (Int32.ofNat len)), .val .null, .val (.ref s.heap.size)] [])) := c14.trans (st15 _ (Steps.refl _))
  have ap := apart (Or.inr ⟨_, (wk W (.laysFinal "java/lang/String" "java/lang/String" "value" "[B"))⟩) (Or.inr ⟨_, (wk W (.laysFinal "java/lang/String" "java/lang/String" "coder" "B"))⟩) f1 f2 (t₁ := .array .byte) (t₂ := .byte) (by decide +kernel) (by decide +kernel) (by decide)
  have al := X8.warmed.alike.symm.trans X15.warmed.alike
  have n7 : T11.heap[s.heap.size]? = some N := by rw [q11]; exact n1.1
  exact ⟨T15, none, _, _, _, X15, by simp, rfl, by omega, (fun _ => rfl), ⟨rfl, _, N, bl15, ((Same.refl D _).set _ (by simp)).set _ (by simp), sl15, (Cell.slots_setSlot_ne _ ap).trans sl13, n1.keep al (p15.other hne (p13.other hne n7)), n2, by rw [al.findClass]; exact n3, n4, n5, fun y c h1 h2 => p15.other h1 (p13.other h1 (by rw [q11]; exact n6 y c h2)), by rw [p15.2.2, p13.2.2, q11]; exact z8⟩, fun fs hl => c16.trans (X15.returnOut hexec hret (hb hbytes d57) hl)⟩
end New4
namespace New1
def yN : MethodName := ⟨"java/lang/String", "<init>", "([C)V"⟩
abbrev yB : ByteArray := jdk_42_method_3_code
theorem d0 : decode yB 0 = .ok (.aload_n 0, 1) := by decide +kernel
theorem d1 : decode yB 1 = .ok (.aload_n 1, 1) := by decide +kernel
theorem d2 : decode yB 2 = .ok (.iconst 0, 1) := by decide +kernel
theorem d3 : decode yB 3 = .ok (.aload_n 1, 1) := by decide +kernel
theorem d4 : decode yB 4 = .ok (.arraylength, 1) := by decide +kernel
theorem d5 : decode yB 5 = .ok (.aconst_null, 1) := by decide +kernel
theorem d6 : decode yB 6 = .ok (.invokespecial 27, 3) := by decide +kernel
theorem d9 : decode yB 9 = .ok (.return_, 1) := by decide +kernel
def site : List Cond := [New4.tab] ++ initW "java/lang/String" 27 New4.yN
def tab : Cond := tabOf yN yB 2 none site
def P (a : Addr) (D : Cell) (fV fC : Field) (b : Addr) (A : Cell) (z : Int32) (args : Array Value) (s : State) : Prop := args = #[.ref a, .ref b] ∧ Blank "java/lang/String" a D s ∧ Found "java/lang/String" "value" "[B" fV s ∧ Found "java/lang/String" "coder" "B" fC s ∧ Ch b A s ∧ StaticIs s "java/lang/String" "COMPACT_STRINGS" "Z" (.int z) ∧ ¬ z = 0 ∧ 0 < A.slots.size ∧ A.slots.size ≤ 536870912 ∧ ∀ i, i < A.slots.size → ¬ 255 < cv A i
def E (a : Addr) (D : Cell) (fV fC : Field) (A : Cell) (r : Option Value) (s u : State) : Prop := Got a D fV fC A 0 A.slots.size r s u
/-- new String(chars), not empty, no char above 255: a Latin-1 String of their low bytes -/
theorem law (l : Launch) (a : Addr) (D : Cell) (fV fC : Field) (b : Addr) (A : Cell) (z : Int32) : Law l yN 2 1 3 52 yB 2 none site (P a D fV fC b A z) (E a D fV fC A) [⟨a, fC.slot⟩, ⟨a, fV.slot⟩] 1 A.slots.size := by
  refine Law.of_walk (plainFor_of_name (by decide +kernel)) (by decide +kernel) (by decide +kernel) (by decide) (fun _ _ h => by rw [h.1]; rfl) (fun _ U U' hal hh h => ⟨h.1, h.2.1.mv hal hh, h.2.2.1.al hal, h.2.2.2.1.al hal, h.2.2.2.2.1.mv hal hh, h.2.2.2.2.2.1.there hal hh, h.2.2.2.2.2.2⟩) (fun r U U' V V' h1 hal h2 h => Got.mv r U U' V V' h1 hal h2 h) ?_
  intro p e s m args below meth c s₁ X0 hexec hbytes hml hret hlk hnm hown hh0 W hP
  obtain ⟨rfl, hB, f1, f2, hA, s1, hz, l0, l2, hp⟩ := hP
  have c1 : Steps p.tables e below (s₁.setTop (entryFrame m #[.ref a, .ref b] 2)) (s₁.setTop (mkF m 0 #[.val (.ref a), .val (.ref b)] [])) := entry rfl
  have c2 : Steps p.tables e below (s₁.setTop (entryFrame m #[.ref a, .ref b] 2)) (s₁.setTop (mkF m 6 #[.val (.ref a), .val (.ref b)] [.null, .int (Int32.ofNat A.slots.size), .int 0, .ref b, .ref a])) := c1.trans (by
    refine XS.aloadN X0.here hexec rfl (hb hbytes d0) rfl rfl ?_
    refine XS.aloadN X0.here hexec rfl (hb hbytes d1) rfl rfl ?_
    refine iconstV X0.here hexec rfl 0 (hb hbytes d2) (by decide) ?_
    refine XS.aloadN X0.here hexec rfl (hb hbytes d3) rfl rfl ?_
    refine X0.alen hexec (hA.1.mv X0.warmed.alike hh0) rfl rfl (hb hbytes d4) ?_
    refine XS.aconstNull X0.here hexec rfl (hb hbytes d5) ?_
    exact Steps.refl _)
  obtain ⟨v3, T3, X3, E3, g3⟩ := X0.callN hexec (New4.law l a D fV fC b A z 0 A.slots.size) rfl hown (wks W (initW "java/lang/String" 27 New4.yN)) (W New4.tab (by simp only [site, List.mem_cons, List.mem_append, true_or, or_true])) (W := 0) (Nat.le_of_ble_eq_true rfl) (Nat.le_of_ble_eq_true rfl) (Nat.le_refl _) (by show 0 + A.slots.size ≤ A.slots.size; omega) (g := (mkF m 6 #[.val (.ref a), .val (.ref b)] [.null, .int (Int32.ofNat A.slots.size), .int (Int32.ofNat 0), .ref b, .ref a])) rfl (by rw [hml]; rfl) c2 (argsL := [.ref b, .int (Int32.ofNat 0), .int (Int32.ofNat A.slots.size), .null]) (rest := []) rfl rfl (by show 2 * 0 + 0 ≤ _; decide) (hb hbytes d6) (⟨rfl, hB.mv X0.warmed.alike hh0, f1.al X0.warmed.alike, f2.al X0.warmed.alike, hA.mv X0.warmed.alike hh0, s1.there X0.warmed.alike hh0, hz, l0, by omega, l2, fun i hi => by rw [Nat.zero_add]; exact hp i hi⟩)
  have e0 := Got.mv _ s₁ s _ _ hh0.symm (Vm.Alike.refl _) rfl E3
  obtain rfl := e0.1
  have c4 : Steps p.tables e below (s₁.setTop (entryFrame m #[.ref a, .ref b] 2)) (T3.setTop (mkF m 9 #[.val (.ref a), .val (.ref b)] [])) := g3
  exact ⟨T3, none, _, _, _, X3, by simp, rfl, by omega, (fun _ => rfl), e0, fun fs hl => c4.trans (X3.returnOut hexec hret (hb hbytes d9) hl)⟩
theorem pays {l : Launch} {R : Room} {p : Program} {e : Env} {below : List Frame} {s : State} {sargs : Array Value} {len W : Nat} (a : Addr) (D : Cell) (fV fC : Field) (b : Addr) (A : Cell) (z : Int32) (htab : tab.before sargs s = true) (hfr : 4 ≤ R.frames) (hlo : W + 65 ≤ R.locals) :
    Back l R p e below s sargs yN len W (fun A₁ a₁ => A₁.cells + 1 ≤ R.cells ∧ A₁.slots + A.slots.size ≤ R.slots ∧ P a D fV fC b A z a₁ A₁.U) (fun A₁ _ v₁ B₁ => E a D fV fC A v₁ A₁.U B₁.U ∧ B₁.locs = A₁.locs ++ [⟨a, fC.slot⟩, ⟨a, fV.slot⟩] ∧ B₁.cells = A₁.cells + 1 ∧ B₁.slots = A₁.slots + A.slots.size) :=
  (law l a D fV fC b A z).pays htab hfr (by omega)
end New1
end StrChars
namespace StrChars.Road
open Jvm Sem ClassFile Op Lib Jvm.Stand Jvm.Free Jvm.Free.XT
open Jvm.Lib.Cold (StaticIs)
abbrev ST : String := "java/lang/String"
/-- every table word that New1's law asks, flat -/
abbrev words : List Jvm.Cond := [.code New1.yN New1.yB 2 none, .initialized ST, .methodLink ST 27 New4.yN, .instanceMethod New4.yN,
  .code New4.yN New4.yB 6 none, .fieldLink ST 38 ST "COMPACT_STRINGS" "Z", .laysFinal ST ST "value" "[B", .fieldLink ST 9 ST "value" "[B", .laysFinal ST ST "coder" "B", .fieldLink ST 15 ST "coder" "B",
  .methodLink ST 1 Lib.objectInit, .instanceMethod Lib.objectInit, .code Lib.objectInit ⟨#[0xb1]⟩ 1 none, .methodLink ST 177 Cmp3.yN, .static Cmp3.yN, .methodLink ST 47 CodL.yN, .static CodL.yN,
  .code Cmp3.yN Cmp3.yB 6 (some (.array .byte)), .initialized U16, .arrayClass .byte, .methodLink U16 115 Cmp5.yN, .static Cmp5.yN, .code Cmp5.yN Cmp5.yB 7 (some .int), .code CodL.yN CodL.yB 2 (some .byte)]
theorem tab_of {a : Array Value} {s : State} (h : ∀ w ∈ words, w.before a s = true) : New1.tab.before a s = true := by
  have h5 : Cmp5.tab.before a s = true := unparts (wk h (.code Cmp5.yN Cmp5.yB 7 (some .int))) (wks h (.initialized Cmp5.yN.cls :: Cmp5.site))
  have hc : CodL.tab.before a s = true := unparts (wk h (.code CodL.yN CodL.yB 2 (some .byte))) (wks h (.initialized CodL.yN.cls :: CodL.site))
  have q5 : ∀ w ∈ Cmp5.tab :: words, w.before a s = true := fun w hw => (List.mem_cons.mp hw).elim (fun e => e ▸ h5) (h w)
  have h3 : Cmp3.tab.before a s = true := unparts (wk q5 (.code Cmp3.yN Cmp3.yB 6 (some (.array .byte)))) (wks q5 (.initialized Cmp3.yN.cls :: Cmp3.site))
  have q3 : ∀ w ∈ Cmp3.tab :: CodL.tab :: words, w.before a s = true := fun w hw => (List.mem_cons.mp hw).elim (fun e => e ▸ h3) fun hw => (List.mem_cons.mp hw).elim (fun e => e ▸ hc) (h w)
  have h4 : New4.tab.before a s = true := unparts (wk q3 (.code New4.yN New4.yB 6 none)) (wks q3 (.initialized New4.yN.cls :: New4.site))
  have q4 : ∀ w ∈ New4.tab :: words, w.before a s = true := fun w hw => (List.mem_cons.mp hw).elim (fun e => e ▸ h4) (h w)
  exact unparts (wk q4 (.code New1.yN New1.yB 2 none)) (wks q4 (.initialized New1.yN.cls :: New1.site))
/-- the words ride from the start Z to the walk's own state -/
theorem moved {Z s : State} {a0 args : Array Value} (hZ : Z.Warmed39 s.vm) (hw : ∀ d ∈ words, d.before a0 Z = true) : ∀ d ∈ words, d.before args s = true := fun d hd => by
  have q := hw d hd
  have t : ∀ d ∈ words, d = .arrayClass .byte ∨ (d.onTables && d.keepsFace) = true := by decide +kernel
  rcases t d hd with rfl | t
  · exact RoadKit.mvA hZ q
  · exact RoadKit.mv hZ q t
/-- WHAT COMES BACK, over the tables of the start Z: h the heap at the call, h' behind it -/
def Q (Z : State) (x : Addr) (A : Cell) (h : Heap) (v : Option Value) (h' : Heap) (L : List Loc) : Prop := v = none ∧ (∀ y ∈ L, y.base = x) ∧ RoadKit.Keep h h' [x] ∧ h'.size = h.size + 1 ∧ RoadKit.Exa Z h' x ST ∧ RoadKit.Fld Z h' x ST "value" "[B" (.ref h.size) ∧ RoadKit.Fld Z h' x ST "coder" "B" (.int 0) ∧
  (∃ V : Cell, RoadKit.Arr Z h' h.size V .byte ∧ V.vm = .none ∧ Z.vm.findClass "[B" = some V.cls ∧ V.slots.size = A.slots.size ∧ ∀ j, j < A.slots.size → V.slots[j]? = some (.int (lo8 (cv A j)))) ∧
  ∀ (O n d : String) (w : Value), RoadKit.Fld Z h x O n d w → RoadKit.slotOf Z O n d ≠ RoadKit.slotOf Z ST "value" "[B" → RoadKit.slotOf Z O n d ≠ RoadKit.slotOf Z ST "coder" "B" → RoadKit.Fld Z h' x O n d w
/-- **new String(chars) AT A CALL, IN THE ROAD'S FORM**: for specialBack behind newO: x the fresh String, b the char[] with the cell A -/
theorem back {p : Program} {l : Launch} {e : Env} {R : Room} {s : State} {args : Array Value} {below : List Frame} {len W : Nat} {Z : State} {a0 : Array Value} {h : Heap} (hZ : Z.Warmed39 s.vm) (hw : ∀ d ∈ words, d.before a0 Z = true) {kI : Nat} (wi : (Jvm.Cond.instantiable ST kI).before a0 Z = true)
    {x b : Addr} {A : Cell} {z : Int32} {v0 c0 : Value} (E : RoadKit.Exa Z h x ST) (V : RoadKit.Fld Z h x ST "value" "[B" v0) (C : RoadKit.Fld Z h x ST "coder" "B" c0) (K : RoadKit.Arr Z h b A .char) (hty : Typed .char A) (S : RoadKit.Sta Z h ST "COMPACT_STRINGS" "Z" (.int z)) (hz : ¬ z = 0)
    (l0 : 0 < A.slots.size) (l2 : A.slots.size ≤ 536870912) (hp : ∀ i, i < A.slots.size → ¬ 255 < cv A i) (hfr : 4 ≤ R.frames) (hlo : W + 65 ≤ R.locals) :
    Back l R p e below s args New1.yN len W (fun P a => a = #[.ref x, .ref b] ∧ P.U.heap = h ∧ P.cells + 1 ≤ R.cells ∧ P.slots + A.slots.size ≤ R.slots)
      (fun P _ v B => ∃ L, Q Z x A h v B.U.heap L ∧ B.locs = P.locs ++ L ∧ B.cells = P.cells + 1 ∧ B.slots = P.slots + A.slots.size) := by
  intro m meth c P g ig mk a X hg hsize hdg hW hn hp'
  obtain ⟨rfl, rfl, r1, r2⟩ := hp'
  have al : Z.vm.Alike P.U.vm := hZ.alike.trans X.warmed.alike
  obtain ⟨D, cfV, kV, iV, fV, hD, gV, stV, knV, obV, asV, slV⟩ := id V
  obtain ⟨D', cfC, kC, iC, fC, hD', gC, stC, -, -, asC, slC⟩ := id C
  cases hD.symm.trans hD'
  obtain ⟨D2, kD, e1, e2, e3, e4, e5⟩ := id E
  cases hD.symm.trans e1
  obtain ⟨c2, k2, i1, i2, i3, -⟩ := Cond.instantiable_spec wi
  cases e2.symm.trans i1
  cases e3.symm.trans i2
  obtain ⟨kU, u1, u2⟩ := al.2.2 _ _ e3
  have hB : Blank ST x D P.U := ⟨hD, ⟨knV, fun q hq => by rw [hq] at obV; cases obV⟩, by rw [al.findClass]; exact e2, kU, u1, by rw [u2]; exact i3, by rw [u2]; exact e5 i3⟩
  have F1 : Found ST "value" "[B" fV P.U := ⟨SBG.found_only al ⟨cfV, kV, iV, gV⟩, stV⟩
  have F2 : Found ST "coder" "B" fC P.U := ⟨SBG.found_only al ⟨cfC, kC, iC, gC⟩, stC⟩
  have hA : Ch b A P.U := ⟨⟨K.1, State.isArrayOf_alike al K.2.1, K.2.2, by omega⟩, hty⟩
  have hS : StaticIs P.U ST "COMPACT_STRINGS" "Z" (.int z) := by
    obtain ⟨cfS, iS, kS, fS, st, cS, t1, t2, t3, t4, t5, t6, t7⟩ := S
    exact StaticIs.there (s := { Z with heap := P.U.heap }) ⟨cfS, iS, kS, fS, st, cS, t1, t2, t3, t4, t5, (fun q => by rw [q] at t6; cases t6), t7⟩ al rfl
  obtain ⟨v, B, X', ⟨⟨hv, E', V', q1, q2, q3, q4, q5, q6, q7, q8, q9, q10, q11⟩, hl, hc, hs⟩, st⟩ := New1.pays x D fV fC b A z (tab_of (moved hZ hw)) hfr hlo m meth c P g ig mk _ X hg hsize hdg hW hn ⟨r1, r2, rfl, hB, F1, F2, hA, hS, hz, l0, l2, hp⟩
  have al' : Z.vm.Alike B.U.vm := hZ.alike.trans X'.warmed.alike
  have hsz : E'.slots.size = D.slots.size := by
    obtain ⟨-, -, -, kB, w1, w2, w3⟩ := q1
    obtain ⟨kB', y1, y2⟩ := al'.2.2 _ _ e3
    rw [q2.2.1] at w1
    cases w1.symm.trans y1
    rw [w3, e5 i3, y2]
  refine ⟨v, B, X', ⟨_, ⟨hv, ?_, ⟨by omega, fun y cy hy hn' => q10 y cy (by simpa using hn') hy, fun y cy hy => ?_⟩, q11, ⟨E', _, q1.1, by rw [q2.2.1]; exact e2, by rw [q2.2.1]; exact e3, by rw [q2.1]; exact obV, fun _ => by rw [hsz]; exact e5 i3⟩,
    ⟨E', cfV, kV, iV, fV, q1.1, gV, stV, by rw [q2.1]; exact knV, by rw [q2.1]; exact obV, by rw [q2.2.1]; exact asV, q3⟩, ⟨E', cfC, kC, iC, fC, q1.1, gC, stC, by rw [q2.1]; exact knV, by rw [q2.1]; exact obV, by rw [q2.2.1]; exact asC, q4⟩,
    ⟨V', ⟨q5.1, State.isArrayOf_alike al'.symm q5.2.1, q5.2.2.1⟩, q6, by rw [← al'.findClass]; exact q7, q8, fun j hj => by have := q9 j hj; rwa [Nat.zero_add] at this⟩, fun O n d w F n1 n2 => ?_⟩, hl, hc, hs⟩, st⟩
  · intro y hy
    simp only [List.mem_cons, List.not_mem_nil, or_false] at hy
    rcases hy with rfl | rfl <;> rfl
  · by_cases q : y = x
    · subst q
      cases hD.symm.trans hy
      exact ⟨E', q1.1, q2.2.1, q2.1, hsz⟩
    · exact ⟨cy, q10 y cy q hy, rfl, rfl, rfl⟩
  · obtain ⟨D3, cf, k, i, f, g1, g2, g3, g4, g5, g6, g7⟩ := F
    cases hD.symm.trans g1
    simp only [RoadKit.slotOf, g2, gV, gC, Option.map_some, Option.getD_some] at n1 n2
    exact ⟨E', cf, k, i, f, q1.1, g2, g3, by rw [q2.1]; exact g4, by rw [q2.1]; exact g5, by rw [q2.2.1]; exact g6, by rw [q2.2.2 f.slot (by simp [n1, n2])]; exact g7⟩
end StrChars.Road
namespace StrChars.Road
open Jvm Sem ClassFile Op Lib Jvm.Stand Jvm.Free Jvm.Free.XT
/-- WHAT COMES BACK, the byte[] as a list of values -/
def QA (Z : State) (x : Addr) (zn : Int32) (cs : List Int32) (h : Heap) (v : Option Value) (h' : Heap) (L : List Loc) : Prop := v = none ∧ (∀ y ∈ L, y.base = x) ∧ RoadKit.Keep h h' [x] ∧ h'.size = h.size + 1 ∧ RoadKit.Exa Z h' x ST ∧ RoadKit.Fld Z h' x ST "value" "[B" (.ref h.size) ∧ RoadKit.Fld Z h' x ST "coder" "B" (.int 0) ∧
  (∃ kb, Z.vm.findClass "[B" = some kb ∧ RoadKit.Arv Z h' h.size kb .byte zn (cs.map fun c => .int (lo8 c)) (.int 0)) ∧
  ∀ (O n d : String) (w : Value), RoadKit.Fld Z h x O n d w → RoadKit.slotOf Z O n d ≠ RoadKit.slotOf Z ST "value" "[B" → RoadKit.slotOf Z O n d ≠ RoadKit.slotOf Z ST "coder" "B" → RoadKit.Fld Z h' x O n d w
/-- **new String(chars) AT A CALL, THE ARRAYS AS LISTS**: the char[] at b holds cs, not empty, no char above 255 -/
theorem backArv {p : Program} {l : Launch} {e : Env} {R : Room} {s : State} {args : Array Value} {below : List Frame} {len W : Nat} {Z : State} {a0 : Array Value} {h : Heap} (hZ : Z.Warmed39 s.vm) (hw : ∀ d ∈ words, d.before a0 Z = true) {kI : Nat} (wi : (Jvm.Cond.instantiable ST kI).before a0 Z = true)
    {x b : Addr} {k : ClassId} {zn z : Int32} {cs : List Int32} {dv v0 c0 : Value} (E : RoadKit.Exa Z h x ST) (V : RoadKit.Fld Z h x ST "value" "[B" v0) (C : RoadKit.Fld Z h x ST "coder" "B" c0) (K : RoadKit.Arv Z h b k .char zn (cs.map Value.int) dv) (S : RoadKit.Sta Z h ST "COMPACT_STRINGS" "Z" (.int z)) (hz : ¬ z = 0)
    (hlen : zn.toNatClampNeg = cs.length) (h0 : 0 < cs.length) (hbig : cs.length ≤ 536870912) (hall : ∀ c ∈ cs, ¬ 255 < c) (hfr : 4 ≤ R.frames) (hlo : W + 65 ≤ R.locals) :
    Back l R p e below s args New1.yN len W (fun P a => a = #[.ref x, .ref b] ∧ P.U.heap = h ∧ P.cells + 1 ≤ R.cells ∧ P.slots + cs.length ≤ R.slots)
      (fun P _ v B => ∃ L, QA Z x zn cs h v B.U.heap L ∧ B.locs = P.locs ++ L ∧ B.cells = P.cells + 1 ∧ B.slots = P.slots + cs.length) := by
  obtain ⟨A, K1, K2, K3, K4, K5, K6⟩ := K
  have e : A.slots.size = cs.length := K3.trans hlen
  have hat : ∀ (i : Nat) (hi : i < cs.length), A.slots[i]? = some (.int cs[i]) := fun i hi => by rw [K5 i (by omega)]; simp [List.getD_eq_getElem?_getD, hi]
  have hcv : ∀ (i : Nat) (hi : i < cs.length), cv A i = cs[i] := fun i hi => by unfold cv; rw [hat i hi]
  have hty : Typed .char A := fun i v hv => by
    have hi : i < A.slots.size := (Array.getElem?_eq_some_iff.mp hv).1
    have q := K5 i hi
    rw [hv] at q
    rw [Option.some.inj q]
    exact K6 i hi
  refine Back.mono (back hZ hw wi E V C K1 hty S hz (by omega) (by omega) (fun i hi => by rw [hcv i (by omega)]; exact hall _ (List.getElem_mem _)) hfr hlo) (fun P a hp => ⟨hp.1, hp.2.1, hp.2.2.1, by rw [e]; exact hp.2.2.2⟩) (fun P a v B hp hq => ?_)
  obtain ⟨L, ⟨q1, q2, q3, q4, q5, q6, q7, ⟨V', v1, v2, v3, v4, v5⟩, q9⟩, hl, hc, hs⟩ := hq
  refine ⟨L, ⟨q1, q2, q3, q4, q5, q6, q7, ⟨V'.cls, v3, V', v1, rfl, by rw [v4, e, hlen], K4, fun i hi => ?_, fun i hi => ?_⟩, q9⟩, hl, hc, by rw [hs, e]⟩
  · have hi' : i < cs.length := by omega
    rw [v5 i (by omega), hcv i hi']; simp [List.getD_eq_getElem?_getD, hi']
  · have hi' : i < cs.length := by omega
    simp only [List.getD_eq_getElem?_getD, List.getElem?_map, List.getElem?_eq_getElem hi', Option.map_some, Option.getD_some]
    exact fits_lo8 _
end StrChars.Road
namespace StrChars.Road
open Jvm Sem ClassFile Op Lib Jvm.Stand Jvm.Free Jvm.Free.XT
/-- WHAT COMES BACK, in the writer's own shape -/
def QV (Z : State) (x : Addr) (N : Int32) (bs : List Int32) (h : Heap) (n0 : Nat) (v : Option Value) (h' : Heap) (L : List Loc) : Prop := v = none ∧ RoadKit.Fr n0 L ∧ RoadKit.Keep h h' [x] ∧ RoadKit.Exa Z h' x ST ∧ RoadKit.Fld Z h' x ST "coder" "B" (.int 0) ∧
  ∃ (t : Addr) (kb : ClassId), n0 ≤ t ∧ h.size ≤ t ∧ ¬ t = x ∧ RoadKit.Fld Z h' x ST "value" "[B" (.ref t) ∧ RoadKit.Arv Z h' t kb .byte N (bs.map Value.int) (.int 0)
/-- **new String(chars) AT A CALL, FOR THE WRITER**: a char[] of n known ints, each 0 to 255 -/
theorem backV {p : Program} {l : Launch} {e : Env} {R : Room} {s : State} {args : Array Value} {below : List Frame} {len W : Nat} {Z : State} {a0 : Array Value} {h : Heap} (hZ : Z.Warmed39 s.vm) (hw : ∀ d ∈ words, d.before a0 Z = true) {kI : Nat} (wi : (Jvm.Cond.instantiable ST kI).before a0 Z = true)
    {x b : Addr} {kC : ClassId} {cs bs : List Int32} {d v0 c0 : Value} {z N : Int32} {n n0 : Nat} (hx0 : n0 ≤ x) (hh0 : n0 ≤ h.size) (E : RoadKit.Exa Z h x ST) (V : RoadKit.Fld Z h x ST "value" "[B" v0) (C : RoadKit.Fld Z h x ST "coder" "B" c0) (K : RoadKit.Arv Z h b kC .char N (cs.map Value.int) d) (S : RoadKit.Sta Z h ST "COMPACT_STRINGS" "Z" (.int z)) (hz : ¬ z = 0)
    (hn : cs.length = n) (hN : N = Int32.ofNat n) (l0 : 0 < n) (l2 : n ≤ 4000) (hp : ∀ c ∈ cs, ¬ c < 0 ∧ ¬ (255 : Int32) < c) (hb : bs = cs.map (fun c => c.toInt8.toInt32)) (hfr : 4 ≤ R.frames) (hlo : W + 65 ≤ R.locals) :
    Back l R p e below s args (⟨"java/lang/String", "<init>", "([C)V"⟩ : MethodName) len W (fun P a => a = #[.ref x, .ref b] ∧ P.U.heap = h ∧ P.cells + 1 ≤ R.cells ∧ P.slots + n ≤ R.slots)
      (fun P _ v B => ∃ L, QV Z x N bs h n0 v B.U.heap L ∧ B.locs = P.locs ++ L ∧ B.cells = P.cells + 1 ∧ B.slots = P.slots + n) := by
  subst hn hN hb
  refine Back.mono (backArv hZ hw wi E V C K S hz (n32 (by omega)) l0 (by omega) (fun c hc => (hp c hc).2) hfr hlo) (fun P a hp => hp) (fun P a v B hp hq => ?_)
  obtain ⟨L, ⟨q1, q2, q3, q4, q5, q6, q7, ⟨kb, v1, v2⟩, q9⟩, hl, hc, hs⟩ := hq
  exact ⟨L, ⟨q1, fun y hy => by rw [q2 y hy]; exact hx0, q3, q5, q7, h.size, kb, hh0, Nat.le_refl _, Nat.ne_of_gt E.lt, q6, by rw [List.map_map]; exact v2⟩, hl, hc, hs⟩
end StrChars.Road
end Jvm.Pilot.@@N@@
namespace Jvm.Pilot.@@N@@
open Jvm Jvm.ClassFile Sem Op Lib Jvm.Free Jvm.Stand Jvm.LawKit Jvm.RoadKit Bundle Jvm.Pilot.@@N@@.Jvm.D
theorem own_and255 (x : Int32) : ¬ nar .char ((x &&& (255 : Int32)).toUInt32.toUInt16.toUInt32.toInt32) < 0 ∧ ¬ (255 : Int32) < nar .char ((x &&& (255 : Int32)).toUInt32.toUInt16.toUInt32.toInt32) := by
  have t : ∀ k : Fin 256, ¬ nar .char ((Int32.ofNat k.val).toUInt32.toUInt16.toUInt32.toInt32) < 0 ∧ ¬ (255 : Int32) < nar .char ((Int32.ofNat k.val).toUInt32.toUInt16.toUInt32.toInt32) := by decide +kernel
  have h : (x &&& 255).toBitVec.toNat < 256 := by
    simp only [Int32.toBitVec_and, BitVec.toNat_and]
    exact Nat.lt_succ_of_le Nat.and_le_right
  have e : (x &&& 255) = Int32.ofNat (x &&& 255).toBitVec.toNat := by
    apply Int32.toBitVec_inj.mp
    show _ = BitVec.ofNat 32 _
    rw [BitVec.ofNat_toNat]; simp
  rw [e]
  exact t ⟨_, h⟩
theorem own_up (cs : List Int32) (h : ∀ c ∈ cs, ¬ c < 0 ∧ ¬ (255 : Int32) < c) : ∀ c ∈ cs, ¬ c < 0 ∧ ¬ (65535 : Int32) < c := fun c hc => ⟨(h c hc).1, fun q => (h c hc).2 (by rw [Int32.lt_iff_toInt_lt] at q ⊢; have e1 : (65535 : Int32).toInt = 65535 := rfl; have e2 : (255 : Int32).toInt = 255 := rfl; omega)⟩
theorem own_range (k : Int32) : ∃ j : Nat, j < 5 ∧ (k &&& 2147483647) % 5 = j.toInt32 := by
  have h1 := c_mask k 2147483647 31 (by decide) (by decide)
  have h2 := (c_irem (k &&& 2147483647) 5 5 (by decide)).1 (by omega)
  refine ⟨((k &&& 2147483647) % 5).toInt.toNat, by omega, ?_⟩
  rw [← Int32.toInt_inj, len_toInt (by omega)]
  omega
theorem d7_0 : decode prog_84_method_1_code 0 = .ok (.aload_n 0, 1) := by decide +kernel
theorem d7_1 : decode prog_84_method_1_code 1 = .ok (.invokespecial 1, 3) := by decide +kernel
theorem d7_4 : decode prog_84_method_1_code 4 = .ok (.aload_n 0, 1) := by decide +kernel
theorem d7_5 : decode prog_84_method_1_code 5 = .ok (.aload_n 1, 1) := by decide +kernel
theorem d7_6 : decode prog_84_method_1_code 6 = .ok (.putfield 7, 3) := by decide +kernel
theorem d7_9 : decode prog_84_method_1_code 9 = .ok (.aload_n 0, 1) := by decide +kernel
theorem d7_10 : decode prog_84_method_1_code 10 = .ok (.aload_n 2, 1) := by decide +kernel
theorem d7_11 : decode prog_84_method_1_code 11 = .ok (.putfield 13, 3) := by decide +kernel
theorem d7_14 : decode prog_84_method_1_code 14 = .ok (.return_, 1) := by decide +kernel
theorem pn_0 : plainName "com/example/vertumnus/vertumnus/interactions/constraints/SameTarget" = true := by first | (simp [plainName, overriddenIn]; done) | decide +kernel
theorem pd_0 : parseMethodDescriptor "()V" = some ⟨[], none⟩ := by decide +kernel
theorem ef_7 (m : MethodId) (tt : Addr) (xx : Addr) (yy : Addr) : entryFrame m #[(.ref tt), (.ref xx), (.ref yy)] 3 = mkF m 0 #[.val (.ref tt), .val (.ref xx), .val (.ref yy)] [] := by first | (simp [entryFrame, mkF, argsToLocals, Value.category]; done) | rfl
def Q7 (Z : State) (tt : Addr) (xx : Addr) (yy : Addr) (h0 : Heap) (n0 : Nat) (v : Option Value) (h : Heap) (L : List Loc) : Prop := v = none ∧ Fr n0 L ∧ Keep h0 h [tt] ∧ Exa Z h tt "com/example/vertumnus/vertumnus/interactions/constraints/SameTarget" ∧ Fld Z h tt "com/example/vertumnus/vertumnus/interactions/constraints/SameTarget" "target" "Ljava/lang/Object;" (.ref xx)
set_option maxRecDepth 65536 in
set_option maxHeartbeats 40000000 in
theorem rm7 (l : Launch) (Z : State) (a0 : Array Value) (hw : ∀ d ∈ tables_1, d.before a0 Z = true) (ws : List Jvm.Cond) (tt : Addr) (xx : Addr) (yy : Addr) (h0 : Heap) (n0 : Nat) (Z0 : n0 ≤ h0.size) (Ex : Exa Z h0 tt "com/example/vertumnus/vertumnus/interactions/constraints/SameTarget") (F1 : Fld Z h0 tt "com/example/vertumnus/vertumnus/interactions/constraints/SameTarget" "target" "Ljava/lang/Object;" .null) (F2 : Fld Z h0 tt "com/example/vertumnus/vertumnus/interactions/constraints/SameTarget" "name" "Ljava/lang/String;" .null) (gt : n0 ≤ tt) :
    MetFree l (⟨"com/example/vertumnus/vertumnus/interactions/constraints/SameTarget", "<init>", "(Ljava/lang/Object;Ljava/lang/String;)V"⟩ : MethodName) (head1 (Jvm.Cond.code (⟨"com/example/vertumnus/vertumnus/interactions/constraints/SameTarget", "<init>", "(Ljava/lang/Object;Ljava/lang/String;)V"⟩ : MethodName) prog_84_method_1_code 3 none :: ws) ({ frames := 1, cells := 0, slots := 0, locals := 12 } : Room)) (fun a U => a = #[(.ref tt), (.ref xx), (.ref yy)] ∧ Z.Warmed39 U.vm ∧ U.heap = h0) (fun _ _ _ _ _ => True) (fun _ U o U' => ∃ v L, o = .returned v ∧ Q7 Z tt xx yy h0 n0 v U'.heap L ∧ FrameEnd U o U' L ({ frames := 1, cells := 0, slots := 0, locals := 12 } : Room).cells ({ frames := 1, cells := 0, slots := 0, locals := 12 } : Room).slots) := by
  refine MetFree.of_bodySF (plainFor_of_name pn_0) hisR ?_
  intro p e s m args below meth c s₁ Bd hml0 hP hK
  obtain ⟨rfl, hZ, hh⟩ := hP
  have hx := Bd.exec
  have hby := Bd.bytes
  have hml : c.maxLocals = 3 := hml0
  have hown : s.vm.findClass "com/example/vertumnus/vertumnus/interactions/constraints/SameTarget" = some m.cls := findClass_of_methodNamed Bd.named
  have hnm := (name_of_methodNamed Bd.named Bd.method).1
  have hlk : meth.locks = false := Bd.notSynchronized
  have hrt := Bd.returns
  have X0 : Stand p l e ({ frames := 1, cells := 0, slots := 0, locals := 12 } : Room) s m #[(.ref tt), (.ref xx), (.ref yy)] below meth c s₁ [] 0 0 := Stand.of_body Bd
  have e0 : s₁.heap = h0 := by rw [← hh, Bd.state]; rfl
  have N0 := Fr.nil n0
  show own_Endz p.tables e below (own_EndQ s ({ frames := 1, cells := 0, slots := 0, locals := 12 } : Room).cells ({ frames := 1, cells := 0, slots := 0, locals := 12 } : Room).slots (Q7 Z tt xx yy h0 n0)) (s₁.setTop (entryFrame m #[(.ref tt), (.ref xx), (.ref yy)] 3))
  refine own_cast (ef_7 m tt xx yy) ?_
  refine own_go (b := s₁.setTop (mkF m 1 #[.val (.ref tt), .val (.ref xx), .val (.ref yy)] [(.ref tt)])) (fun t k => XS.aloadN X0.here hx rfl (hb hby d7_0) rfl rfl k) ?_
  obtain ⟨T1, X1, e1, st1⟩ := initO X0 hx hZ hown (hw _ (List.mem_of_getElem? (i := 36) rfl)) (hw _ (List.mem_of_getElem? (i := 12) rfl)) (hw _ (List.mem_of_getElem? (i := 13) rfl)) e0 (g := (mkF m 1 #[.val (.ref tt), .val (.ref xx), .val (.ref yy)] [(.ref tt)])) rfl (by rw [hml]; rfl) rfl (hb hby d7_1) (by decide) (W := 0) (by show 2 * 0 + _ ≤ _; exact Nat.le_of_eq rfl) (by decide)
  refine own_go (b := T1.setTop (mkF m 4 #[.val (.ref tt), .val (.ref xx), .val (.ref yy)] [])) st1 ?_
  refine own_go (b := T1.setTop (mkF m 5 #[.val (.ref tt), .val (.ref xx), .val (.ref yy)] [(.ref tt)])) (fun t k => XS.aloadN X1.here hx rfl (hb hby d7_4) rfl rfl k) ?_
  refine own_go (b := T1.setTop (mkF m 6 #[.val (.ref tt), .val (.ref xx), .val (.ref yy)] [(.ref xx), (.ref tt)])) (fun t k => XS.aloadN X1.here hx rfl (hb hby d7_5) rfl rfl k) ?_
  obtain ⟨T2, h2, X2, e2, W2, st2⟩ := putF X1 hx hZ hown (host := "") (Or.inl (hw _ (List.mem_of_getElem? (i := 37) rfl))) Via.refl e1 F1 Ex (Or.inr ⟨(hw _ (List.mem_of_getElem? (i := 38) rfl)), rfl, hnm⟩) (hw _ (List.mem_of_getElem? (i := 31) rfl)) (ty := (.object "java/lang/Object")) (by decide) rfl rfl (g := (mkF m 6 #[.val (.ref tt), .val (.ref xx), .val (.ref yy)] [(.ref xx), (.ref tt)])) rfl rfl (hb hby d7_6)
  have Fw2 : Fld Z h2 tt "com/example/vertumnus/vertumnus/interactions/constraints/SameTarget" "target" "Ljava/lang/Object;" (.ref xx) := Fld.same W2 F1
  have Zs2 : n0 ≤ h2.size := Nat.le_trans Z0 (Keep.of_wr W2).1
  have N2 := Fr.snoc X2 N0 gt
  have Kp2 : Keep h0 h2 [tt] := (Keep.refl h0 [tt]).wr W2 (Or.inl (List.mem_of_getElem? (i := 0) rfl))
  refine own_go (b := T2.setTop (mkF m 9 #[.val (.ref tt), .val (.ref xx), .val (.ref yy)] [])) st2 ?_
  refine own_go (b := T2.setTop (mkF m 10 #[.val (.ref tt), .val (.ref xx), .val (.ref yy)] [(.ref tt)])) (fun t k => XS.aloadN X2.here hx rfl (hb hby d7_9) rfl rfl k) ?_
  refine own_go (b := T2.setTop (mkF m 11 #[.val (.ref tt), .val (.ref xx), .val (.ref yy)] [(.ref yy), (.ref tt)])) (fun t k => XS.aloadN X2.here hx rfl (hb hby d7_10) rfl rfl k) ?_
  obtain ⟨T3, h3, X3, e3, W3, st3⟩ := putF X2 hx hZ hown (host := "") (Or.inl (hw _ (List.mem_of_getElem? (i := 39) rfl))) Via.refl e2 (F2.other W2 (Or.inr (slot_ne (Or.inr (hw _ (List.mem_of_getElem? (i := 40) rfl))) (Or.inr (hw _ (List.mem_of_getElem? (i := 38) rfl))) (by decide) (t := (.object "java/lang/String")) (t' := (.object "java/lang/Object")) (by decide) (by decide)))) (Ex.wr W2) (Or.inr ⟨(hw _ (List.mem_of_getElem? (i := 40) rfl)), rfl, hnm⟩) (hw _ (List.mem_of_getElem? (i := 31) rfl)) (ty := (.object "java/lang/String")) (by decide) rfl rfl (g := (mkF m 11 #[.val (.ref tt), .val (.ref xx), .val (.ref yy)] [(.ref yy), (.ref tt)])) rfl rfl (hb hby d7_11)
  have Fw3 : Fld Z h3 tt "com/example/vertumnus/vertumnus/interactions/constraints/SameTarget" "name" "Ljava/lang/String;" (.ref yy) := Fld.same W3 (F2.other W2 (Or.inr (slot_ne (Or.inr (hw _ (List.mem_of_getElem? (i := 40) rfl))) (Or.inr (hw _ (List.mem_of_getElem? (i := 38) rfl))) (by decide) (t := (.object "java/lang/String")) (t' := (.object "java/lang/Object")) (by decide) (by decide))))
  have Zs3 : n0 ≤ h3.size := Nat.le_trans Zs2 (Keep.of_wr W3).1
  have N3 := Fr.snoc X3 N2 gt
  have Kp3 : Keep h0 h3 [tt] := Kp2.wr W3 (Or.inl (List.mem_of_getElem? (i := 0) rfl))
  refine own_go (b := T3.setTop (mkF m 14 #[.val (.ref tt), .val (.ref xx), .val (.ref yy)] [])) st3 ?_
  exact own_retV X3 hx hlk hrt (hb hby d7_14) (Nat.le_of_ble_eq_true rfl) (Nat.le_of_ble_eq_true rfl) (⟨rfl, N3, by rw [e3]; exact Kp3, by rw [e3]; exact ((Ex.wr W2).wr W3), by rw [e3]; exact (Fw2.other W3 (Or.inr (slot_ne (Or.inr (hw _ (List.mem_of_getElem? (i := 38) rfl))) (Or.inr (hw _ (List.mem_of_getElem? (i := 40) rfl))) (by decide) (t := (.object "java/lang/Object")) (t' := (.object "java/lang/String")) (by decide) (by decide))))⟩)
theorem d8_0 : decode prog_84_method_3_code 0 = .ok (.aload_n 1, 1) := by decide +kernel
theorem d8_1 : decode prog_84_method_3_code 1 = .ok (.aload_n 0, 1) := by decide +kernel
theorem d8_2 : decode prog_84_method_3_code 2 = .ok (.getfield 7, 3) := by decide +kernel
theorem d8_5 : decode prog_84_method_3_code 5 = .ok (.if_acmp .ne 7, 3) := by decide +kernel
theorem d8_8 : decode prog_84_method_3_code 8 = .ok (.iconst 1, 1) := by decide +kernel
theorem d8_9 : decode prog_84_method_3_code 9 = .ok (.goto 4, 3) := by decide +kernel
theorem d8_12 : decode prog_84_method_3_code 12 = .ok (.iconst 0, 1) := by decide +kernel
theorem d8_13 : decode prog_84_method_3_code 13 = .ok (.ireturn, 1) := by decide +kernel
theorem ef_8 (m : MethodId) (tt : Addr) (cc : Addr) : entryFrame m #[(.ref tt), (.ref cc)] 2 = mkF m 0 #[.val (.ref tt), .val (.ref cc)] [] := by first | (simp [entryFrame, mkF, argsToLocals, Value.category]; done) | rfl
def Q8 (Z : State) (tt : Addr) (cc : Addr) (xx : Addr) (h0 : Heap) (n0 : Nat) (v : Option Value) (h : Heap) (L : List Loc) : Prop := v = some (.int (if cc = xx then 1 else 0)) ∧ Fr n0 L ∧ h = h0
set_option maxRecDepth 65536 in
set_option maxHeartbeats 40000000 in
theorem rm8 (l : Launch) (Z : State) (a0 : Array Value) (hw : ∀ d ∈ tables_1, d.before a0 Z = true) (ws : List Jvm.Cond) (tt : Addr) (cc : Addr) (xx : Addr) (h0 : Heap) (n0 : Nat) (Z0 : n0 ≤ h0.size) (Fz : Fld Z h0 tt "com/example/vertumnus/vertumnus/interactions/constraints/SameTarget" "target" "Ljava/lang/Object;" (.ref xx)) :
    MetFree l (⟨"com/example/vertumnus/vertumnus/interactions/constraints/SameTarget", "isSatisfiedBy", "(Ljava/lang/Object;)Z"⟩ : MethodName) (head1 (Jvm.Cond.code (⟨"com/example/vertumnus/vertumnus/interactions/constraints/SameTarget", "isSatisfiedBy", "(Ljava/lang/Object;)Z"⟩ : MethodName) prog_84_method_3_code 2 (some .boolean) :: ws) ({ frames := 0, cells := 0, slots := 0, locals := 0 } : Room)) (fun a U => a = #[(.ref tt), (.ref cc)] ∧ Z.Warmed39 U.vm ∧ U.heap = h0) (fun _ _ _ _ _ => True) (fun _ U o U' => ∃ v L, o = .returned v ∧ Q8 Z tt cc xx h0 n0 v U'.heap L ∧ FrameEnd U o U' L ({ frames := 0, cells := 0, slots := 0, locals := 0 } : Room).cells ({ frames := 0, cells := 0, slots := 0, locals := 0 } : Room).slots) := by
  refine MetFree.of_bodySF (plainFor_of_name pn_0) hisR ?_
  intro p e s m args below meth c s₁ Bd hml0 hP hK
  obtain ⟨rfl, hZ, hh⟩ := hP
  have hx := Bd.exec
  have hby := Bd.bytes
  have hml : c.maxLocals = 2 := hml0
  have hown : s.vm.findClass "com/example/vertumnus/vertumnus/interactions/constraints/SameTarget" = some m.cls := findClass_of_methodNamed Bd.named
  have hnm := (name_of_methodNamed Bd.named Bd.method).1
  have hlk : meth.locks = false := Bd.notSynchronized
  have hrt := Bd.returns
  have X0 : Stand p l e ({ frames := 0, cells := 0, slots := 0, locals := 0 } : Room) s m #[(.ref tt), (.ref cc)] below meth c s₁ [] 0 0 := Stand.of_body Bd
  have e0 : s₁.heap = h0 := by rw [← hh, Bd.state]; rfl
  have N0 := Fr.nil n0
  show own_Endz p.tables e below (own_EndQ s ({ frames := 0, cells := 0, slots := 0, locals := 0 } : Room).cells ({ frames := 0, cells := 0, slots := 0, locals := 0 } : Room).slots (Q8 Z tt cc xx h0 n0)) (s₁.setTop (entryFrame m #[(.ref tt), (.ref cc)] 2))
  refine own_cast (ef_8 m tt cc) ?_
  refine own_go (b := s₁.setTop (mkF m 1 #[.val (.ref tt), .val (.ref cc)] [(.ref cc)])) (fun t k => XS.aloadN X0.here hx rfl (hb hby d8_0) rfl rfl k) ?_
  refine own_go (b := s₁.setTop (mkF m 2 #[.val (.ref tt), .val (.ref cc)] [(.ref tt), (.ref cc)])) (fun t k => XS.aloadN X0.here hx rfl (hb hby d8_1) rfl rfl k) ?_
  obtain ⟨T1, X1, e1, st1⟩ := getF X0 hx hZ hown (host := "") (Or.inl (hw _ (List.mem_of_getElem? (i := 37) rfl))) Via.refl e0 Fz (g := (mkF m 2 #[.val (.ref tt), .val (.ref cc)] [(.ref tt), (.ref cc)])) rfl rfl (hb hby d8_2)
  refine own_go (b := T1.setTop (mkF m 5 #[.val (.ref tt), .val (.ref cc)] [(.ref xx), (.ref cc)])) st1 ?_
  by_cases hc2 : cc = xx
  · refine own_go (b := T1.setTop (mkF m 8 #[.val (.ref tt), .val (.ref cc)] [])) (fun t k => Jvm.RoadKit.acmp (g := (mkF m 5 #[.val (.ref tt), .val (.ref cc)] [(.ref xx), (.ref cc)])) X1 hx rfl rfl rfl (pc0 := 5) (pc' := 8) (same := true) rfl (hb hby d8_5) rfl (decide_eq_true (congrArg Value.ref hc2)) (by decide) (by decide) k) ?_
    refine own_go (b := T1.setTop (mkF m 9 #[.val (.ref tt), .val (.ref cc)] [(.int (1 : Int32))])) (fun t k => XS.iconst X1.here hx rfl (hb hby d8_8) k) ?_
    refine own_go (b := T1.setTop (mkF m 13 #[.val (.ref tt), .val (.ref cc)] [(.int (1 : Int32))])) (fun t k => XS.goto X1.here hx rfl (pc0 := 9) (pc' := 13) rfl (hb hby d8_9) (by decide) (by decide) k) ?_
    exact own_retN X1 hx hlk (t := .boolean) hrt (by simp) (hb hby d8_13) (Nat.le_of_ble_eq_true rfl) (Nat.le_of_ble_eq_true rfl) (⟨by first | rfl | (simp only [nar, eq_true hc2, if_true, if_false]; done) | (simp only [nar, eq_true hc2, if_true, if_false]; rfl) | (simp [nar, eq_true hc2]; done) | (simp [nar, eq_true hc2]; rfl), N0, e1⟩)
  · refine own_go (b := T1.setTop (mkF m 12 #[.val (.ref tt), .val (.ref cc)] [])) (fun t k => Jvm.RoadKit.acmp (g := (mkF m 5 #[.val (.ref tt), .val (.ref cc)] [(.ref xx), (.ref cc)])) X1 hx rfl rfl rfl (pc0 := 5) (pc' := 12) (same := false) rfl (hb hby d8_5) rfl (decide_eq_false fun q => hc2 (Value.ref.inj q)) (by decide) (by decide) k) ?_
    refine own_go (b := T1.setTop (mkF m 13 #[.val (.ref tt), .val (.ref cc)] [(.int (0 : Int32))])) (fun t k => XS.iconst X1.here hx rfl (hb hby d8_12) k) ?_
    exact own_retN X1 hx hlk (t := .boolean) hrt (by simp) (hb hby d8_13) (Nat.le_of_ble_eq_true rfl) (Nat.le_of_ble_eq_true rfl) (⟨by first | rfl | (simp only [nar, eq_false hc2, if_true, if_false]; done) | (simp only [nar, eq_false hc2, if_true, if_false]; rfl) | (simp [nar, eq_false hc2]; done) | (simp [nar, eq_false hc2]; rfl), N0, e1⟩)
theorem ef_8n (m : MethodId) (tt : Addr) : entryFrame m #[(.ref tt), .null] 2 = mkF m 0 #[.val (.ref tt), .val .null] [] := by first | (simp [entryFrame, mkF, argsToLocals, Value.category]; done) | rfl
def Q8n (Z : State) (tt : Addr) (xx : Addr) (h0 : Heap) (n0 : Nat) (v : Option Value) (h : Heap) (L : List Loc) : Prop := v = some (.int 0) ∧ Fr n0 L ∧ h = h0
set_option maxRecDepth 65536 in
set_option maxHeartbeats 40000000 in
theorem rm8n (l : Launch) (Z : State) (a0 : Array Value) (hw : ∀ d ∈ tables_1, d.before a0 Z = true) (ws : List Jvm.Cond) (tt : Addr) (xx : Addr) (h0 : Heap) (n0 : Nat) (Z0 : n0 ≤ h0.size) (Fz : Fld Z h0 tt "com/example/vertumnus/vertumnus/interactions/constraints/SameTarget" "target" "Ljava/lang/Object;" (.ref xx)) :
    MetFree l (⟨"com/example/vertumnus/vertumnus/interactions/constraints/SameTarget", "isSatisfiedBy", "(Ljava/lang/Object;)Z"⟩ : MethodName) (head1 (Jvm.Cond.code (⟨"com/example/vertumnus/vertumnus/interactions/constraints/SameTarget", "isSatisfiedBy", "(Ljava/lang/Object;)Z"⟩ : MethodName) prog_84_method_3_code 2 (some .boolean) :: ws) ({ frames := 0, cells := 0, slots := 0, locals := 0 } : Room)) (fun a U => a = #[(.ref tt), .null] ∧ Z.Warmed39 U.vm ∧ U.heap = h0) (fun _ _ _ _ _ => True) (fun _ U o U' => ∃ v L, o = .returned v ∧ Q8n Z tt xx h0 n0 v U'.heap L ∧ FrameEnd U o U' L ({ frames := 0, cells := 0, slots := 0, locals := 0 } : Room).cells ({ frames := 0, cells := 0, slots := 0, locals := 0 } : Room).slots) := by
  refine MetFree.of_bodySF (plainFor_of_name pn_0) hisR ?_
  intro p e s m args below meth c s₁ Bd hml0 hP hK
  obtain ⟨rfl, hZ, hh⟩ := hP
  have hx := Bd.exec
  have hby := Bd.bytes
  have hml : c.maxLocals = 2 := hml0
  have hown : s.vm.findClass "com/example/vertumnus/vertumnus/interactions/constraints/SameTarget" = some m.cls := findClass_of_methodNamed Bd.named
  have hnm := (name_of_methodNamed Bd.named Bd.method).1
  have hlk : meth.locks = false := Bd.notSynchronized
  have hrt := Bd.returns
  have X0 : Stand p l e ({ frames := 0, cells := 0, slots := 0, locals := 0 } : Room) s m #[(.ref tt), .null] below meth c s₁ [] 0 0 := Stand.of_body Bd
  have e0 : s₁.heap = h0 := by rw [← hh, Bd.state]; rfl
  have N0 := Fr.nil n0
  show own_Endz p.tables e below (own_EndQ s ({ frames := 0, cells := 0, slots := 0, locals := 0 } : Room).cells ({ frames := 0, cells := 0, slots := 0, locals := 0 } : Room).slots (Q8n Z tt xx h0 n0)) (s₁.setTop (entryFrame m #[(.ref tt), .null] 2))
  refine own_cast (ef_8n m tt) ?_
  refine own_go (b := s₁.setTop (mkF m 1 #[.val (.ref tt), .val .null] [.null])) (fun t k => XS.aloadN X0.here hx rfl (hb hby d8_0) rfl rfl k) ?_
  refine own_go (b := s₁.setTop (mkF m 2 #[.val (.ref tt), .val .null] [(.ref tt), .null])) (fun t k => XS.aloadN X0.here hx rfl (hb hby d8_1) rfl rfl k) ?_
  obtain ⟨T1, X1, e1, st1⟩ := getF X0 hx hZ hown (host := "") (Or.inl (hw _ (List.mem_of_getElem? (i := 37) rfl))) Via.refl e0 Fz (g := (mkF m 2 #[.val (.ref tt), .val .null] [(.ref tt), .null])) rfl rfl (hb hby d8_2)
  refine own_go (b := T1.setTop (mkF m 5 #[.val (.ref tt), .val .null] [(.ref xx), .null])) st1 ?_
  refine own_go (b := T1.setTop (mkF m 12 #[.val (.ref tt), .val .null] [])) (fun t k => Jvm.RoadKit.acmp (g := (mkF m 5 #[.val (.ref tt), .val .null] [(.ref xx), .null])) X1 hx rfl rfl rfl (pc0 := 5) (pc' := 12) (same := false) rfl (hb hby d8_5) rfl (decide_eq_false nofun) (by decide) (by decide) k) ?_
  refine own_go (b := T1.setTop (mkF m 13 #[.val (.ref tt), .val .null] [(.int (0 : Int32))])) (fun t k => XS.iconst X1.here hx rfl (hb hby d8_12) k) ?_
  exact own_retN X1 hx hlk (t := .boolean) hrt (by simp) (hb hby d8_13) (Nat.le_of_ble_eq_true rfl) (Nat.le_of_ble_eq_true rfl) (⟨by first | rfl | (simp only [nar, if_true, if_false]; done) | (simp only [nar, if_true, if_false]; rfl) | (simp [nar]; done) | (simp [nar]; rfl), N0, e1⟩)
theorem d9_0 : decode prog_84_method_2_code 0 = .ok (.aload_n 0, 1) := by decide +kernel
theorem d9_1 : decode prog_84_method_2_code 1 = .ok (.getfield 7, 3) := by decide +kernel
theorem d9_4 : decode prog_84_method_2_code 4 = .ok (.areturn, 1) := by decide +kernel
theorem ef_9 (m : MethodId) (tt : Addr) : entryFrame m #[(.ref tt)] 1 = mkF m 0 #[.val (.ref tt)] [] := by first | (simp [entryFrame, mkF, argsToLocals, Value.category]; done) | rfl
def Q9 (Z : State) (tt : Addr) (xx : Addr) (h0 : Heap) (n0 : Nat) (v : Option Value) (h : Heap) (L : List Loc) : Prop := v = some (.ref xx) ∧ Fr n0 L ∧ h = h0
set_option maxRecDepth 65536 in
set_option maxHeartbeats 40000000 in
theorem rm9 (l : Launch) (Z : State) (a0 : Array Value) (hw : ∀ d ∈ tables_1, d.before a0 Z = true) (ws : List Jvm.Cond) (tt : Addr) (xx : Addr) (h0 : Heap) (n0 : Nat) (Z0 : n0 ≤ h0.size) (Fz : Fld Z h0 tt "com/example/vertumnus/vertumnus/interactions/constraints/SameTarget" "target" "Ljava/lang/Object;" (.ref xx)) :
    MetFree l (⟨"com/example/vertumnus/vertumnus/interactions/constraints/SameTarget", "target", "()Ljava/lang/Object;"⟩ : MethodName) (head1 (Jvm.Cond.code (⟨"com/example/vertumnus/vertumnus/interactions/constraints/SameTarget", "target", "()Ljava/lang/Object;"⟩ : MethodName) prog_84_method_2_code 1 (some (.object "java/lang/Object")) :: ws) ({ frames := 0, cells := 0, slots := 0, locals := 0 } : Room)) (fun a U => a = #[(.ref tt)] ∧ Z.Warmed39 U.vm ∧ U.heap = h0) (fun _ _ _ _ _ => True) (fun _ U o U' => ∃ v L, o = .returned v ∧ Q9 Z tt xx h0 n0 v U'.heap L ∧ FrameEnd U o U' L ({ frames := 0, cells := 0, slots := 0, locals := 0 } : Room).cells ({ frames := 0, cells := 0, slots := 0, locals := 0 } : Room).slots) := by
  refine MetFree.of_bodySF (plainFor_of_name pn_0) hisR ?_
  intro p e s m args below meth c s₁ Bd hml0 hP hK
  obtain ⟨rfl, hZ, hh⟩ := hP
  have hx := Bd.exec
  have hby := Bd.bytes
  have hml : c.maxLocals = 1 := hml0
  have hown : s.vm.findClass "com/example/vertumnus/vertumnus/interactions/constraints/SameTarget" = some m.cls := findClass_of_methodNamed Bd.named
  have hnm := (name_of_methodNamed Bd.named Bd.method).1
  have hlk : meth.locks = false := Bd.notSynchronized
  have hrt := Bd.returns
  have X0 : Stand p l e ({ frames := 0, cells := 0, slots := 0, locals := 0 } : Room) s m #[(.ref tt)] below meth c s₁ [] 0 0 := Stand.of_body Bd
  have e0 : s₁.heap = h0 := by rw [← hh, Bd.state]; rfl
  have N0 := Fr.nil n0
  show own_Endz p.tables e below (own_EndQ s ({ frames := 0, cells := 0, slots := 0, locals := 0 } : Room).cells ({ frames := 0, cells := 0, slots := 0, locals := 0 } : Room).slots (Q9 Z tt xx h0 n0)) (s₁.setTop (entryFrame m #[(.ref tt)] 1))
  refine own_cast (ef_9 m tt) ?_
  refine own_go (b := s₁.setTop (mkF m 1 #[.val (.ref tt)] [(.ref tt)])) (fun t k => XS.aloadN X0.here hx rfl (hb hby d9_0) rfl rfl k) ?_
  obtain ⟨T1, X1, e1, st1⟩ := getF X0 hx hZ hown (host := "") (Or.inl (hw _ (List.mem_of_getElem? (i := 37) rfl))) Via.refl e0 Fz (g := (mkF m 1 #[.val (.ref tt)] [(.ref tt)])) rfl rfl (hb hby d9_1)
  refine own_go (b := T1.setTop (mkF m 4 #[.val (.ref tt)] [(.ref xx)])) st1 ?_
  exact own_retA X1 hx hlk hrt rfl rfl (hb hby d9_4) (Nat.le_of_ble_eq_true rfl) (Nat.le_of_ble_eq_true rfl) (⟨by first | rfl | (simp only [if_true, if_true, if_false]; done) | (simp only [if_true, if_true, if_false]; rfl) | (simp []; done) | (simp []; rfl), N0, e1⟩)
theorem pn_1 : plainName "com/example/vertumnus/vertumnus/interactions/constraints/SameTargetIsSatisfiedByPinLaw" = true := by first | (simp [plainName, overriddenIn]; done) | decide +kernel
theorem pd_1 : parseMethodDescriptor "([C)V" = some ⟨[(.array .char)], none⟩ := by decide +kernel
theorem pd_2 : parseMethodDescriptor "(Ljava/lang/Object;Ljava/lang/String;)V" = some ⟨[(.object "java/lang/Object"), (.object "java/lang/String")], none⟩ := by decide +kernel
theorem pd_3 : parseMethodDescriptor "(Ljava/lang/Object;)Z" = some ⟨[(.object "java/lang/Object")], some .boolean⟩ := by decide +kernel
theorem pd_4 : parseMethodDescriptor "()Ljava/lang/Object;" = some ⟨[], some (.object "java/lang/Object")⟩ := by decide +kernel
theorem ef_0 (m : MethodId) (pr : Int32) (qr : Int32) (rr : Int32) (sr : Int32) : entryFrame m #[(.int pr), (.int qr), (.int rr), (.int sr)] maxLocals = mkF m 0 #[.val (.int pr), .val (.int qr), .val (.int rr), .val (.int sr), .unset, .unset, .unset, .unset, .unset, .unset, .unset, .unset, .unset, .unset, .unset] [] := by first | (simp [entryFrame, mkF, argsToLocals, Value.category, maxLocals]; done) | rfl
def Q0 (Z : State) (pr : Int32) (qr : Int32) (rr : Int32) (sr : Int32) (G1 : Int32) (h0 : Heap) (n0 : Nat) (v : Option Value) (h : Heap) (L : List Loc) : Prop := v = some (.int 1) ∧ Fr n0 L
set_option maxRecDepth 65536 in
set_option maxHeartbeats 40000000 in
theorem rm0 (l : Launch) (Z : State) (a0 : Array Value) (hw : ∀ d ∈ tables_1, d.before a0 Z = true) (ws : List Jvm.Cond) (pr : Int32) (qr : Int32) (rr : Int32) (sr : Int32) (G1 : Int32) (h0 : Heap) (n0 : Nat) (Z0 : n0 ≤ h0.size) (O2 : Sta Z Z.heap "java/lang/String" "COMPACT_STRINGS" "Z" (.int G1)) (P5 : ¬ (G1 = (0 : Int32))) (Od : Old Z n0 h0) :
    MetFree l x (head1 (Jvm.Cond.code x code maxLocals ret :: ws) room_1) (fun a U => a = #[(.int pr), (.int qr), (.int rr), (.int sr)] ∧ Z.Warmed39 U.vm ∧ U.heap = h0) (fun _ _ _ _ _ => True) (fun _ U o U' => ∃ v L, o = .returned v ∧ Q0 Z pr qr rr sr G1 h0 n0 v U'.heap L ∧ FrameEnd U o U' L room_1.cells room_1.slots) := by
  refine MetFree.of_bodySF (plainFor_of_name pn_1) hisR ?_
  intro p e s m args below meth c s₁ Bd hml0 hP hK
  obtain ⟨rfl, hZ, hh⟩ := hP
  have hx := Bd.exec
  have hby := Bd.bytes
  have hml : c.maxLocals = 15 := hml0
  have hown : s.vm.findClass "com/example/vertumnus/vertumnus/interactions/constraints/SameTargetIsSatisfiedByPinLaw" = some m.cls := findClass_of_methodNamed Bd.named
  have hnm := (name_of_methodNamed Bd.named Bd.method).1
  have hlk : meth.locks = false := Bd.notSynchronized
  have hrt := Bd.returns
  have X0 : Stand p l e room_1 s m #[(.int pr), (.int qr), (.int rr), (.int sr)] below meth c s₁ [] 0 0 := Stand.of_body Bd
  have e0 : s₁.heap = h0 := by rw [← hh, Bd.state]; rfl
  have N0 := Fr.nil n0
  show own_Endz p.tables e below (own_EndQ s room_1.cells room_1.slots (Q0 Z pr qr rr sr G1 h0 n0)) (s₁.setTop (entryFrame m #[(.int pr), (.int qr), (.int rr), (.int sr)] maxLocals))
  refine own_cast (ef_0 m pr qr rr sr) ?_
  have hws : ∀ d ∈ StrChars.Road.words, d.before a0 Z = true := fun d hd => hw d ((by decide +kernel : ∀ d ∈ StrChars.Road.words, d ∈ tables_1) d hd)
  refine own_go (b := s₁.setTop (mkF m 1 #[.val (.int pr), .val (.int qr), .val (.int rr), .val (.int sr), .unset, .unset, .unset, .unset, .unset, .unset, .unset, .unset, .unset, .unset, .unset] [(.int (2 : Int32))])) (fun t k => XS.iconst X0.here hx rfl (hb hby at_0) k) ?_
  obtain ⟨T1, h1, k1, X1, e1, E1, A1, st1⟩ := newP X0 hx hZ (hw _ (List.mem_of_getElem? (i := 0) rfl)) e0 (g := (mkF m 1 #[.val (.int pr), .val (.int qr), .val (.int rr), .val (.int sr), .unset, .unset, .unset, .unset, .unset, .unset, .unset, .unset, .unset, .unset, .unset] [(.int (2 : Int32))])) rfl (hb hby at_1) rfl (by decide) (cap := 2) (by decide) (by decide) (by decide) (by decide)
  obtain ⟨b1, g1⟩ : ∃ z, z = h0.size := ⟨_, rfl⟩
  rw [← g1] at A1 st1
  have g_b1 : n0 ≤ b1 := Nat.le_trans Z0 (Nat.le_of_eq g1.symm)
  have Zs1 : n0 ≤ h1.size := Nat.le_trans Z0 E1.1
  have Ol1 := Od.ext E1
  have V_b1 : Arv Z h1 b1 k1 .char (2 : Int32) [(.int (0 : Int32)), (.int (0 : Int32))] (.int (0 : Int32)) := (Arv.new A1 (by decide)).pad (pad_rep [] (.int (0 : Int32)) 2)
  refine own_go (b := T1.setTop (mkF m 3 #[.val (.int pr), .val (.int qr), .val (.int rr), .val (.int sr), .unset, .unset, .unset, .unset, .unset, .unset, .unset, .unset, .unset, .unset, .unset] [(.ref b1)])) st1 ?_
  refine own_go (b := T1.setTop (mkF m 4 #[.val (.int pr), .val (.int qr), .val (.int rr), .val (.int sr), .unset, .unset, .unset, .unset, .unset, .unset, .unset, .unset, .unset, .unset, .unset] [(.ref b1), (.ref b1)])) (fun t k => XS.dup X1.here hx rfl (hb hby at_3) rfl rfl k) ?_
  refine own_go (b := T1.setTop (mkF m 5 #[.val (.int pr), .val (.int qr), .val (.int rr), .val (.int sr), .unset, .unset, .unset, .unset, .unset, .unset, .unset, .unset, .unset, .unset, .unset] [(.int (0 : Int32)), (.ref b1), (.ref b1)])) (fun t k => XS.iconst X1.here hx rfl (hb hby at_4) k) ?_
  refine own_go (b := T1.setTop (mkF m 6 #[.val (.int pr), .val (.int qr), .val (.int rr), .val (.int sr), .unset, .unset, .unset, .unset, .unset, .unset, .unset, .unset, .unset, .unset, .unset] [(.int pr), (.int (0 : Int32)), (.ref b1), (.ref b1)])) (fun t k => XS.iloadN X1.here hx rfl (hb hby at_5) rfl  k) ?_
  refine own_go (b := T1.setTop (mkF m 9 #[.val (.int pr), .val (.int qr), .val (.int rr), .val (.int sr), .unset, .unset, .unset, .unset, .unset, .unset, .unset, .unset, .unset, .unset, .unset] [(.int (255 : Int32)), (.int pr), (.int (0 : Int32)), (.ref b1), (.ref b1)])) (fun t k => XS.sipush X1.here hx rfl (hb hby at_6) k) ?_
  refine own_go (b := T1.setTop (mkF m 10 #[.val (.int pr), .val (.int qr), .val (.int rr), .val (.int sr), .unset, .unset, .unset, .unset, .unset, .unset, .unset, .unset, .unset, .unset, .unset] [(.int (pr &&& (255 : Int32))), (.int (0 : Int32)), (.ref b1), (.ref b1)])) (fun t k => XS.iand X1.here hx rfl (hb hby at_9) rfl k) ?_
  refine own_go (b := T1.setTop (mkF m 11 #[.val (.int pr), .val (.int qr), .val (.int rr), .val (.int sr), .unset, .unset, .unset, .unset, .unset, .unset, .unset, .unset, .unset, .unset, .unset] [(.int ((pr &&& (255 : Int32)).toUInt32.toUInt16.toUInt32.toInt32)), (.int (0 : Int32)), (.ref b1), (.ref b1)])) (fun t k => XS.i2c X1.here hx rfl (hb hby at_10) rfl k) ?_
  obtain ⟨cl2, Ar2, qc2, Sz2, Ng2, Hs2, Ft2⟩ := id V_b1
  have hin2 : ¬ ((0 : Int32) < 0 ∨ cl2.slots.size ≤ ((0 : Int32)).toNatClampNeg) := inb_of Sz2 ⟨by decide, by decide⟩
  obtain ⟨T3, h3, X3, e3, W3, st3⟩ := stC X1 hx hZ e1 Ar2 (j := (0 : Int32)) hin2 (g := (mkF m 11 #[.val (.int pr), .val (.int qr), .val (.int rr), .val (.int sr), .unset, .unset, .unset, .unset, .unset, .unset, .unset, .unset, .unset, .unset, .unset] [(.int ((pr &&& (255 : Int32)).toUInt32.toUInt16.toUInt32.toInt32)), (.int (0 : Int32)), (.ref b1), (.ref b1)])) rfl rfl (hb hby at_11)
  have V_b1_3 : Arv Z h3 b1 k1 .char (2 : Int32) [(.int (nar .char ((pr &&& (255 : Int32)).toUInt32.toUInt16.toUInt32.toInt32))), (.int (0 : Int32))] (.int (0 : Int32)) := Arv.set Ar2 qc2 Sz2 Ng2 Hs2 Ft2 (fits_nar_char _) W3 0 rfl (Nat.le_of_ble_eq_true rfl)
  have Zs3 : n0 ≤ h3.size := Nat.le_trans Zs1 (Keep.of_wr W3).1
  have N3 := Fr.snoc X3 N0 g_b1
  have Ol3 := Ol1.wr W3 g_b1
  refine own_go (b := T3.setTop (mkF m 12 #[.val (.int pr), .val (.int qr), .val (.int rr), .val (.int sr), .unset, .unset, .unset, .unset, .unset, .unset, .unset, .unset, .unset, .unset, .unset] [(.ref b1)])) st3 ?_
  refine own_go (b := T3.setTop (mkF m 13 #[.val (.int pr), .val (.int qr), .val (.int rr), .val (.int sr), .unset, .unset, .unset, .unset, .unset, .unset, .unset, .unset, .unset, .unset, .unset] [(.ref b1), (.ref b1)])) (fun t k => XS.dup X3.here hx rfl (hb hby at_12) rfl rfl k) ?_
  refine own_go (b := T3.setTop (mkF m 14 #[.val (.int pr), .val (.int qr), .val (.int rr), .val (.int sr), .unset, .unset, .unset, .unset, .unset, .unset, .unset, .unset, .unset, .unset, .unset] [(.int (1 : Int32)), (.ref b1), (.ref b1)])) (fun t k => XS.iconst X3.here hx rfl (hb hby at_13) k) ?_
  refine own_go (b := T3.setTop (mkF m 15 #[.val (.int pr), .val (.int qr), .val (.int rr), .val (.int sr), .unset, .unset, .unset, .unset, .unset, .unset, .unset, .unset, .unset, .unset, .unset] [(.int qr), (.int (1 : Int32)), (.ref b1), (.ref b1)])) (fun t k => XS.iloadN X3.here hx rfl (hb hby at_14) rfl  k) ?_
  refine own_go (b := T3.setTop (mkF m 18 #[.val (.int pr), .val (.int qr), .val (.int rr), .val (.int sr), .unset, .unset, .unset, .unset, .unset, .unset, .unset, .unset, .unset, .unset, .unset] [(.int (255 : Int32)), (.int qr), (.int (1 : Int32)), (.ref b1), (.ref b1)])) (fun t k => XS.sipush X3.here hx rfl (hb hby at_15) k) ?_
  refine own_go (b := T3.setTop (mkF m 19 #[.val (.int pr), .val (.int qr), .val (.int rr), .val (.int sr), .unset, .unset, .unset, .unset, .unset, .unset, .unset, .unset, .unset, .unset, .unset] [(.int (qr &&& (255 : Int32))), (.int (1 : Int32)), (.ref b1), (.ref b1)])) (fun t k => XS.iand X3.here hx rfl (hb hby at_18) rfl k) ?_
  refine own_go (b := T3.setTop (mkF m 20 #[.val (.int pr), .val (.int qr), .val (.int rr), .val (.int sr), .unset, .unset, .unset, .unset, .unset, .unset, .unset, .unset, .unset, .unset, .unset] [(.int ((qr &&& (255 : Int32)).toUInt32.toUInt16.toUInt32.toInt32)), (.int (1 : Int32)), (.ref b1), (.ref b1)])) (fun t k => XS.i2c X3.here hx rfl (hb hby at_19) rfl k) ?_
  obtain ⟨cl4, Ar4, qc4, Sz4, Ng4, Hs4, Ft4⟩ := id V_b1_3
  have hin4 : ¬ ((1 : Int32) < 0 ∨ cl4.slots.size ≤ ((1 : Int32)).toNatClampNeg) := inb_of Sz4 ⟨by decide, by decide⟩
  obtain ⟨T5, h5, X5, e5, W5, st5⟩ := stC X3 hx hZ e3 Ar4 (j := (1 : Int32)) hin4 (g := (mkF m 20 #[.val (.int pr), .val (.int qr), .val (.int rr), .val (.int sr), .unset, .unset, .unset, .unset, .unset, .unset, .unset, .unset, .unset, .unset, .unset] [(.int ((qr &&& (255 : Int32)).toUInt32.toUInt16.toUInt32.toInt32)), (.int (1 : Int32)), (.ref b1), (.ref b1)])) rfl rfl (hb hby at_20)
  have V_b1_5 : Arv Z h5 b1 k1 .char (2 : Int32) [(.int (nar .char ((pr &&& (255 : Int32)).toUInt32.toUInt16.toUInt32.toInt32))), (.int (nar .char ((qr &&& (255 : Int32)).toUInt32.toUInt16.toUInt32.toInt32)))] (.int (0 : Int32)) := Arv.set Ar4 qc4 Sz4 Ng4 Hs4 Ft4 (fits_nar_char _) W5 1 rfl (Nat.le_of_ble_eq_true rfl)
  have Zs5 : n0 ≤ h5.size := Nat.le_trans Zs3 (Keep.of_wr W5).1
  have N5 := Fr.snoc X5 N3 g_b1
  have Ol5 := Ol3.wr W5 g_b1
  refine own_go (b := T5.setTop (mkF m 21 #[.val (.int pr), .val (.int qr), .val (.int rr), .val (.int sr), .unset, .unset, .unset, .unset, .unset, .unset, .unset, .unset, .unset, .unset, .unset] [(.ref b1)])) st5 ?_
  refine own_go (b := T5.setTop (mkF m 23 #[.val (.int pr), .val (.int qr), .val (.int rr), .val (.int sr), .val (.ref b1), .unset, .unset, .unset, .unset, .unset, .unset, .unset, .unset, .unset, .unset] [])) (fun t k => XS.astore X5.here hx rfl (hb hby at_21) rfl rfl (l' := #[.val (.int pr), .val (.int qr), .val (.int rr), .val (.int sr), .val (.ref b1), .unset, .unset, .unset, .unset, .unset, .unset, .unset, .unset, .unset, .unset]) rfl k) ?_
  obtain ⟨T6, h6, X6, e6, E6, A6, D6, -, st6⟩ := newO X5 hx hZ hown (hw _ (List.mem_of_getElem? (i := 1) rfl)) (hw _ (List.mem_of_getElem? (i := 2) rfl)) (hw _ (List.mem_of_getElem? (i := 3) rfl)) e5 (g := (mkF m 23 #[.val (.int pr), .val (.int qr), .val (.int rr), .val (.int sr), .val (.ref b1), .unset, .unset, .unset, .unset, .unset, .unset, .unset, .unset, .unset, .unset] [])) rfl (hb hby at_23) (by decide) (by decide)
  obtain ⟨b6, g6⟩ : ∃ z, z = h5.size := ⟨_, rfl⟩
  rw [← g6] at A6 D6 st6
  have g_b6 : n0 ≤ b6 := Nat.le_trans Zs5 (Nat.le_of_eq g6.symm)
  have Zs6 : n0 ≤ h6.size := Nat.le_trans Zs5 E6.1
  have Ol6 := Ol5.ext E6
  have F_coder_b6 : Fld Z h6 b6 "java/lang/String" "coder" "B" (.int (0 : Int32)) := D6 (Or.inr (hw _ (List.mem_of_getElem? (i := 27) rfl))) (ty := .byte) (by decide)
  have F_value_b6 : Fld Z h6 b6 "java/lang/String" "value" "[B" .null := D6 (Or.inr (hw _ (List.mem_of_getElem? (i := 29) rfl))) (ty := (.array .byte)) (by decide)
  refine own_go (b := T6.setTop (mkF m 26 #[.val (.int pr), .val (.int qr), .val (.int rr), .val (.int sr), .val (.ref b1), .unset, .unset, .unset, .unset, .unset, .unset, .unset, .unset, .unset, .unset] [(.ref b6)])) st6 ?_
  refine own_go (b := T6.setTop (mkF m 27 #[.val (.int pr), .val (.int qr), .val (.int rr), .val (.int sr), .val (.ref b1), .unset, .unset, .unset, .unset, .unset, .unset, .unset, .unset, .unset, .unset] [(.ref b6), (.ref b6)])) (fun t k => XS.dup X6.here hx rfl (hb hby at_26) rfl rfl k) ?_
  refine own_go (b := T6.setTop (mkF m 29 #[.val (.int pr), .val (.int qr), .val (.int rr), .val (.int sr), .val (.ref b1), .unset, .unset, .unset, .unset, .unset, .unset, .unset, .unset, .unset, .unset] [(.ref b1), (.ref b6), (.ref b6)])) (fun t k => XS.aload X6.here hx rfl (hb hby at_27) rfl rfl k) ?_
  have hp8 : ∀ c ∈ ([(nar .char ((pr &&& (255 : Int32)).toUInt32.toUInt16.toUInt32.toInt32)), (nar .char ((qr &&& (255 : Int32)).toUInt32.toUInt16.toUInt32.toInt32))] : List Int32), ¬ c < 0 ∧ ¬ (255 : Int32) < c := by
    intro c hc
    simp only [List.mem_cons, List.not_mem_nil, or_false] at hc
    rcases hc with rfl | rfl
    · exact own_and255 pr
    · exact own_and255 qr
  obtain ⟨_, _, ⟨T7, L7, k7, n7⟩, -, X7, ⟨Lc7, hQ7, l7, y7, z7⟩, st7⟩ := X6.specialBack hx (y := (⟨"java/lang/String", "<init>", "([C)V"⟩ : MethodName)) rfl hown (mvT hZ (hw _ (List.mem_of_getElem? (i := 4) rfl))) (mvT hZ (hw _ (List.mem_of_getElem? (i := 5) rfl))) (mvT hZ (hw _ (List.mem_of_getElem? (i := 6) rfl))) (by decide) (StrChars.Road.backV (W := 1) hZ hws (kI := 4) (hw _ (List.mem_of_getElem? (i := 2) rfl)) (cs := ([(nar .char ((pr &&& (255 : Int32)).toUInt32.toUInt16.toUInt32.toInt32)), (nar .char ((qr &&& (255 : Int32)).toUInt32.toUInt16.toUInt32.toInt32))] : List Int32)) (bs := (([(nar .char ((pr &&& (255 : Int32)).toUInt32.toUInt16.toUInt32.toInt32)), (nar .char ((qr &&& (255 : Int32)).toUInt32.toUInt16.toUInt32.toInt32))] : List Int32)).map (fun c => c.toInt8.toInt32)) (n := 2) g_b6 Zs6 A6 F_value_b6 F_coder_b6 (V_b1_5.ext E6) (O2.ext Ol6.2) P5 rfl rfl (by decide) (by decide) hp8 rfl (by decide) (by decide)) (g := (mkF m 29 #[.val (.int pr), .val (.int qr), .val (.int rr), .val (.int sr), .val (.ref b1), .unset, .unset, .unset, .unset, .unset, .unset, .unset, .unset, .unset, .unset] [(.ref b1), (.ref b6), (.ref b6)])) rfl (by rw [hml]; rfl) (Steps.refl _) (a := b6) (argsL := [(.ref b1)]) (rest := [(.ref b6)]) (lenOf pd_1 rfl) rfl (by show 2 * 0 + _ ≤ _; exact Nat.le_of_eq rfl) (hb hby at_29) (fun _ _ => ⟨rfl, e6, (by decide : 2 + 1 ≤ _), (by decide : 6 + 2 ≤ _)⟩)
  dsimp only [Pt.U, Pt.locs, Pt.cells, Pt.slots] at X7 l7 y7 z7 st7 hQ7
  subst l7 y7 z7
  obtain ⟨rfl, N7q, K7, Es7, Cs7, t7, kb7, ua7, ub7, uc7, Vs7, Ks7⟩ := hQ7
  have Zs7 : n0 ≤ T7.heap.size := Nat.le_trans Zs6 K7.1
  have N7 := Fr.app N5 N7q
  have Ol7 := Ol6.keep K7 (allS g_b6 all0)
  refine own_tr (b := T7.setTop (mkF m 32 #[.val (.int pr), .val (.int qr), .val (.int rr), .val (.int sr), .val (.ref b1), .unset, .unset, .unset, .unset, .unset, .unset, .unset, .unset, .unset, .unset] [(.ref b6)])) st7 ?_
  refine own_go (b := T7.setTop (mkF m 34 #[.val (.int pr), .val (.int qr), .val (.int rr), .val (.int sr), .val (.ref b1), .val (.ref b6), .unset, .unset, .unset, .unset, .unset, .unset, .unset, .unset, .unset] [])) (fun t k => XS.astore X7.here hx rfl (hb hby at_32) rfl rfl (l' := #[.val (.int pr), .val (.int qr), .val (.int rr), .val (.int sr), .val (.ref b1), .val (.ref b6), .unset, .unset, .unset, .unset, .unset, .unset, .unset, .unset, .unset]) rfl k) ?_
  obtain ⟨T9, h9, X9, e9, E9, A9, D9, -, st9⟩ := newO X7 hx hZ hown (hw _ (List.mem_of_getElem? (i := 1) rfl)) (hw _ (List.mem_of_getElem? (i := 2) rfl)) (hw _ (List.mem_of_getElem? (i := 3) rfl)) rfl (g := (mkF m 34 #[.val (.int pr), .val (.int qr), .val (.int rr), .val (.int sr), .val (.ref b1), .val (.ref b6), .unset, .unset, .unset, .unset, .unset, .unset, .unset, .unset, .unset] [])) rfl (hb hby at_34) (by decide) (by decide)
  obtain ⟨b9, g9⟩ : ∃ z, z = T7.heap.size := ⟨_, rfl⟩
  rw [← g9] at A9 D9 st9
  have g_b9 : n0 ≤ b9 := Nat.le_trans Zs7 (Nat.le_of_eq g9.symm)
  have Zs9 : n0 ≤ h9.size := Nat.le_trans Zs7 E9.1
  have Ol9 := Ol7.ext E9
  have F_coder_b9 : Fld Z h9 b9 "java/lang/String" "coder" "B" (.int (0 : Int32)) := D9 (Or.inr (hw _ (List.mem_of_getElem? (i := 27) rfl))) (ty := .byte) (by decide)
  have F_value_b9 : Fld Z h9 b9 "java/lang/String" "value" "[B" .null := D9 (Or.inr (hw _ (List.mem_of_getElem? (i := 29) rfl))) (ty := (.array .byte)) (by decide)
  refine own_go (b := T9.setTop (mkF m 37 #[.val (.int pr), .val (.int qr), .val (.int rr), .val (.int sr), .val (.ref b1), .val (.ref b6), .unset, .unset, .unset, .unset, .unset, .unset, .unset, .unset, .unset] [(.ref b9)])) st9 ?_
  refine own_go (b := T9.setTop (mkF m 38 #[.val (.int pr), .val (.int qr), .val (.int rr), .val (.int sr), .val (.ref b1), .val (.ref b6), .unset, .unset, .unset, .unset, .unset, .unset, .unset, .unset, .unset] [(.ref b9), (.ref b9)])) (fun t k => XS.dup X9.here hx rfl (hb hby at_37) rfl rfl k) ?_
  refine own_go (b := T9.setTop (mkF m 40 #[.val (.int pr), .val (.int qr), .val (.int rr), .val (.int sr), .val (.ref b1), .val (.ref b6), .unset, .unset, .unset, .unset, .unset, .unset, .unset, .unset, .unset] [(.ref b1), (.ref b9), (.ref b9)])) (fun t k => XS.aload X9.here hx rfl (hb hby at_38) rfl rfl k) ?_
  have hp11 : ∀ c ∈ ([(nar .char ((pr &&& (255 : Int32)).toUInt32.toUInt16.toUInt32.toInt32)), (nar .char ((qr &&& (255 : Int32)).toUInt32.toUInt16.toUInt32.toInt32))] : List Int32), ¬ c < 0 ∧ ¬ (255 : Int32) < c := by
    intro c hc
    simp only [List.mem_cons, List.not_mem_nil, or_false] at hc
    rcases hc with rfl | rfl
    · exact own_and255 pr
    · exact own_and255 qr
  obtain ⟨_, _, ⟨T10, L10, k10, n10⟩, -, X10, ⟨Lc10, hQ10, l10, y10, z10⟩, st10⟩ := X9.specialBack hx (y := (⟨"java/lang/String", "<init>", "([C)V"⟩ : MethodName)) rfl hown (mvT hZ (hw _ (List.mem_of_getElem? (i := 4) rfl))) (mvT hZ (hw _ (List.mem_of_getElem? (i := 5) rfl))) (mvT hZ (hw _ (List.mem_of_getElem? (i := 6) rfl))) (by decide) (StrChars.Road.backV (W := 1) hZ hws (kI := 4) (hw _ (List.mem_of_getElem? (i := 2) rfl)) (cs := ([(nar .char ((pr &&& (255 : Int32)).toUInt32.toUInt16.toUInt32.toInt32)), (nar .char ((qr &&& (255 : Int32)).toUInt32.toUInt16.toUInt32.toInt32))] : List Int32)) (bs := (([(nar .char ((pr &&& (255 : Int32)).toUInt32.toUInt16.toUInt32.toInt32)), (nar .char ((qr &&& (255 : Int32)).toUInt32.toUInt16.toUInt32.toInt32))] : List Int32)).map (fun c => c.toInt8.toInt32)) (n := 2) g_b9 Zs9 A9 F_value_b9 F_coder_b9 (((V_b1_5.ext E6).keep K7 (ninS (Nat.ne_of_lt (Nat.lt_of_lt_of_le (V_b1_5).lt (Nat.le_of_eq g6.symm))) nin0)).ext E9) (O2.ext Ol9.2) P5 rfl rfl (by decide) (by decide) hp11 rfl (by decide) (by decide)) (g := (mkF m 40 #[.val (.int pr), .val (.int qr), .val (.int rr), .val (.int sr), .val (.ref b1), .val (.ref b6), .unset, .unset, .unset, .unset, .unset, .unset, .unset, .unset, .unset] [(.ref b1), (.ref b9), (.ref b9)])) rfl (by rw [hml]; rfl) (Steps.refl _) (a := b9) (argsL := [(.ref b1)]) (rest := [(.ref b9)]) (lenOf pd_1 rfl) rfl (by show 2 * 0 + _ ≤ _; exact Nat.le_of_eq rfl) (hb hby at_40) (fun _ _ => ⟨rfl, e9, (by decide : 4 + 1 ≤ _), (by decide : 12 + 2 ≤ _)⟩)
  dsimp only [Pt.U, Pt.locs, Pt.cells, Pt.slots] at X10 l10 y10 z10 st10 hQ10
  subst l10 y10 z10
  obtain ⟨rfl, N10q, K10, Es10, Cs10, t10, kb10, ua10, ub10, uc10, Vs10, Ks10⟩ := hQ10
  have Zs10 : n0 ≤ T10.heap.size := Nat.le_trans Zs9 K10.1
  have N10 := Fr.app N7 N10q
  have Ol10 := Ol9.keep K10 (allS g_b9 all0)
  refine own_tr (b := T10.setTop (mkF m 43 #[.val (.int pr), .val (.int qr), .val (.int rr), .val (.int sr), .val (.ref b1), .val (.ref b6), .unset, .unset, .unset, .unset, .unset, .unset, .unset, .unset, .unset] [(.ref b9)])) st10 ?_
  refine own_go (b := T10.setTop (mkF m 45 #[.val (.int pr), .val (.int qr), .val (.int rr), .val (.int sr), .val (.ref b1), .val (.ref b6), .val (.ref b9), .unset, .unset, .unset, .unset, .unset, .unset, .unset, .unset] [])) (fun t k => XS.astore X10.here hx rfl (hb hby at_43) rfl rfl (l' := #[.val (.int pr), .val (.int qr), .val (.int rr), .val (.int sr), .val (.ref b1), .val (.ref b6), .val (.ref b9), .unset, .unset, .unset, .unset, .unset, .unset, .unset, .unset]) rfl k) ?_
  refine own_go (b := T10.setTop (mkF m 46 #[.val (.int pr), .val (.int qr), .val (.int rr), .val (.int sr), .val (.ref b1), .val (.ref b6), .val (.ref b9), .unset, .unset, .unset, .unset, .unset, .unset, .unset, .unset] [(.int (1 : Int32))])) (fun t k => XS.iconst X10.here hx rfl (hb hby at_45) k) ?_
  obtain ⟨T12, h12, k12, X12, e12, E12, A12, st12⟩ := newP X10 hx hZ (hw _ (List.mem_of_getElem? (i := 0) rfl)) rfl (g := (mkF m 46 #[.val (.int pr), .val (.int qr), .val (.int rr), .val (.int sr), .val (.ref b1), .val (.ref b6), .val (.ref b9), .unset, .unset, .unset, .unset, .unset, .unset, .unset, .unset] [(.int (1 : Int32))])) rfl (hb hby at_46) rfl (by decide) (cap := 1) (by decide) (by decide) (by decide) (by decide)
  obtain ⟨b12, g12⟩ : ∃ z, z = T10.heap.size := ⟨_, rfl⟩
  rw [← g12] at A12 st12
  have g_b12 : n0 ≤ b12 := Nat.le_trans Zs10 (Nat.le_of_eq g12.symm)
  have Zs12 : n0 ≤ h12.size := Nat.le_trans Zs10 E12.1
  have Ol12 := Ol10.ext E12
  have V_b12 : Arv Z h12 b12 k12 .char (1 : Int32) [(.int (0 : Int32))] (.int (0 : Int32)) := (Arv.new A12 (by decide)).pad (pad_rep [] (.int (0 : Int32)) 1)
  refine own_go (b := T12.setTop (mkF m 48 #[.val (.int pr), .val (.int qr), .val (.int rr), .val (.int sr), .val (.ref b1), .val (.ref b6), .val (.ref b9), .unset, .unset, .unset, .unset, .unset, .unset, .unset, .unset] [(.ref b12)])) st12 ?_
  refine own_go (b := T12.setTop (mkF m 49 #[.val (.int pr), .val (.int qr), .val (.int rr), .val (.int sr), .val (.ref b1), .val (.ref b6), .val (.ref b9), .unset, .unset, .unset, .unset, .unset, .unset, .unset, .unset] [(.ref b12), (.ref b12)])) (fun t k => XS.dup X12.here hx rfl (hb hby at_48) rfl rfl k) ?_
  refine own_go (b := T12.setTop (mkF m 50 #[.val (.int pr), .val (.int qr), .val (.int rr), .val (.int sr), .val (.ref b1), .val (.ref b6), .val (.ref b9), .unset, .unset, .unset, .unset, .unset, .unset, .unset, .unset] [(.int (0 : Int32)), (.ref b12), (.ref b12)])) (fun t k => XS.iconst X12.here hx rfl (hb hby at_49) k) ?_
  refine own_go (b := T12.setTop (mkF m 51 #[.val (.int pr), .val (.int qr), .val (.int rr), .val (.int sr), .val (.ref b1), .val (.ref b6), .val (.ref b9), .unset, .unset, .unset, .unset, .unset, .unset, .unset, .unset] [(.int rr), (.int (0 : Int32)), (.ref b12), (.ref b12)])) (fun t k => XS.iloadN X12.here hx rfl (hb hby at_50) rfl  k) ?_
  refine own_go (b := T12.setTop (mkF m 54 #[.val (.int pr), .val (.int qr), .val (.int rr), .val (.int sr), .val (.ref b1), .val (.ref b6), .val (.ref b9), .unset, .unset, .unset, .unset, .unset, .unset, .unset, .unset] [(.int (255 : Int32)), (.int rr), (.int (0 : Int32)), (.ref b12), (.ref b12)])) (fun t k => XS.sipush X12.here hx rfl (hb hby at_51) k) ?_
  refine own_go (b := T12.setTop (mkF m 55 #[.val (.int pr), .val (.int qr), .val (.int rr), .val (.int sr), .val (.ref b1), .val (.ref b6), .val (.ref b9), .unset, .unset, .unset, .unset, .unset, .unset, .unset, .unset] [(.int (rr &&& (255 : Int32))), (.int (0 : Int32)), (.ref b12), (.ref b12)])) (fun t k => XS.iand X12.here hx rfl (hb hby at_54) rfl k) ?_
  refine own_go (b := T12.setTop (mkF m 56 #[.val (.int pr), .val (.int qr), .val (.int rr), .val (.int sr), .val (.ref b1), .val (.ref b6), .val (.ref b9), .unset, .unset, .unset, .unset, .unset, .unset, .unset, .unset] [(.int ((rr &&& (255 : Int32)).toUInt32.toUInt16.toUInt32.toInt32)), (.int (0 : Int32)), (.ref b12), (.ref b12)])) (fun t k => XS.i2c X12.here hx rfl (hb hby at_55) rfl k) ?_
  obtain ⟨cl13, Ar13, qc13, Sz13, Ng13, Hs13, Ft13⟩ := id V_b12
  have hin13 : ¬ ((0 : Int32) < 0 ∨ cl13.slots.size ≤ ((0 : Int32)).toNatClampNeg) := inb_of Sz13 ⟨by decide, by decide⟩
  obtain ⟨T14, h14, X14, e14, W14, st14⟩ := stC X12 hx hZ e12 Ar13 (j := (0 : Int32)) hin13 (g := (mkF m 56 #[.val (.int pr), .val (.int qr), .val (.int rr), .val (.int sr), .val (.ref b1), .val (.ref b6), .val (.ref b9), .unset, .unset, .unset, .unset, .unset, .unset, .unset, .unset] [(.int ((rr &&& (255 : Int32)).toUInt32.toUInt16.toUInt32.toInt32)), (.int (0 : Int32)), (.ref b12), (.ref b12)])) rfl rfl (hb hby at_56)
  have V_b12_14 : Arv Z h14 b12 k12 .char (1 : Int32) [(.int (nar .char ((rr &&& (255 : Int32)).toUInt32.toUInt16.toUInt32.toInt32)))] (.int (0 : Int32)) := Arv.set Ar13 qc13 Sz13 Ng13 Hs13 Ft13 (fits_nar_char _) W14 0 rfl (Nat.le_of_ble_eq_true rfl)
  have Zs14 : n0 ≤ h14.size := Nat.le_trans Zs12 (Keep.of_wr W14).1
  have N14 := Fr.snoc X14 N10 g_b12
  have Ol14 := Ol12.wr W14 g_b12
  refine own_go (b := T14.setTop (mkF m 57 #[.val (.int pr), .val (.int qr), .val (.int rr), .val (.int sr), .val (.ref b1), .val (.ref b6), .val (.ref b9), .unset, .unset, .unset, .unset, .unset, .unset, .unset, .unset] [(.ref b12)])) st14 ?_
  refine own_go (b := T14.setTop (mkF m 59 #[.val (.int pr), .val (.int qr), .val (.int rr), .val (.int sr), .val (.ref b1), .val (.ref b6), .val (.ref b9), .val (.ref b12), .unset, .unset, .unset, .unset, .unset, .unset, .unset] [])) (fun t k => XS.astore X14.here hx rfl (hb hby at_57) rfl rfl (l' := #[.val (.int pr), .val (.int qr), .val (.int rr), .val (.int sr), .val (.ref b1), .val (.ref b6), .val (.ref b9), .val (.ref b12), .unset, .unset, .unset, .unset, .unset, .unset, .unset]) rfl k) ?_
  obtain ⟨T15, h15, X15, e15, E15, A15, D15, -, st15⟩ := newO X14 hx hZ hown (hw _ (List.mem_of_getElem? (i := 1) rfl)) (hw _ (List.mem_of_getElem? (i := 2) rfl)) (hw _ (List.mem_of_getElem? (i := 3) rfl)) e14 (g := (mkF m 59 #[.val (.int pr), .val (.int qr), .val (.int rr), .val (.int sr), .val (.ref b1), .val (.ref b6), .val (.ref b9), .val (.ref b12), .unset, .unset, .unset, .unset, .unset, .unset, .unset] [])) rfl (hb hby at_59) (by decide) (by decide)
  obtain ⟨b15, g15⟩ : ∃ z, z = h14.size := ⟨_, rfl⟩
  rw [← g15] at A15 D15 st15
  have g_b15 : n0 ≤ b15 := Nat.le_trans Zs14 (Nat.le_of_eq g15.symm)
  have Zs15 : n0 ≤ h15.size := Nat.le_trans Zs14 E15.1
  have Ol15 := Ol14.ext E15
  have F_coder_b15 : Fld Z h15 b15 "java/lang/String" "coder" "B" (.int (0 : Int32)) := D15 (Or.inr (hw _ (List.mem_of_getElem? (i := 27) rfl))) (ty := .byte) (by decide)
  have F_value_b15 : Fld Z h15 b15 "java/lang/String" "value" "[B" .null := D15 (Or.inr (hw _ (List.mem_of_getElem? (i := 29) rfl))) (ty := (.array .byte)) (by decide)
  refine own_go (b := T15.setTop (mkF m 62 #[.val (.int pr), .val (.int qr), .val (.int rr), .val (.int sr), .val (.ref b1), .val (.ref b6), .val (.ref b9), .val (.ref b12), .unset, .unset, .unset, .unset, .unset, .unset, .unset] [(.ref b15)])) st15 ?_
  refine own_go (b := T15.setTop (mkF m 63 #[.val (.int pr), .val (.int qr), .val (.int rr), .val (.int sr), .val (.ref b1), .val (.ref b6), .val (.ref b9), .val (.ref b12), .unset, .unset, .unset, .unset, .unset, .unset, .unset] [(.ref b15), (.ref b15)])) (fun t k => XS.dup X15.here hx rfl (hb hby at_62) rfl rfl k) ?_
  refine own_go (b := T15.setTop (mkF m 65 #[.val (.int pr), .val (.int qr), .val (.int rr), .val (.int sr), .val (.ref b1), .val (.ref b6), .val (.ref b9), .val (.ref b12), .unset, .unset, .unset, .unset, .unset, .unset, .unset] [(.ref b12), (.ref b15), (.ref b15)])) (fun t k => XS.aload X15.here hx rfl (hb hby at_63) rfl rfl k) ?_
  have hp17 : ∀ c ∈ ([(nar .char ((rr &&& (255 : Int32)).toUInt32.toUInt16.toUInt32.toInt32))] : List Int32), ¬ c < 0 ∧ ¬ (255 : Int32) < c := by
    intro c hc
    simp only [List.mem_cons, List.not_mem_nil, or_false] at hc
    rcases hc with rfl
    · exact own_and255 rr
  obtain ⟨_, _, ⟨T16, L16, k16, n16⟩, -, X16, ⟨Lc16, hQ16, l16, y16, z16⟩, st16⟩ := X15.specialBack hx (y := (⟨"java/lang/String", "<init>", "([C)V"⟩ : MethodName)) rfl hown (mvT hZ (hw _ (List.mem_of_getElem? (i := 4) rfl))) (mvT hZ (hw _ (List.mem_of_getElem? (i := 5) rfl))) (mvT hZ (hw _ (List.mem_of_getElem? (i := 6) rfl))) (by decide) (StrChars.Road.backV (W := 1) hZ hws (kI := 4) (hw _ (List.mem_of_getElem? (i := 2) rfl)) (cs := ([(nar .char ((rr &&& (255 : Int32)).toUInt32.toUInt16.toUInt32.toInt32))] : List Int32)) (bs := (([(nar .char ((rr &&& (255 : Int32)).toUInt32.toUInt16.toUInt32.toInt32))] : List Int32)).map (fun c => c.toInt8.toInt32)) (n := 1) g_b15 Zs15 A15 F_value_b15 F_coder_b15 (V_b12_14.ext E15) (O2.ext Ol15.2) P5 rfl rfl (by decide) (by decide) hp17 rfl (by decide) (by decide)) (g := (mkF m 65 #[.val (.int pr), .val (.int qr), .val (.int rr), .val (.int sr), .val (.ref b1), .val (.ref b6), .val (.ref b9), .val (.ref b12), .unset, .unset, .unset, .unset, .unset, .unset, .unset] [(.ref b12), (.ref b15), (.ref b15)])) rfl (by rw [hml]; rfl) (Steps.refl _) (a := b15) (argsL := [(.ref b12)]) (rest := [(.ref b15)]) (lenOf pd_1 rfl) rfl (by show 2 * 0 + _ ≤ _; exact Nat.le_of_eq rfl) (hb hby at_65) (fun _ _ => ⟨rfl, e15, (by decide : 7 + 1 ≤ _), (by decide : 19 + 1 ≤ _)⟩)
  dsimp only [Pt.U, Pt.locs, Pt.cells, Pt.slots] at X16 l16 y16 z16 st16 hQ16
  subst l16 y16 z16
  obtain ⟨rfl, N16q, K16, Es16, Cs16, t16, kb16, ua16, ub16, uc16, Vs16, Ks16⟩ := hQ16
  have Zs16 : n0 ≤ T16.heap.size := Nat.le_trans Zs15 K16.1
  have N16 := Fr.app N14 N16q
  have Ol16 := Ol15.keep K16 (allS g_b15 all0)
  refine own_tr (b := T16.setTop (mkF m 68 #[.val (.int pr), .val (.int qr), .val (.int rr), .val (.int sr), .val (.ref b1), .val (.ref b6), .val (.ref b9), .val (.ref b12), .unset, .unset, .unset, .unset, .unset, .unset, .unset] [(.ref b15)])) st16 ?_
  refine own_go (b := T16.setTop (mkF m 70 #[.val (.int pr), .val (.int qr), .val (.int rr), .val (.int sr), .val (.ref b1), .val (.ref b6), .val (.ref b9), .val (.ref b12), .val (.ref b15), .unset, .unset, .unset, .unset, .unset, .unset] [])) (fun t k => XS.astore X16.here hx rfl (hb hby at_68) rfl rfl (l' := #[.val (.int pr), .val (.int qr), .val (.int rr), .val (.int sr), .val (.ref b1), .val (.ref b6), .val (.ref b9), .val (.ref b12), .val (.ref b15), .unset, .unset, .unset, .unset, .unset, .unset]) rfl k) ?_
  refine own_go (b := T16.setTop (mkF m 71 #[.val (.int pr), .val (.int qr), .val (.int rr), .val (.int sr), .val (.ref b1), .val (.ref b6), .val (.ref b9), .val (.ref b12), .val (.ref b15), .unset, .unset, .unset, .unset, .unset, .unset] [(.int (1 : Int32))])) (fun t k => XS.iconst X16.here hx rfl (hb hby at_70) k) ?_
  obtain ⟨T18, h18, k18, X18, e18, E18, A18, st18⟩ := newP X16 hx hZ (hw _ (List.mem_of_getElem? (i := 0) rfl)) rfl (g := (mkF m 71 #[.val (.int pr), .val (.int qr), .val (.int rr), .val (.int sr), .val (.ref b1), .val (.ref b6), .val (.ref b9), .val (.ref b12), .val (.ref b15), .unset, .unset, .unset, .unset, .unset, .unset] [(.int (1 : Int32))])) rfl (hb hby at_71) rfl (by decide) (cap := 1) (by decide) (by decide) (by decide) (by decide)
  obtain ⟨b18, g18⟩ : ∃ z, z = T16.heap.size := ⟨_, rfl⟩
  rw [← g18] at A18 st18
  have g_b18 : n0 ≤ b18 := Nat.le_trans Zs16 (Nat.le_of_eq g18.symm)
  have Zs18 : n0 ≤ h18.size := Nat.le_trans Zs16 E18.1
  have Ol18 := Ol16.ext E18
  have V_b18 : Arv Z h18 b18 k18 .char (1 : Int32) [(.int (0 : Int32))] (.int (0 : Int32)) := (Arv.new A18 (by decide)).pad (pad_rep [] (.int (0 : Int32)) 1)
  refine own_go (b := T18.setTop (mkF m 73 #[.val (.int pr), .val (.int qr), .val (.int rr), .val (.int sr), .val (.ref b1), .val (.ref b6), .val (.ref b9), .val (.ref b12), .val (.ref b15), .unset, .unset, .unset, .unset, .unset, .unset] [(.ref b18)])) st18 ?_
  refine own_go (b := T18.setTop (mkF m 74 #[.val (.int pr), .val (.int qr), .val (.int rr), .val (.int sr), .val (.ref b1), .val (.ref b6), .val (.ref b9), .val (.ref b12), .val (.ref b15), .unset, .unset, .unset, .unset, .unset, .unset] [(.ref b18), (.ref b18)])) (fun t k => XS.dup X18.here hx rfl (hb hby at_73) rfl rfl k) ?_
  refine own_go (b := T18.setTop (mkF m 75 #[.val (.int pr), .val (.int qr), .val (.int rr), .val (.int sr), .val (.ref b1), .val (.ref b6), .val (.ref b9), .val (.ref b12), .val (.ref b15), .unset, .unset, .unset, .unset, .unset, .unset] [(.int (0 : Int32)), (.ref b18), (.ref b18)])) (fun t k => XS.iconst X18.here hx rfl (hb hby at_74) k) ?_
  refine own_go (b := T18.setTop (mkF m 76 #[.val (.int pr), .val (.int qr), .val (.int rr), .val (.int sr), .val (.ref b1), .val (.ref b6), .val (.ref b9), .val (.ref b12), .val (.ref b15), .unset, .unset, .unset, .unset, .unset, .unset] [(.int rr), (.int (0 : Int32)), (.ref b18), (.ref b18)])) (fun t k => XS.iloadN X18.here hx rfl (hb hby at_75) rfl  k) ?_
  refine own_go (b := T18.setTop (mkF m 78 #[.val (.int pr), .val (.int qr), .val (.int rr), .val (.int sr), .val (.ref b1), .val (.ref b6), .val (.ref b9), .val (.ref b12), .val (.ref b15), .unset, .unset, .unset, .unset, .unset, .unset] [(.int (8 : Int32)), (.int rr), (.int (0 : Int32)), (.ref b18), (.ref b18)])) (fun t k => XS.bipush X18.here hx rfl (hb hby at_76) k) ?_
  refine own_go (b := T18.setTop (mkF m 79 #[.val (.int pr), .val (.int qr), .val (.int rr), .val (.int sr), .val (.ref b1), .val (.ref b6), .val (.ref b9), .val (.ref b12), .val (.ref b15), .unset, .unset, .unset, .unset, .unset, .unset] [(.int ((rr.toUInt32 >>> ((8 : Int32) &&& 31).toUInt32).toInt32)), (.int (0 : Int32)), (.ref b18), (.ref b18)])) (fun t k => XS.iushr X18.here hx rfl (hb hby at_78) rfl k) ?_
  refine own_go (b := T18.setTop (mkF m 82 #[.val (.int pr), .val (.int qr), .val (.int rr), .val (.int sr), .val (.ref b1), .val (.ref b6), .val (.ref b9), .val (.ref b12), .val (.ref b15), .unset, .unset, .unset, .unset, .unset, .unset] [(.int (255 : Int32)), (.int ((rr.toUInt32 >>> ((8 : Int32) &&& 31).toUInt32).toInt32)), (.int (0 : Int32)), (.ref b18), (.ref b18)])) (fun t k => XS.sipush X18.here hx rfl (hb hby at_79) k) ?_
  refine own_go (b := T18.setTop (mkF m 83 #[.val (.int pr), .val (.int qr), .val (.int rr), .val (.int sr), .val (.ref b1), .val (.ref b6), .val (.ref b9), .val (.ref b12), .val (.ref b15), .unset, .unset, .unset, .unset, .unset, .unset] [(.int (((rr.toUInt32 >>> ((8 : Int32) &&& 31).toUInt32).toInt32) &&& (255 : Int32))), (.int (0 : Int32)), (.ref b18), (.ref b18)])) (fun t k => XS.iand X18.here hx rfl (hb hby at_82) rfl k) ?_
  refine own_go (b := T18.setTop (mkF m 84 #[.val (.int pr), .val (.int qr), .val (.int rr), .val (.int sr), .val (.ref b1), .val (.ref b6), .val (.ref b9), .val (.ref b12), .val (.ref b15), .unset, .unset, .unset, .unset, .unset, .unset] [(.int ((((rr.toUInt32 >>> ((8 : Int32) &&& 31).toUInt32).toInt32) &&& (255 : Int32)).toUInt32.toUInt16.toUInt32.toInt32)), (.int (0 : Int32)), (.ref b18), (.ref b18)])) (fun t k => XS.i2c X18.here hx rfl (hb hby at_83) rfl k) ?_
  obtain ⟨cl19, Ar19, qc19, Sz19, Ng19, Hs19, Ft19⟩ := id V_b18
  have hin19 : ¬ ((0 : Int32) < 0 ∨ cl19.slots.size ≤ ((0 : Int32)).toNatClampNeg) := inb_of Sz19 ⟨by decide, by decide⟩
  obtain ⟨T20, h20, X20, e20, W20, st20⟩ := stC X18 hx hZ e18 Ar19 (j := (0 : Int32)) hin19 (g := (mkF m 84 #[.val (.int pr), .val (.int qr), .val (.int rr), .val (.int sr), .val (.ref b1), .val (.ref b6), .val (.ref b9), .val (.ref b12), .val (.ref b15), .unset, .unset, .unset, .unset, .unset, .unset] [(.int ((((rr.toUInt32 >>> ((8 : Int32) &&& 31).toUInt32).toInt32) &&& (255 : Int32)).toUInt32.toUInt16.toUInt32.toInt32)), (.int (0 : Int32)), (.ref b18), (.ref b18)])) rfl rfl (hb hby at_84)
  have V_b18_20 : Arv Z h20 b18 k18 .char (1 : Int32) [(.int (nar .char ((((rr.toUInt32 >>> ((8 : Int32) &&& 31).toUInt32).toInt32) &&& (255 : Int32)).toUInt32.toUInt16.toUInt32.toInt32)))] (.int (0 : Int32)) := Arv.set Ar19 qc19 Sz19 Ng19 Hs19 Ft19 (fits_nar_char _) W20 0 rfl (Nat.le_of_ble_eq_true rfl)
  have Zs20 : n0 ≤ h20.size := Nat.le_trans Zs18 (Keep.of_wr W20).1
  have N20 := Fr.snoc X20 N16 g_b18
  have Ol20 := Ol18.wr W20 g_b18
  refine own_go (b := T20.setTop (mkF m 85 #[.val (.int pr), .val (.int qr), .val (.int rr), .val (.int sr), .val (.ref b1), .val (.ref b6), .val (.ref b9), .val (.ref b12), .val (.ref b15), .unset, .unset, .unset, .unset, .unset, .unset] [(.ref b18)])) st20 ?_
  refine own_go (b := T20.setTop (mkF m 87 #[.val (.int pr), .val (.int qr), .val (.int rr), .val (.int sr), .val (.ref b1), .val (.ref b6), .val (.ref b9), .val (.ref b12), .val (.ref b15), .val (.ref b18), .unset, .unset, .unset, .unset, .unset] [])) (fun t k => XS.astore X20.here hx rfl (hb hby at_85) rfl rfl (l' := #[.val (.int pr), .val (.int qr), .val (.int rr), .val (.int sr), .val (.ref b1), .val (.ref b6), .val (.ref b9), .val (.ref b12), .val (.ref b15), .val (.ref b18), .unset, .unset, .unset, .unset, .unset]) rfl k) ?_
  obtain ⟨T21, h21, X21, e21, E21, A21, D21, -, st21⟩ := newO X20 hx hZ hown (hw _ (List.mem_of_getElem? (i := 1) rfl)) (hw _ (List.mem_of_getElem? (i := 2) rfl)) (hw _ (List.mem_of_getElem? (i := 3) rfl)) e20 (g := (mkF m 87 #[.val (.int pr), .val (.int qr), .val (.int rr), .val (.int sr), .val (.ref b1), .val (.ref b6), .val (.ref b9), .val (.ref b12), .val (.ref b15), .val (.ref b18), .unset, .unset, .unset, .unset, .unset] [])) rfl (hb hby at_87) (by decide) (by decide)
  obtain ⟨b21, g21⟩ : ∃ z, z = h20.size := ⟨_, rfl⟩
  rw [← g21] at A21 D21 st21
  have g_b21 : n0 ≤ b21 := Nat.le_trans Zs20 (Nat.le_of_eq g21.symm)
  have Zs21 : n0 ≤ h21.size := Nat.le_trans Zs20 E21.1
  have Ol21 := Ol20.ext E21
  have F_coder_b21 : Fld Z h21 b21 "java/lang/String" "coder" "B" (.int (0 : Int32)) := D21 (Or.inr (hw _ (List.mem_of_getElem? (i := 27) rfl))) (ty := .byte) (by decide)
  have F_value_b21 : Fld Z h21 b21 "java/lang/String" "value" "[B" .null := D21 (Or.inr (hw _ (List.mem_of_getElem? (i := 29) rfl))) (ty := (.array .byte)) (by decide)
  refine own_go (b := T21.setTop (mkF m 90 #[.val (.int pr), .val (.int qr), .val (.int rr), .val (.int sr), .val (.ref b1), .val (.ref b6), .val (.ref b9), .val (.ref b12), .val (.ref b15), .val (.ref b18), .unset, .unset, .unset, .unset, .unset] [(.ref b21)])) st21 ?_
  refine own_go (b := T21.setTop (mkF m 91 #[.val (.int pr), .val (.int qr), .val (.int rr), .val (.int sr), .val (.ref b1), .val (.ref b6), .val (.ref b9), .val (.ref b12), .val (.ref b15), .val (.ref b18), .unset, .unset, .unset, .unset, .unset] [(.ref b21), (.ref b21)])) (fun t k => XS.dup X21.here hx rfl (hb hby at_90) rfl rfl k) ?_
  refine own_go (b := T21.setTop (mkF m 93 #[.val (.int pr), .val (.int qr), .val (.int rr), .val (.int sr), .val (.ref b1), .val (.ref b6), .val (.ref b9), .val (.ref b12), .val (.ref b15), .val (.ref b18), .unset, .unset, .unset, .unset, .unset] [(.ref b18), (.ref b21), (.ref b21)])) (fun t k => XS.aload X21.here hx rfl (hb hby at_91) rfl rfl k) ?_
  have hp23 : ∀ c ∈ ([(nar .char ((((rr.toUInt32 >>> ((8 : Int32) &&& 31).toUInt32).toInt32) &&& (255 : Int32)).toUInt32.toUInt16.toUInt32.toInt32))] : List Int32), ¬ c < 0 ∧ ¬ (255 : Int32) < c := by
    intro c hc
    simp only [List.mem_cons, List.not_mem_nil, or_false] at hc
    rcases hc with rfl
    · exact own_and255 ((rr.toUInt32 >>> ((8 : Int32) &&& 31).toUInt32).toInt32)
  obtain ⟨_, _, ⟨T22, L22, k22, n22⟩, -, X22, ⟨Lc22, hQ22, l22, y22, z22⟩, st22⟩ := X21.specialBack hx (y := (⟨"java/lang/String", "<init>", "([C)V"⟩ : MethodName)) rfl hown (mvT hZ (hw _ (List.mem_of_getElem? (i := 4) rfl))) (mvT hZ (hw _ (List.mem_of_getElem? (i := 5) rfl))) (mvT hZ (hw _ (List.mem_of_getElem? (i := 6) rfl))) (by decide) (StrChars.Road.backV (W := 1) hZ hws (kI := 4) (hw _ (List.mem_of_getElem? (i := 2) rfl)) (cs := ([(nar .char ((((rr.toUInt32 >>> ((8 : Int32) &&& 31).toUInt32).toInt32) &&& (255 : Int32)).toUInt32.toUInt16.toUInt32.toInt32))] : List Int32)) (bs := (([(nar .char ((((rr.toUInt32 >>> ((8 : Int32) &&& 31).toUInt32).toInt32) &&& (255 : Int32)).toUInt32.toUInt16.toUInt32.toInt32))] : List Int32)).map (fun c => c.toInt8.toInt32)) (n := 1) g_b21 Zs21 A21 F_value_b21 F_coder_b21 (V_b18_20.ext E21) (O2.ext Ol21.2) P5 rfl rfl (by decide) (by decide) hp23 rfl (by decide) (by decide)) (g := (mkF m 93 #[.val (.int pr), .val (.int qr), .val (.int rr), .val (.int sr), .val (.ref b1), .val (.ref b6), .val (.ref b9), .val (.ref b12), .val (.ref b15), .val (.ref b18), .unset, .unset, .unset, .unset, .unset] [(.ref b18), (.ref b21), (.ref b21)])) rfl (by rw [hml]; rfl) (Steps.refl _) (a := b21) (argsL := [(.ref b18)]) (rest := [(.ref b21)]) (lenOf pd_1 rfl) rfl (by show 2 * 0 + _ ≤ _; exact Nat.le_of_eq rfl) (hb hby at_93) (fun _ _ => ⟨rfl, e21, (by decide : 10 + 1 ≤ _), (by decide : 25 + 1 ≤ _)⟩)
  dsimp only [Pt.U, Pt.locs, Pt.cells, Pt.slots] at X22 l22 y22 z22 st22 hQ22
  subst l22 y22 z22
  obtain ⟨rfl, N22q, K22, Es22, Cs22, t22, kb22, ua22, ub22, uc22, Vs22, Ks22⟩ := hQ22
  have Zs22 : n0 ≤ T22.heap.size := Nat.le_trans Zs21 K22.1
  have N22 := Fr.app N20 N22q
  have Ol22 := Ol21.keep K22 (allS g_b21 all0)
  refine own_tr (b := T22.setTop (mkF m 96 #[.val (.int pr), .val (.int qr), .val (.int rr), .val (.int sr), .val (.ref b1), .val (.ref b6), .val (.ref b9), .val (.ref b12), .val (.ref b15), .val (.ref b18), .unset, .unset, .unset, .unset, .unset] [(.ref b21)])) st22 ?_
  refine own_go (b := T22.setTop (mkF m 98 #[.val (.int pr), .val (.int qr), .val (.int rr), .val (.int sr), .val (.ref b1), .val (.ref b6), .val (.ref b9), .val (.ref b12), .val (.ref b15), .val (.ref b18), .val (.ref b21), .unset, .unset, .unset, .unset] [])) (fun t k => XS.astore X22.here hx rfl (hb hby at_96) rfl rfl (l' := #[.val (.int pr), .val (.int qr), .val (.int rr), .val (.int sr), .val (.ref b1), .val (.ref b6), .val (.ref b9), .val (.ref b12), .val (.ref b15), .val (.ref b18), .val (.ref b21), .unset, .unset, .unset, .unset]) rfl k) ?_
  obtain ⟨T24, h24, X24, e24, E24, A24, D24, -, st24⟩ := newO X22 hx hZ hown (hw _ (List.mem_of_getElem? (i := 30) rfl)) (hw _ (List.mem_of_getElem? (i := 31) rfl)) (hw _ (List.mem_of_getElem? (i := 32) rfl)) rfl (g := (mkF m 98 #[.val (.int pr), .val (.int qr), .val (.int rr), .val (.int sr), .val (.ref b1), .val (.ref b6), .val (.ref b9), .val (.ref b12), .val (.ref b15), .val (.ref b18), .val (.ref b21), .unset, .unset, .unset, .unset] [])) rfl (hb hby at_98) (by decide) (by decide)
  obtain ⟨b24, g24⟩ : ∃ z, z = T22.heap.size := ⟨_, rfl⟩
  rw [← g24] at A24 D24 st24
  have g_b24 : n0 ≤ b24 := Nat.le_trans Zs22 (Nat.le_of_eq g24.symm)
  have Zs24 : n0 ≤ h24.size := Nat.le_trans Zs22 E24.1
  have Ol24 := Ol22.ext E24
  have F_target_b24 : Fld Z h24 b24 "com/example/vertumnus/vertumnus/interactions/constraints/SameTarget" "target" "Ljava/lang/Object;" .null := D24 (Or.inr (hw _ (List.mem_of_getElem? (i := 38) rfl))) (ty := (.object "java/lang/Object")) (by decide)
  have F_name_b24 : Fld Z h24 b24 "com/example/vertumnus/vertumnus/interactions/constraints/SameTarget" "name" "Ljava/lang/String;" .null := D24 (Or.inr (hw _ (List.mem_of_getElem? (i := 40) rfl))) (ty := (.object "java/lang/String")) (by decide)
  refine own_go (b := T24.setTop (mkF m 101 #[.val (.int pr), .val (.int qr), .val (.int rr), .val (.int sr), .val (.ref b1), .val (.ref b6), .val (.ref b9), .val (.ref b12), .val (.ref b15), .val (.ref b18), .val (.ref b21), .unset, .unset, .unset, .unset] [(.ref b24)])) st24 ?_
  refine own_go (b := T24.setTop (mkF m 102 #[.val (.int pr), .val (.int qr), .val (.int rr), .val (.int sr), .val (.ref b1), .val (.ref b6), .val (.ref b9), .val (.ref b12), .val (.ref b15), .val (.ref b18), .val (.ref b21), .unset, .unset, .unset, .unset] [(.ref b24), (.ref b24)])) (fun t k => XS.dup X24.here hx rfl (hb hby at_101) rfl rfl k) ?_
  refine own_go (b := T24.setTop (mkF m 104 #[.val (.int pr), .val (.int qr), .val (.int rr), .val (.int sr), .val (.ref b1), .val (.ref b6), .val (.ref b9), .val (.ref b12), .val (.ref b15), .val (.ref b18), .val (.ref b21), .unset, .unset, .unset, .unset] [(.ref b6), (.ref b24), (.ref b24)])) (fun t k => XS.aload X24.here hx rfl (hb hby at_102) rfl rfl k) ?_
  refine own_go (b := T24.setTop (mkF m 106 #[.val (.int pr), .val (.int qr), .val (.int rr), .val (.int sr), .val (.ref b1), .val (.ref b6), .val (.ref b9), .val (.ref b12), .val (.ref b15), .val (.ref b18), .val (.ref b21), .unset, .unset, .unset, .unset] [(.ref b21), (.ref b6), (.ref b24), (.ref b24)])) (fun t k => XS.aload X24.here hx rfl (hb hby at_104) rfl rfl k) ?_
  obtain ⟨_, _, ⟨T25, L25, k25, n25⟩, -, X25, ⟨Lc25, hQ25, l25, y25, z25⟩, st25⟩ := X24.specialBack hx (y := (⟨"com/example/vertumnus/vertumnus/interactions/constraints/SameTarget", "<init>", "(Ljava/lang/Object;Ljava/lang/String;)V"⟩ : MethodName)) rfl hown (mvT hZ (hw _ (List.mem_of_getElem? (i := 33) rfl))) (mvT hZ (hw _ (List.mem_of_getElem? (i := 34) rfl))) (mvT hZ (hw _ (List.mem_of_getElem? (i := 35) rfl))) (by decide) (backOf (W := 1) (rm7 l Z a0 hw [] b24 b6 b21  h24 n0 Zs24 A24 F_target_b24 F_name_b24 g_b24) hZ (hw _ (List.mem_of_getElem? (i := 35) rfl)) (hw _ (List.mem_of_getElem? (i := 32) rfl)) (by decide) (by decide)) (g := (mkF m 106 #[.val (.int pr), .val (.int qr), .val (.int rr), .val (.int sr), .val (.ref b1), .val (.ref b6), .val (.ref b9), .val (.ref b12), .val (.ref b15), .val (.ref b18), .val (.ref b21), .unset, .unset, .unset, .unset] [(.ref b21), (.ref b6), (.ref b24), (.ref b24)])) rfl (by rw [hml]; rfl) (Steps.refl _) (a := b24) (argsL := [(.ref b6), (.ref b21)]) (rest := [(.ref b24)]) (lenOf pd_2 rfl) rfl (by show 2 * 0 + _ ≤ _; exact Nat.le_of_eq rfl) (hb hby at_106) (fun _ _ => ⟨rfl, e24, (by decide : 12 + 0 ≤ _), (by decide : 28 + 0 ≤ _)⟩)
  dsimp only [Pt.U, Pt.locs, Pt.cells, Pt.slots] at X25 l25 y25 z25 st25 hQ25
  subst l25 y25 z25
  obtain ⟨rfl, N25q, K25, Ek25, Fk25⟩ := hQ25
  have Zs25 : n0 ≤ T25.heap.size := Nat.le_trans Zs24 K25.1
  have N25 := Fr.app N22 N25q
  have Ol25 := Ol24.keep K25 (allS g_b24 all0)
  refine own_tr (b := T25.setTop (mkF m 109 #[.val (.int pr), .val (.int qr), .val (.int rr), .val (.int sr), .val (.ref b1), .val (.ref b6), .val (.ref b9), .val (.ref b12), .val (.ref b15), .val (.ref b18), .val (.ref b21), .unset, .unset, .unset, .unset] [(.ref b24)])) st25 ?_
  refine own_go (b := T25.setTop (mkF m 111 #[.val (.int pr), .val (.int qr), .val (.int rr), .val (.int sr), .val (.ref b1), .val (.ref b6), .val (.ref b9), .val (.ref b12), .val (.ref b15), .val (.ref b18), .val (.ref b21), .val (.ref b24), .unset, .unset, .unset] [])) (fun t k => XS.astore X25.here hx rfl (hb hby at_109) rfl rfl (l' := #[.val (.int pr), .val (.int qr), .val (.int rr), .val (.int sr), .val (.ref b1), .val (.ref b6), .val (.ref b9), .val (.ref b12), .val (.ref b15), .val (.ref b18), .val (.ref b21), .val (.ref b24), .unset, .unset, .unset]) rfl k) ?_
  refine own_go (b := T25.setTop (mkF m 112 #[.val (.int pr), .val (.int qr), .val (.int rr), .val (.int sr), .val (.ref b1), .val (.ref b6), .val (.ref b9), .val (.ref b12), .val (.ref b15), .val (.ref b18), .val (.ref b21), .val (.ref b24), .unset, .unset, .unset] [(.int sr)])) (fun t k => XS.iloadN X25.here hx rfl (hb hby at_111) rfl  k) ?_
  refine own_go (b := T25.setTop (mkF m 114 #[.val (.int pr), .val (.int qr), .val (.int rr), .val (.int sr), .val (.ref b1), .val (.ref b6), .val (.ref b9), .val (.ref b12), .val (.ref b15), .val (.ref b18), .val (.ref b21), .val (.ref b24), .unset, .unset, .unset] [(.int (2147483647 : Int32)), (.int sr)])) (fun t k => X25.ldcInt hx hown (mvT hZ (hw _ (List.mem_of_getElem? (i := 41) rfl))) (g := (mkF m 112 #[.val (.int pr), .val (.int qr), .val (.int rr), .val (.int sr), .val (.ref b1), .val (.ref b6), .val (.ref b9), .val (.ref b12), .val (.ref b15), .val (.ref b18), .val (.ref b21), .val (.ref b24), .unset, .unset, .unset] [(.int sr)])) rfl (hb hby at_112) t k) ?_
  refine own_go (b := T25.setTop (mkF m 115 #[.val (.int pr), .val (.int qr), .val (.int rr), .val (.int sr), .val (.ref b1), .val (.ref b6), .val (.ref b9), .val (.ref b12), .val (.ref b15), .val (.ref b18), .val (.ref b21), .val (.ref b24), .unset, .unset, .unset] [(.int (sr &&& (2147483647 : Int32)))])) (fun t k => XS.iand X25.here hx rfl (hb hby at_114) rfl k) ?_
  refine own_go (b := T25.setTop (mkF m 116 #[.val (.int pr), .val (.int qr), .val (.int rr), .val (.int sr), .val (.ref b1), .val (.ref b6), .val (.ref b9), .val (.ref b12), .val (.ref b15), .val (.ref b18), .val (.ref b21), .val (.ref b24), .unset, .unset, .unset] [(.int (5 : Int32)), (.int (sr &&& (2147483647 : Int32)))])) (fun t k => XS.iconst X25.here hx rfl (hb hby at_115) k) ?_
  refine own_go (b := T25.setTop (mkF m 117 #[.val (.int pr), .val (.int qr), .val (.int rr), .val (.int sr), .val (.ref b1), .val (.ref b6), .val (.ref b9), .val (.ref b12), .val (.ref b15), .val (.ref b18), .val (.ref b21), .val (.ref b24), .unset, .unset, .unset] [(.int ((sr &&& (2147483647 : Int32)) % (5 : Int32)))])) (fun t k => iremM X25 hx rfl (hb hby at_116) rfl (by decide) k) ?_
  refine own_go (b := T25.setTop (mkF m 119 #[.val (.int pr), .val (.int qr), .val (.int rr), .val (.int sr), .val (.ref b1), .val (.ref b6), .val (.ref b9), .val (.ref b12), .val (.ref b15), .val (.ref b18), .val (.ref b21), .val (.ref b24), .val (.int ((sr &&& (2147483647 : Int32)) % (5 : Int32))), .unset, .unset] [])) (fun t k => XS.istore X25.here hx rfl (hb hby at_117) rfl (l' := #[.val (.int pr), .val (.int qr), .val (.int rr), .val (.int sr), .val (.ref b1), .val (.ref b6), .val (.ref b9), .val (.ref b12), .val (.ref b15), .val (.ref b18), .val (.ref b21), .val (.ref b24), .val (.int ((sr &&& (2147483647 : Int32)) % (5 : Int32))), .unset, .unset]) rfl k) ?_
  refine own_go (b := T25.setTop (mkF m 121 #[.val (.int pr), .val (.int qr), .val (.int rr), .val (.int sr), .val (.ref b1), .val (.ref b6), .val (.ref b9), .val (.ref b12), .val (.ref b15), .val (.ref b18), .val (.ref b21), .val (.ref b24), .val (.int ((sr &&& (2147483647 : Int32)) % (5 : Int32))), .unset, .unset] [(.int ((sr &&& (2147483647 : Int32)) % (5 : Int32)))])) (fun t k => XS.iload X25.here hx rfl (hb hby at_119) rfl  k) ?_
  by_cases hc26 : ((sr &&& (2147483647 : Int32)) % (5 : Int32)) = (0 : Int32)
  · refine own_go (b := T25.setTop (mkF m 124 #[.val (.int pr), .val (.int qr), .val (.int rr), .val (.int sr), .val (.ref b1), .val (.ref b6), .val (.ref b9), .val (.ref b12), .val (.ref b15), .val (.ref b18), .val (.ref b21), .val (.ref b24), .val (.int ((sr &&& (2147483647 : Int32)) % (5 : Int32))), .unset, .unset] [])) (fun t k => XS.ifNo X25.here hx rfl (hb hby at_121) rfl ((if0 _ _).trans (teq hc26).2) k) ?_
    refine own_go (b := T25.setTop (mkF m 126 #[.val (.int pr), .val (.int qr), .val (.int rr), .val (.int sr), .val (.ref b1), .val (.ref b6), .val (.ref b9), .val (.ref b12), .val (.ref b15), .val (.ref b18), .val (.ref b21), .val (.ref b24), .val (.int ((sr &&& (2147483647 : Int32)) % (5 : Int32))), .unset, .unset] [(.ref b6)])) (fun t k => XS.aload X25.here hx rfl (hb hby at_124) rfl rfl k) ?_
    refine own_go (b := T25.setTop (mkF m 128 #[.val (.int pr), .val (.int qr), .val (.int rr), .val (.int sr), .val (.ref b1), .val (.ref b6), .val (.ref b9), .val (.ref b12), .val (.ref b15), .val (.ref b18), .val (.ref b21), .val (.ref b24), .val (.int ((sr &&& (2147483647 : Int32)) % (5 : Int32))), .val (.ref b6), .unset] [])) (fun t k => XS.astore X25.here hx rfl (hb hby at_126) rfl rfl (l' := #[.val (.int pr), .val (.int qr), .val (.int rr), .val (.int sr), .val (.ref b1), .val (.ref b6), .val (.ref b9), .val (.ref b12), .val (.ref b15), .val (.ref b18), .val (.ref b21), .val (.ref b24), .val (.int ((sr &&& (2147483647 : Int32)) % (5 : Int32))), .val (.ref b6), .unset]) rfl k) ?_
    refine own_go (b := T25.setTop (mkF m 173 #[.val (.int pr), .val (.int qr), .val (.int rr), .val (.int sr), .val (.ref b1), .val (.ref b6), .val (.ref b9), .val (.ref b12), .val (.ref b15), .val (.ref b18), .val (.ref b21), .val (.ref b24), .val (.int ((sr &&& (2147483647 : Int32)) % (5 : Int32))), .val (.ref b6), .unset] [])) (fun t k => XS.goto X25.here hx rfl (pc0 := 128) (pc' := 173) rfl (hb hby at_128) (by decide) (by decide) k) ?_
    refine own_go (b := T25.setTop (mkF m 175 #[.val (.int pr), .val (.int qr), .val (.int rr), .val (.int sr), .val (.ref b1), .val (.ref b6), .val (.ref b9), .val (.ref b12), .val (.ref b15), .val (.ref b18), .val (.ref b21), .val (.ref b24), .val (.int ((sr &&& (2147483647 : Int32)) % (5 : Int32))), .val (.ref b6), .unset] [(.ref b24)])) (fun t k => XS.aload X25.here hx rfl (hb hby at_173) rfl rfl k) ?_
    refine own_go (b := T25.setTop (mkF m 177 #[.val (.int pr), .val (.int qr), .val (.int rr), .val (.int sr), .val (.ref b1), .val (.ref b6), .val (.ref b9), .val (.ref b12), .val (.ref b15), .val (.ref b18), .val (.ref b21), .val (.ref b24), .val (.int ((sr &&& (2147483647 : Int32)) % (5 : Int32))), .val (.ref b6), .unset] [(.ref b6), (.ref b24)])) (fun t k => XS.aload X25.here hx rfl (hb hby at_175) rfl rfl k) ?_
    obtain ⟨cq27, kq27, q27a, q27b, q27c⟩ := isOf hZ rfl Ek25
    obtain ⟨_, _, ⟨T27, L27, k27, n27⟩, -, X27, ⟨Lc27, hQ27, l27, y27, z27⟩, st27⟩ := X25.virtualBack hx (y := (⟨"com/example/vertumnus/vertumnus/interactions/constraints/SameTarget", "isSatisfiedBy", "(Ljava/lang/Object;)Z"⟩ : MethodName)) (z := (⟨"com/example/vertumnus/vertumnus/interactions/constraints/SameTarget", "isSatisfiedBy", "(Ljava/lang/Object;)Z"⟩ : MethodName)) hown (mvT hZ (hw _ (List.mem_of_getElem? (i := 42) rfl))) (mvT hZ (hw _ (List.mem_of_getElem? (i := 43) rfl))) (notFace_of_selects (args := #[]) (mvT hZ (hw _ (List.mem_of_getElem? (i := 45) rfl)))) (mvT hZ (hw _ (List.mem_of_getElem? (i := 45) rfl))) (mvT hZ (hw _ (List.mem_of_getElem? (i := 44) rfl))) (by decide) (backOf (W := 0) (rm8 l Z a0 hw [] b24 b6 b6 T25.heap n0 Zs25 Fk25) hZ (hw _ (List.mem_of_getElem? (i := 46) rfl)) (hw _ (List.mem_of_getElem? (i := 32) rfl)) (by decide) (by decide)) q27a q27c (g := (mkF m 177 #[.val (.int pr), .val (.int qr), .val (.int rr), .val (.int sr), .val (.ref b1), .val (.ref b6), .val (.ref b9), .val (.ref b12), .val (.ref b15), .val (.ref b18), .val (.ref b21), .val (.ref b24), .val (.int ((sr &&& (2147483647 : Int32)) % (5 : Int32))), .val (.ref b6), .unset] [(.ref b6), (.ref b24)])) rfl (by rw [hml]; rfl) (Steps.refl _) (argsL := [(.ref b6)]) (rest := []) (lenOf pd_3 rfl) rfl (by show 2 * 0 + _ ≤ _; exact Nat.le_of_eq rfl) (hb hby at_177) (fun _ _ => ⟨rfl, rfl, (by decide : 12 + 0 ≤ _), (by decide : 28 + 0 ≤ _)⟩)
    dsimp only [Pt.U, Pt.locs, Pt.cells, Pt.slots] at X27 l27 y27 z27 st27 hQ27
    subst l27 y27 z27
    obtain ⟨rfl, N27q, e27⟩ := hQ27
    have N27 := Fr.app N25 N27q
    refine own_tr (b := T27.setTop (mkF m 180 #[.val (.int pr), .val (.int qr), .val (.int rr), .val (.int sr), .val (.ref b1), .val (.ref b6), .val (.ref b9), .val (.ref b12), .val (.ref b15), .val (.ref b18), .val (.ref b21), .val (.ref b24), .val (.int ((sr &&& (2147483647 : Int32)) % (5 : Int32))), .val (.ref b6), .unset] [(.int (if b6 = b6 then 1 else 0))])) st27 ?_
    rw [if_pos rfl]
    refine own_go (b := T27.setTop (mkF m 182 #[.val (.int pr), .val (.int qr), .val (.int rr), .val (.int sr), .val (.ref b1), .val (.ref b6), .val (.ref b9), .val (.ref b12), .val (.ref b15), .val (.ref b18), .val (.ref b21), .val (.ref b24), .val (.int ((sr &&& (2147483647 : Int32)) % (5 : Int32))), .val (.ref b6), .val (.int (1 : Int32))] [])) (fun t k => XS.istore X27.here hx rfl (hb hby at_180) rfl (l' := #[.val (.int pr), .val (.int qr), .val (.int rr), .val (.int sr), .val (.ref b1), .val (.ref b6), .val (.ref b9), .val (.ref b12), .val (.ref b15), .val (.ref b18), .val (.ref b21), .val (.ref b24), .val (.int ((sr &&& (2147483647 : Int32)) % (5 : Int32))), .val (.ref b6), .val (.int (1 : Int32))]) rfl k) ?_
    refine own_go (b := T27.setTop (mkF m 184 #[.val (.int pr), .val (.int qr), .val (.int rr), .val (.int sr), .val (.ref b1), .val (.ref b6), .val (.ref b9), .val (.ref b12), .val (.ref b15), .val (.ref b18), .val (.ref b21), .val (.ref b24), .val (.int ((sr &&& (2147483647 : Int32)) % (5 : Int32))), .val (.ref b6), .val (.int (1 : Int32))] [(.int (1 : Int32))])) (fun t k => XS.iload X27.here hx rfl (hb hby at_182) rfl  k) ?_
    refine own_go (b := T27.setTop (mkF m 186 #[.val (.int pr), .val (.int qr), .val (.int rr), .val (.int sr), .val (.ref b1), .val (.ref b6), .val (.ref b9), .val (.ref b12), .val (.ref b15), .val (.ref b18), .val (.ref b21), .val (.ref b24), .val (.int ((sr &&& (2147483647 : Int32)) % (5 : Int32))), .val (.ref b6), .val (.int (1 : Int32))] [(.int ((sr &&& (2147483647 : Int32)) % (5 : Int32))), (.int (1 : Int32))])) (fun t k => XS.iload X27.here hx rfl (hb hby at_184) rfl  k) ?_
    refine own_go (b := T27.setTop (mkF m 189 #[.val (.int pr), .val (.int qr), .val (.int rr), .val (.int sr), .val (.ref b1), .val (.ref b6), .val (.ref b9), .val (.ref b12), .val (.ref b15), .val (.ref b18), .val (.ref b21), .val (.ref b24), .val (.int ((sr &&& (2147483647 : Int32)) % (5 : Int32))), .val (.ref b6), .val (.int (1 : Int32))] [(.int (1 : Int32))])) (fun t k => XS.ifNo X27.here hx rfl (hb hby at_186) rfl ((if0 _ _).trans (teq hc26).2) k) ?_
    refine own_go (b := T27.setTop (mkF m 190 #[.val (.int pr), .val (.int qr), .val (.int rr), .val (.int sr), .val (.ref b1), .val (.ref b6), .val (.ref b9), .val (.ref b12), .val (.ref b15), .val (.ref b18), .val (.ref b21), .val (.ref b24), .val (.int ((sr &&& (2147483647 : Int32)) % (5 : Int32))), .val (.ref b6), .val (.int (1 : Int32))] [(.int (1 : Int32)), (.int (1 : Int32))])) (fun t k => XS.iconst X27.here hx rfl (hb hby at_189) k) ?_
    refine own_go (b := T27.setTop (mkF m 194 #[.val (.int pr), .val (.int qr), .val (.int rr), .val (.int sr), .val (.ref b1), .val (.ref b6), .val (.ref b9), .val (.ref b12), .val (.ref b15), .val (.ref b18), .val (.ref b21), .val (.ref b24), .val (.int ((sr &&& (2147483647 : Int32)) % (5 : Int32))), .val (.ref b6), .val (.int (1 : Int32))] [(.int (1 : Int32)), (.int (1 : Int32))])) (fun t k => XS.goto X27.here hx rfl (pc0 := 190) (pc' := 194) rfl (hb hby at_190) (by decide) (by decide) k) ?_
    refine own_go (b := T27.setTop (mkF m 197 #[.val (.int pr), .val (.int qr), .val (.int rr), .val (.int sr), .val (.ref b1), .val (.ref b6), .val (.ref b9), .val (.ref b12), .val (.ref b15), .val (.ref b18), .val (.ref b21), .val (.ref b24), .val (.int ((sr &&& (2147483647 : Int32)) % (5 : Int32))), .val (.ref b6), .val (.int (1 : Int32))] [])) (fun t k => XS.icmpNo X27.here hx rfl (hb hby at_194) rfl (teq (rfl : (1 : Int32) = (1 : Int32))).2 k) ?_
    refine own_go (b := T27.setTop (mkF m 199 #[.val (.int pr), .val (.int qr), .val (.int rr), .val (.int sr), .val (.ref b1), .val (.ref b6), .val (.ref b9), .val (.ref b12), .val (.ref b15), .val (.ref b18), .val (.ref b21), .val (.ref b24), .val (.int ((sr &&& (2147483647 : Int32)) % (5 : Int32))), .val (.ref b6), .val (.int (1 : Int32))] [(.ref b24)])) (fun t k => XS.aload X27.here hx rfl (hb hby at_197) rfl rfl k) ?_
    obtain ⟨cq28, kq28, q28a, q28b, q28c⟩ := isOf hZ e27 Ek25
    obtain ⟨_, _, ⟨T28, L28, k28, n28⟩, -, X28, ⟨Lc28, hQ28, l28, y28, z28⟩, st28⟩ := X27.virtualBack hx (y := (⟨"com/example/vertumnus/vertumnus/interactions/constraints/SameTarget", "target", "()Ljava/lang/Object;"⟩ : MethodName)) (z := (⟨"com/example/vertumnus/vertumnus/interactions/constraints/SameTarget", "target", "()Ljava/lang/Object;"⟩ : MethodName)) hown (mvT hZ (hw _ (List.mem_of_getElem? (i := 47) rfl))) (mvT hZ (hw _ (List.mem_of_getElem? (i := 48) rfl))) (notFace_of_selects (args := #[]) (mvT hZ (hw _ (List.mem_of_getElem? (i := 50) rfl)))) (mvT hZ (hw _ (List.mem_of_getElem? (i := 50) rfl))) (mvT hZ (hw _ (List.mem_of_getElem? (i := 49) rfl))) (by decide) (backOf (W := 0) (rm9 l Z a0 hw [] b24 b6 T25.heap n0 Zs25 Fk25) hZ (hw _ (List.mem_of_getElem? (i := 51) rfl)) (hw _ (List.mem_of_getElem? (i := 32) rfl)) (by decide) (by decide)) q28a q28c (g := (mkF m 199 #[.val (.int pr), .val (.int qr), .val (.int rr), .val (.int sr), .val (.ref b1), .val (.ref b6), .val (.ref b9), .val (.ref b12), .val (.ref b15), .val (.ref b18), .val (.ref b21), .val (.ref b24), .val (.int ((sr &&& (2147483647 : Int32)) % (5 : Int32))), .val (.ref b6), .val (.int (1 : Int32))] [(.ref b24)])) rfl (by rw [hml]; rfl) (Steps.refl _) (argsL := []) (rest := []) (lenOf pd_4 rfl) rfl (by show 2 * 0 + _ ≤ _; exact Nat.le_of_eq rfl) (hb hby at_199) (fun _ _ => ⟨rfl, e27, (by decide : 12 + 0 ≤ _), (by decide : 28 + 0 ≤ _)⟩)
    dsimp only [Pt.U, Pt.locs, Pt.cells, Pt.slots] at X28 l28 y28 z28 st28 hQ28
    subst l28 y28 z28
    obtain ⟨rfl, N28q, e28⟩ := hQ28
    have N28 := Fr.app N27 N28q
    refine own_tr (b := T28.setTop (mkF m 202 #[.val (.int pr), .val (.int qr), .val (.int rr), .val (.int sr), .val (.ref b1), .val (.ref b6), .val (.ref b9), .val (.ref b12), .val (.ref b15), .val (.ref b18), .val (.ref b21), .val (.ref b24), .val (.int ((sr &&& (2147483647 : Int32)) % (5 : Int32))), .val (.ref b6), .val (.int (1 : Int32))] [(.ref b6)])) st28 ?_
    refine own_go (b := T28.setTop (mkF m 204 #[.val (.int pr), .val (.int qr), .val (.int rr), .val (.int sr), .val (.ref b1), .val (.ref b6), .val (.ref b9), .val (.ref b12), .val (.ref b15), .val (.ref b18), .val (.ref b21), .val (.ref b24), .val (.int ((sr &&& (2147483647 : Int32)) % (5 : Int32))), .val (.ref b6), .val (.int (1 : Int32))] [(.ref b6), (.ref b6)])) (fun t k => XS.aload X28.here hx rfl (hb hby at_202) rfl rfl k) ?_
    refine own_go (b := T28.setTop (mkF m 207 #[.val (.int pr), .val (.int qr), .val (.int rr), .val (.int sr), .val (.ref b1), .val (.ref b6), .val (.ref b9), .val (.ref b12), .val (.ref b15), .val (.ref b18), .val (.ref b21), .val (.ref b24), .val (.int ((sr &&& (2147483647 : Int32)) % (5 : Int32))), .val (.ref b6), .val (.int (1 : Int32))] [])) (fun t k => Jvm.RoadKit.acmp (g := (mkF m 204 #[.val (.int pr), .val (.int qr), .val (.int rr), .val (.int sr), .val (.ref b1), .val (.ref b6), .val (.ref b9), .val (.ref b12), .val (.ref b15), .val (.ref b18), .val (.ref b21), .val (.ref b24), .val (.int ((sr &&& (2147483647 : Int32)) % (5 : Int32))), .val (.ref b6), .val (.int (1 : Int32))] [(.ref b6), (.ref b6)])) X28 hx rfl rfl rfl (pc0 := 204) (pc' := 207) (same := true) rfl (hb hby at_204) rfl (decide_eq_true rfl) (by decide) (by decide) k) ?_
    refine own_go (b := T28.setTop (mkF m 208 #[.val (.int pr), .val (.int qr), .val (.int rr), .val (.int sr), .val (.ref b1), .val (.ref b6), .val (.ref b9), .val (.ref b12), .val (.ref b15), .val (.ref b18), .val (.ref b21), .val (.ref b24), .val (.int ((sr &&& (2147483647 : Int32)) % (5 : Int32))), .val (.ref b6), .val (.int (1 : Int32))] [(.int (1 : Int32))])) (fun t k => XS.iconst X28.here hx rfl (hb hby at_207) k) ?_
    refine own_go (b := T28.setTop (mkF m 212 #[.val (.int pr), .val (.int qr), .val (.int rr), .val (.int sr), .val (.ref b1), .val (.ref b6), .val (.ref b9), .val (.ref b12), .val (.ref b15), .val (.ref b18), .val (.ref b21), .val (.ref b24), .val (.int ((sr &&& (2147483647 : Int32)) % (5 : Int32))), .val (.ref b6), .val (.int (1 : Int32))] [(.int (1 : Int32))])) (fun t k => XS.goto X28.here hx rfl (pc0 := 208) (pc' := 212) rfl (hb hby at_208) (by decide) (by decide) k) ?_
    exact own_retN X28 hx hlk (t := .boolean) hrt (by simp) (hb hby at_212) (Nat.le_of_ble_eq_true rfl) (Nat.le_of_ble_eq_true rfl) (⟨rfl, N28⟩)
  · refine own_go (b := T25.setTop (mkF m 131 #[.val (.int pr), .val (.int qr), .val (.int rr), .val (.int sr), .val (.ref b1), .val (.ref b6), .val (.ref b9), .val (.ref b12), .val (.ref b15), .val (.ref b18), .val (.ref b21), .val (.ref b24), .val (.int ((sr &&& (2147483647 : Int32)) % (5 : Int32))), .unset, .unset] [])) (fun t k => XS.ifYes X25.here hx rfl (pc0 := 121) (pc' := 131) rfl (hb hby at_121) rfl ((if0 _ _).trans (feq hc26).2) (by decide) (by decide) k) ?_
    refine own_go (b := T25.setTop (mkF m 133 #[.val (.int pr), .val (.int qr), .val (.int rr), .val (.int sr), .val (.ref b1), .val (.ref b6), .val (.ref b9), .val (.ref b12), .val (.ref b15), .val (.ref b18), .val (.ref b21), .val (.ref b24), .val (.int ((sr &&& (2147483647 : Int32)) % (5 : Int32))), .unset, .unset] [(.int ((sr &&& (2147483647 : Int32)) % (5 : Int32)))])) (fun t k => XS.iload X25.here hx rfl (hb hby at_131) rfl  k) ?_
    refine own_go (b := T25.setTop (mkF m 134 #[.val (.int pr), .val (.int qr), .val (.int rr), .val (.int sr), .val (.ref b1), .val (.ref b6), .val (.ref b9), .val (.ref b12), .val (.ref b15), .val (.ref b18), .val (.ref b21), .val (.ref b24), .val (.int ((sr &&& (2147483647 : Int32)) % (5 : Int32))), .unset, .unset] [(.int (1 : Int32)), (.int ((sr &&& (2147483647 : Int32)) % (5 : Int32)))])) (fun t k => XS.iconst X25.here hx rfl (hb hby at_133) k) ?_
    by_cases hc29 : ((sr &&& (2147483647 : Int32)) % (5 : Int32)) = (1 : Int32)
    · refine own_go (b := T25.setTop (mkF m 137 #[.val (.int pr), .val (.int qr), .val (.int rr), .val (.int sr), .val (.ref b1), .val (.ref b6), .val (.ref b9), .val (.ref b12), .val (.ref b15), .val (.ref b18), .val (.ref b21), .val (.ref b24), .val (.int ((sr &&& (2147483647 : Int32)) % (5 : Int32))), .unset, .unset] [])) (fun t k => XS.icmpNo X25.here hx rfl (hb hby at_134) rfl (teq hc29).2 k) ?_
      refine own_go (b := T25.setTop (mkF m 139 #[.val (.int pr), .val (.int qr), .val (.int rr), .val (.int sr), .val (.ref b1), .val (.ref b6), .val (.ref b9), .val (.ref b12), .val (.ref b15), .val (.ref b18), .val (.ref b21), .val (.ref b24), .val (.int ((sr &&& (2147483647 : Int32)) % (5 : Int32))), .unset, .unset] [(.ref b9)])) (fun t k => XS.aload X25.here hx rfl (hb hby at_137) rfl rfl k) ?_
      refine own_go (b := T25.setTop (mkF m 141 #[.val (.int pr), .val (.int qr), .val (.int rr), .val (.int sr), .val (.ref b1), .val (.ref b6), .val (.ref b9), .val (.ref b12), .val (.ref b15), .val (.ref b18), .val (.ref b21), .val (.ref b24), .val (.int ((sr &&& (2147483647 : Int32)) % (5 : Int32))), .val (.ref b9), .unset] [])) (fun t k => XS.astore X25.here hx rfl (hb hby at_139) rfl rfl (l' := #[.val (.int pr), .val (.int qr), .val (.int rr), .val (.int sr), .val (.ref b1), .val (.ref b6), .val (.ref b9), .val (.ref b12), .val (.ref b15), .val (.ref b18), .val (.ref b21), .val (.ref b24), .val (.int ((sr &&& (2147483647 : Int32)) % (5 : Int32))), .val (.ref b9), .unset]) rfl k) ?_
      refine own_go (b := T25.setTop (mkF m 173 #[.val (.int pr), .val (.int qr), .val (.int rr), .val (.int sr), .val (.ref b1), .val (.ref b6), .val (.ref b9), .val (.ref b12), .val (.ref b15), .val (.ref b18), .val (.ref b21), .val (.ref b24), .val (.int ((sr &&& (2147483647 : Int32)) % (5 : Int32))), .val (.ref b9), .unset] [])) (fun t k => XS.goto X25.here hx rfl (pc0 := 141) (pc' := 173) rfl (hb hby at_141) (by decide) (by decide) k) ?_
      refine own_go (b := T25.setTop (mkF m 175 #[.val (.int pr), .val (.int qr), .val (.int rr), .val (.int sr), .val (.ref b1), .val (.ref b6), .val (.ref b9), .val (.ref b12), .val (.ref b15), .val (.ref b18), .val (.ref b21), .val (.ref b24), .val (.int ((sr &&& (2147483647 : Int32)) % (5 : Int32))), .val (.ref b9), .unset] [(.ref b24)])) (fun t k => XS.aload X25.here hx rfl (hb hby at_173) rfl rfl k) ?_
      refine own_go (b := T25.setTop (mkF m 177 #[.val (.int pr), .val (.int qr), .val (.int rr), .val (.int sr), .val (.ref b1), .val (.ref b6), .val (.ref b9), .val (.ref b12), .val (.ref b15), .val (.ref b18), .val (.ref b21), .val (.ref b24), .val (.int ((sr &&& (2147483647 : Int32)) % (5 : Int32))), .val (.ref b9), .unset] [(.ref b9), (.ref b24)])) (fun t k => XS.aload X25.here hx rfl (hb hby at_175) rfl rfl k) ?_
      obtain ⟨cq30, kq30, q30a, q30b, q30c⟩ := isOf hZ rfl Ek25
      obtain ⟨_, _, ⟨T30, L30, k30, n30⟩, -, X30, ⟨Lc30, hQ30, l30, y30, z30⟩, st30⟩ := X25.virtualBack hx (y := (⟨"com/example/vertumnus/vertumnus/interactions/constraints/SameTarget", "isSatisfiedBy", "(Ljava/lang/Object;)Z"⟩ : MethodName)) (z := (⟨"com/example/vertumnus/vertumnus/interactions/constraints/SameTarget", "isSatisfiedBy", "(Ljava/lang/Object;)Z"⟩ : MethodName)) hown (mvT hZ (hw _ (List.mem_of_getElem? (i := 42) rfl))) (mvT hZ (hw _ (List.mem_of_getElem? (i := 43) rfl))) (notFace_of_selects (args := #[]) (mvT hZ (hw _ (List.mem_of_getElem? (i := 45) rfl)))) (mvT hZ (hw _ (List.mem_of_getElem? (i := 45) rfl))) (mvT hZ (hw _ (List.mem_of_getElem? (i := 44) rfl))) (by decide) (backOf (W := 0) (rm8 l Z a0 hw [] b24 b9 b6 T25.heap n0 Zs25 Fk25) hZ (hw _ (List.mem_of_getElem? (i := 46) rfl)) (hw _ (List.mem_of_getElem? (i := 32) rfl)) (by decide) (by decide)) q30a q30c (g := (mkF m 177 #[.val (.int pr), .val (.int qr), .val (.int rr), .val (.int sr), .val (.ref b1), .val (.ref b6), .val (.ref b9), .val (.ref b12), .val (.ref b15), .val (.ref b18), .val (.ref b21), .val (.ref b24), .val (.int ((sr &&& (2147483647 : Int32)) % (5 : Int32))), .val (.ref b9), .unset] [(.ref b9), (.ref b24)])) rfl (by rw [hml]; rfl) (Steps.refl _) (argsL := [(.ref b9)]) (rest := []) (lenOf pd_3 rfl) rfl (by show 2 * 0 + _ ≤ _; exact Nat.le_of_eq rfl) (hb hby at_177) (fun _ _ => ⟨rfl, rfl, (by decide : 12 + 0 ≤ _), (by decide : 28 + 0 ≤ _)⟩)
      dsimp only [Pt.U, Pt.locs, Pt.cells, Pt.slots] at X30 l30 y30 z30 st30 hQ30
      subst l30 y30 z30
      obtain ⟨rfl, N30q, e30⟩ := hQ30
      have N30 := Fr.app N25 N30q
      refine own_tr (b := T30.setTop (mkF m 180 #[.val (.int pr), .val (.int qr), .val (.int rr), .val (.int sr), .val (.ref b1), .val (.ref b6), .val (.ref b9), .val (.ref b12), .val (.ref b15), .val (.ref b18), .val (.ref b21), .val (.ref b24), .val (.int ((sr &&& (2147483647 : Int32)) % (5 : Int32))), .val (.ref b9), .unset] [(.int (if b9 = b6 then 1 else 0))])) st30 ?_
      rw [if_neg (Ne.symm (Nat.ne_of_lt (Nat.lt_of_lt_of_le (Es7).lt (Nat.le_of_eq g9.symm))))]
      refine own_go (b := T30.setTop (mkF m 182 #[.val (.int pr), .val (.int qr), .val (.int rr), .val (.int sr), .val (.ref b1), .val (.ref b6), .val (.ref b9), .val (.ref b12), .val (.ref b15), .val (.ref b18), .val (.ref b21), .val (.ref b24), .val (.int ((sr &&& (2147483647 : Int32)) % (5 : Int32))), .val (.ref b9), .val (.int (0 : Int32))] [])) (fun t k => XS.istore X30.here hx rfl (hb hby at_180) rfl (l' := #[.val (.int pr), .val (.int qr), .val (.int rr), .val (.int sr), .val (.ref b1), .val (.ref b6), .val (.ref b9), .val (.ref b12), .val (.ref b15), .val (.ref b18), .val (.ref b21), .val (.ref b24), .val (.int ((sr &&& (2147483647 : Int32)) % (5 : Int32))), .val (.ref b9), .val (.int (0 : Int32))]) rfl k) ?_
      refine own_go (b := T30.setTop (mkF m 184 #[.val (.int pr), .val (.int qr), .val (.int rr), .val (.int sr), .val (.ref b1), .val (.ref b6), .val (.ref b9), .val (.ref b12), .val (.ref b15), .val (.ref b18), .val (.ref b21), .val (.ref b24), .val (.int ((sr &&& (2147483647 : Int32)) % (5 : Int32))), .val (.ref b9), .val (.int (0 : Int32))] [(.int (0 : Int32))])) (fun t k => XS.iload X30.here hx rfl (hb hby at_182) rfl  k) ?_
      refine own_go (b := T30.setTop (mkF m 186 #[.val (.int pr), .val (.int qr), .val (.int rr), .val (.int sr), .val (.ref b1), .val (.ref b6), .val (.ref b9), .val (.ref b12), .val (.ref b15), .val (.ref b18), .val (.ref b21), .val (.ref b24), .val (.int ((sr &&& (2147483647 : Int32)) % (5 : Int32))), .val (.ref b9), .val (.int (0 : Int32))] [(.int ((sr &&& (2147483647 : Int32)) % (5 : Int32))), (.int (0 : Int32))])) (fun t k => XS.iload X30.here hx rfl (hb hby at_184) rfl  k) ?_
      refine own_go (b := T30.setTop (mkF m 193 #[.val (.int pr), .val (.int qr), .val (.int rr), .val (.int sr), .val (.ref b1), .val (.ref b6), .val (.ref b9), .val (.ref b12), .val (.ref b15), .val (.ref b18), .val (.ref b21), .val (.ref b24), .val (.int ((sr &&& (2147483647 : Int32)) % (5 : Int32))), .val (.ref b9), .val (.int (0 : Int32))] [(.int (0 : Int32))])) (fun t k => XS.ifYes X30.here hx rfl (pc0 := 186) (pc' := 193) rfl (hb hby at_186) rfl ((if0 _ _).trans (feq hc26).2) (by decide) (by decide) k) ?_
      refine own_go (b := T30.setTop (mkF m 194 #[.val (.int pr), .val (.int qr), .val (.int rr), .val (.int sr), .val (.ref b1), .val (.ref b6), .val (.ref b9), .val (.ref b12), .val (.ref b15), .val (.ref b18), .val (.ref b21), .val (.ref b24), .val (.int ((sr &&& (2147483647 : Int32)) % (5 : Int32))), .val (.ref b9), .val (.int (0 : Int32))] [(.int (0 : Int32)), (.int (0 : Int32))])) (fun t k => XS.iconst X30.here hx rfl (hb hby at_193) k) ?_
      refine own_go (b := T30.setTop (mkF m 197 #[.val (.int pr), .val (.int qr), .val (.int rr), .val (.int sr), .val (.ref b1), .val (.ref b6), .val (.ref b9), .val (.ref b12), .val (.ref b15), .val (.ref b18), .val (.ref b21), .val (.ref b24), .val (.int ((sr &&& (2147483647 : Int32)) % (5 : Int32))), .val (.ref b9), .val (.int (0 : Int32))] [])) (fun t k => XS.icmpNo X30.here hx rfl (hb hby at_194) rfl (teq (rfl : (0 : Int32) = (0 : Int32))).2 k) ?_
      refine own_go (b := T30.setTop (mkF m 199 #[.val (.int pr), .val (.int qr), .val (.int rr), .val (.int sr), .val (.ref b1), .val (.ref b6), .val (.ref b9), .val (.ref b12), .val (.ref b15), .val (.ref b18), .val (.ref b21), .val (.ref b24), .val (.int ((sr &&& (2147483647 : Int32)) % (5 : Int32))), .val (.ref b9), .val (.int (0 : Int32))] [(.ref b24)])) (fun t k => XS.aload X30.here hx rfl (hb hby at_197) rfl rfl k) ?_
      obtain ⟨cq31, kq31, q31a, q31b, q31c⟩ := isOf hZ e30 Ek25
      obtain ⟨_, _, ⟨T31, L31, k31, n31⟩, -, X31, ⟨Lc31, hQ31, l31, y31, z31⟩, st31⟩ := X30.virtualBack hx (y := (⟨"com/example/vertumnus/vertumnus/interactions/constraints/SameTarget", "target", "()Ljava/lang/Object;"⟩ : MethodName)) (z := (⟨"com/example/vertumnus/vertumnus/interactions/constraints/SameTarget", "target", "()Ljava/lang/Object;"⟩ : MethodName)) hown (mvT hZ (hw _ (List.mem_of_getElem? (i := 47) rfl))) (mvT hZ (hw _ (List.mem_of_getElem? (i := 48) rfl))) (notFace_of_selects (args := #[]) (mvT hZ (hw _ (List.mem_of_getElem? (i := 50) rfl)))) (mvT hZ (hw _ (List.mem_of_getElem? (i := 50) rfl))) (mvT hZ (hw _ (List.mem_of_getElem? (i := 49) rfl))) (by decide) (backOf (W := 0) (rm9 l Z a0 hw [] b24 b6 T25.heap n0 Zs25 Fk25) hZ (hw _ (List.mem_of_getElem? (i := 51) rfl)) (hw _ (List.mem_of_getElem? (i := 32) rfl)) (by decide) (by decide)) q31a q31c (g := (mkF m 199 #[.val (.int pr), .val (.int qr), .val (.int rr), .val (.int sr), .val (.ref b1), .val (.ref b6), .val (.ref b9), .val (.ref b12), .val (.ref b15), .val (.ref b18), .val (.ref b21), .val (.ref b24), .val (.int ((sr &&& (2147483647 : Int32)) % (5 : Int32))), .val (.ref b9), .val (.int (0 : Int32))] [(.ref b24)])) rfl (by rw [hml]; rfl) (Steps.refl _) (argsL := []) (rest := []) (lenOf pd_4 rfl) rfl (by show 2 * 0 + _ ≤ _; exact Nat.le_of_eq rfl) (hb hby at_199) (fun _ _ => ⟨rfl, e30, (by decide : 12 + 0 ≤ _), (by decide : 28 + 0 ≤ _)⟩)
      dsimp only [Pt.U, Pt.locs, Pt.cells, Pt.slots] at X31 l31 y31 z31 st31 hQ31
      subst l31 y31 z31
      obtain ⟨rfl, N31q, e31⟩ := hQ31
      have N31 := Fr.app N30 N31q
      refine own_tr (b := T31.setTop (mkF m 202 #[.val (.int pr), .val (.int qr), .val (.int rr), .val (.int sr), .val (.ref b1), .val (.ref b6), .val (.ref b9), .val (.ref b12), .val (.ref b15), .val (.ref b18), .val (.ref b21), .val (.ref b24), .val (.int ((sr &&& (2147483647 : Int32)) % (5 : Int32))), .val (.ref b9), .val (.int (0 : Int32))] [(.ref b6)])) st31 ?_
      refine own_go (b := T31.setTop (mkF m 204 #[.val (.int pr), .val (.int qr), .val (.int rr), .val (.int sr), .val (.ref b1), .val (.ref b6), .val (.ref b9), .val (.ref b12), .val (.ref b15), .val (.ref b18), .val (.ref b21), .val (.ref b24), .val (.int ((sr &&& (2147483647 : Int32)) % (5 : Int32))), .val (.ref b9), .val (.int (0 : Int32))] [(.ref b6), (.ref b6)])) (fun t k => XS.aload X31.here hx rfl (hb hby at_202) rfl rfl k) ?_
      refine own_go (b := T31.setTop (mkF m 207 #[.val (.int pr), .val (.int qr), .val (.int rr), .val (.int sr), .val (.ref b1), .val (.ref b6), .val (.ref b9), .val (.ref b12), .val (.ref b15), .val (.ref b18), .val (.ref b21), .val (.ref b24), .val (.int ((sr &&& (2147483647 : Int32)) % (5 : Int32))), .val (.ref b9), .val (.int (0 : Int32))] [])) (fun t k => Jvm.RoadKit.acmp (g := (mkF m 204 #[.val (.int pr), .val (.int qr), .val (.int rr), .val (.int sr), .val (.ref b1), .val (.ref b6), .val (.ref b9), .val (.ref b12), .val (.ref b15), .val (.ref b18), .val (.ref b21), .val (.ref b24), .val (.int ((sr &&& (2147483647 : Int32)) % (5 : Int32))), .val (.ref b9), .val (.int (0 : Int32))] [(.ref b6), (.ref b6)])) X31 hx rfl rfl rfl (pc0 := 204) (pc' := 207) (same := true) rfl (hb hby at_204) rfl (decide_eq_true rfl) (by decide) (by decide) k) ?_
      refine own_go (b := T31.setTop (mkF m 208 #[.val (.int pr), .val (.int qr), .val (.int rr), .val (.int sr), .val (.ref b1), .val (.ref b6), .val (.ref b9), .val (.ref b12), .val (.ref b15), .val (.ref b18), .val (.ref b21), .val (.ref b24), .val (.int ((sr &&& (2147483647 : Int32)) % (5 : Int32))), .val (.ref b9), .val (.int (0 : Int32))] [(.int (1 : Int32))])) (fun t k => XS.iconst X31.here hx rfl (hb hby at_207) k) ?_
      refine own_go (b := T31.setTop (mkF m 212 #[.val (.int pr), .val (.int qr), .val (.int rr), .val (.int sr), .val (.ref b1), .val (.ref b6), .val (.ref b9), .val (.ref b12), .val (.ref b15), .val (.ref b18), .val (.ref b21), .val (.ref b24), .val (.int ((sr &&& (2147483647 : Int32)) % (5 : Int32))), .val (.ref b9), .val (.int (0 : Int32))] [(.int (1 : Int32))])) (fun t k => XS.goto X31.here hx rfl (pc0 := 208) (pc' := 212) rfl (hb hby at_208) (by decide) (by decide) k) ?_
      exact own_retN X31 hx hlk (t := .boolean) hrt (by simp) (hb hby at_212) (Nat.le_of_ble_eq_true rfl) (Nat.le_of_ble_eq_true rfl) (⟨rfl, N31⟩)
    · refine own_go (b := T25.setTop (mkF m 144 #[.val (.int pr), .val (.int qr), .val (.int rr), .val (.int sr), .val (.ref b1), .val (.ref b6), .val (.ref b9), .val (.ref b12), .val (.ref b15), .val (.ref b18), .val (.ref b21), .val (.ref b24), .val (.int ((sr &&& (2147483647 : Int32)) % (5 : Int32))), .unset, .unset] [])) (fun t k => XS.icmpYes X25.here hx rfl (pc0 := 134) (pc' := 144) rfl (hb hby at_134) rfl (feq hc29).2 (by decide) (by decide) k) ?_
      refine own_go (b := T25.setTop (mkF m 146 #[.val (.int pr), .val (.int qr), .val (.int rr), .val (.int sr), .val (.ref b1), .val (.ref b6), .val (.ref b9), .val (.ref b12), .val (.ref b15), .val (.ref b18), .val (.ref b21), .val (.ref b24), .val (.int ((sr &&& (2147483647 : Int32)) % (5 : Int32))), .unset, .unset] [(.int ((sr &&& (2147483647 : Int32)) % (5 : Int32)))])) (fun t k => XS.iload X25.here hx rfl (hb hby at_144) rfl  k) ?_
      refine own_go (b := T25.setTop (mkF m 147 #[.val (.int pr), .val (.int qr), .val (.int rr), .val (.int sr), .val (.ref b1), .val (.ref b6), .val (.ref b9), .val (.ref b12), .val (.ref b15), .val (.ref b18), .val (.ref b21), .val (.ref b24), .val (.int ((sr &&& (2147483647 : Int32)) % (5 : Int32))), .unset, .unset] [(.int (2 : Int32)), (.int ((sr &&& (2147483647 : Int32)) % (5 : Int32)))])) (fun t k => XS.iconst X25.here hx rfl (hb hby at_146) k) ?_
      by_cases hc32 : ((sr &&& (2147483647 : Int32)) % (5 : Int32)) = (2 : Int32)
      · refine own_go (b := T25.setTop (mkF m 150 #[.val (.int pr), .val (.int qr), .val (.int rr), .val (.int sr), .val (.ref b1), .val (.ref b6), .val (.ref b9), .val (.ref b12), .val (.ref b15), .val (.ref b18), .val (.ref b21), .val (.ref b24), .val (.int ((sr &&& (2147483647 : Int32)) % (5 : Int32))), .unset, .unset] [])) (fun t k => XS.icmpNo X25.here hx rfl (hb hby at_147) rfl (teq hc32).2 k) ?_
        refine own_go (b := T25.setTop (mkF m 152 #[.val (.int pr), .val (.int qr), .val (.int rr), .val (.int sr), .val (.ref b1), .val (.ref b6), .val (.ref b9), .val (.ref b12), .val (.ref b15), .val (.ref b18), .val (.ref b21), .val (.ref b24), .val (.int ((sr &&& (2147483647 : Int32)) % (5 : Int32))), .unset, .unset] [(.ref b15)])) (fun t k => XS.aload X25.here hx rfl (hb hby at_150) rfl rfl k) ?_
        refine own_go (b := T25.setTop (mkF m 154 #[.val (.int pr), .val (.int qr), .val (.int rr), .val (.int sr), .val (.ref b1), .val (.ref b6), .val (.ref b9), .val (.ref b12), .val (.ref b15), .val (.ref b18), .val (.ref b21), .val (.ref b24), .val (.int ((sr &&& (2147483647 : Int32)) % (5 : Int32))), .val (.ref b15), .unset] [])) (fun t k => XS.astore X25.here hx rfl (hb hby at_152) rfl rfl (l' := #[.val (.int pr), .val (.int qr), .val (.int rr), .val (.int sr), .val (.ref b1), .val (.ref b6), .val (.ref b9), .val (.ref b12), .val (.ref b15), .val (.ref b18), .val (.ref b21), .val (.ref b24), .val (.int ((sr &&& (2147483647 : Int32)) % (5 : Int32))), .val (.ref b15), .unset]) rfl k) ?_
        refine own_go (b := T25.setTop (mkF m 173 #[.val (.int pr), .val (.int qr), .val (.int rr), .val (.int sr), .val (.ref b1), .val (.ref b6), .val (.ref b9), .val (.ref b12), .val (.ref b15), .val (.ref b18), .val (.ref b21), .val (.ref b24), .val (.int ((sr &&& (2147483647 : Int32)) % (5 : Int32))), .val (.ref b15), .unset] [])) (fun t k => XS.goto X25.here hx rfl (pc0 := 154) (pc' := 173) rfl (hb hby at_154) (by decide) (by decide) k) ?_
        refine own_go (b := T25.setTop (mkF m 175 #[.val (.int pr), .val (.int qr), .val (.int rr), .val (.int sr), .val (.ref b1), .val (.ref b6), .val (.ref b9), .val (.ref b12), .val (.ref b15), .val (.ref b18), .val (.ref b21), .val (.ref b24), .val (.int ((sr &&& (2147483647 : Int32)) % (5 : Int32))), .val (.ref b15), .unset] [(.ref b24)])) (fun t k => XS.aload X25.here hx rfl (hb hby at_173) rfl rfl k) ?_
        refine own_go (b := T25.setTop (mkF m 177 #[.val (.int pr), .val (.int qr), .val (.int rr), .val (.int sr), .val (.ref b1), .val (.ref b6), .val (.ref b9), .val (.ref b12), .val (.ref b15), .val (.ref b18), .val (.ref b21), .val (.ref b24), .val (.int ((sr &&& (2147483647 : Int32)) % (5 : Int32))), .val (.ref b15), .unset] [(.ref b15), (.ref b24)])) (fun t k => XS.aload X25.here hx rfl (hb hby at_175) rfl rfl k) ?_
        obtain ⟨cq33, kq33, q33a, q33b, q33c⟩ := isOf hZ rfl Ek25
        obtain ⟨_, _, ⟨T33, L33, k33, n33⟩, -, X33, ⟨Lc33, hQ33, l33, y33, z33⟩, st33⟩ := X25.virtualBack hx (y := (⟨"com/example/vertumnus/vertumnus/interactions/constraints/SameTarget", "isSatisfiedBy", "(Ljava/lang/Object;)Z"⟩ : MethodName)) (z := (⟨"com/example/vertumnus/vertumnus/interactions/constraints/SameTarget", "isSatisfiedBy", "(Ljava/lang/Object;)Z"⟩ : MethodName)) hown (mvT hZ (hw _ (List.mem_of_getElem? (i := 42) rfl))) (mvT hZ (hw _ (List.mem_of_getElem? (i := 43) rfl))) (notFace_of_selects (args := #[]) (mvT hZ (hw _ (List.mem_of_getElem? (i := 45) rfl)))) (mvT hZ (hw _ (List.mem_of_getElem? (i := 45) rfl))) (mvT hZ (hw _ (List.mem_of_getElem? (i := 44) rfl))) (by decide) (backOf (W := 0) (rm8 l Z a0 hw [] b24 b15 b6 T25.heap n0 Zs25 Fk25) hZ (hw _ (List.mem_of_getElem? (i := 46) rfl)) (hw _ (List.mem_of_getElem? (i := 32) rfl)) (by decide) (by decide)) q33a q33c (g := (mkF m 177 #[.val (.int pr), .val (.int qr), .val (.int rr), .val (.int sr), .val (.ref b1), .val (.ref b6), .val (.ref b9), .val (.ref b12), .val (.ref b15), .val (.ref b18), .val (.ref b21), .val (.ref b24), .val (.int ((sr &&& (2147483647 : Int32)) % (5 : Int32))), .val (.ref b15), .unset] [(.ref b15), (.ref b24)])) rfl (by rw [hml]; rfl) (Steps.refl _) (argsL := [(.ref b15)]) (rest := []) (lenOf pd_3 rfl) rfl (by show 2 * 0 + _ ≤ _; exact Nat.le_of_eq rfl) (hb hby at_177) (fun _ _ => ⟨rfl, rfl, (by decide : 12 + 0 ≤ _), (by decide : 28 + 0 ≤ _)⟩)
        dsimp only [Pt.U, Pt.locs, Pt.cells, Pt.slots] at X33 l33 y33 z33 st33 hQ33
        subst l33 y33 z33
        obtain ⟨rfl, N33q, e33⟩ := hQ33
        have N33 := Fr.app N25 N33q
        refine own_tr (b := T33.setTop (mkF m 180 #[.val (.int pr), .val (.int qr), .val (.int rr), .val (.int sr), .val (.ref b1), .val (.ref b6), .val (.ref b9), .val (.ref b12), .val (.ref b15), .val (.ref b18), .val (.ref b21), .val (.ref b24), .val (.int ((sr &&& (2147483647 : Int32)) % (5 : Int32))), .val (.ref b15), .unset] [(.int (if b15 = b6 then 1 else 0))])) st33 ?_
        rw [if_neg (Ne.symm (Nat.ne_of_lt (Nat.lt_of_lt_of_le (((((Es7.ext E9).keep K10).ext E12).wr W14)).lt (Nat.le_of_eq g15.symm))))]
        refine own_go (b := T33.setTop (mkF m 182 #[.val (.int pr), .val (.int qr), .val (.int rr), .val (.int sr), .val (.ref b1), .val (.ref b6), .val (.ref b9), .val (.ref b12), .val (.ref b15), .val (.ref b18), .val (.ref b21), .val (.ref b24), .val (.int ((sr &&& (2147483647 : Int32)) % (5 : Int32))), .val (.ref b15), .val (.int (0 : Int32))] [])) (fun t k => XS.istore X33.here hx rfl (hb hby at_180) rfl (l' := #[.val (.int pr), .val (.int qr), .val (.int rr), .val (.int sr), .val (.ref b1), .val (.ref b6), .val (.ref b9), .val (.ref b12), .val (.ref b15), .val (.ref b18), .val (.ref b21), .val (.ref b24), .val (.int ((sr &&& (2147483647 : Int32)) % (5 : Int32))), .val (.ref b15), .val (.int (0 : Int32))]) rfl k) ?_
        refine own_go (b := T33.setTop (mkF m 184 #[.val (.int pr), .val (.int qr), .val (.int rr), .val (.int sr), .val (.ref b1), .val (.ref b6), .val (.ref b9), .val (.ref b12), .val (.ref b15), .val (.ref b18), .val (.ref b21), .val (.ref b24), .val (.int ((sr &&& (2147483647 : Int32)) % (5 : Int32))), .val (.ref b15), .val (.int (0 : Int32))] [(.int (0 : Int32))])) (fun t k => XS.iload X33.here hx rfl (hb hby at_182) rfl  k) ?_
        refine own_go (b := T33.setTop (mkF m 186 #[.val (.int pr), .val (.int qr), .val (.int rr), .val (.int sr), .val (.ref b1), .val (.ref b6), .val (.ref b9), .val (.ref b12), .val (.ref b15), .val (.ref b18), .val (.ref b21), .val (.ref b24), .val (.int ((sr &&& (2147483647 : Int32)) % (5 : Int32))), .val (.ref b15), .val (.int (0 : Int32))] [(.int ((sr &&& (2147483647 : Int32)) % (5 : Int32))), (.int (0 : Int32))])) (fun t k => XS.iload X33.here hx rfl (hb hby at_184) rfl  k) ?_
        refine own_go (b := T33.setTop (mkF m 193 #[.val (.int pr), .val (.int qr), .val (.int rr), .val (.int sr), .val (.ref b1), .val (.ref b6), .val (.ref b9), .val (.ref b12), .val (.ref b15), .val (.ref b18), .val (.ref b21), .val (.ref b24), .val (.int ((sr &&& (2147483647 : Int32)) % (5 : Int32))), .val (.ref b15), .val (.int (0 : Int32))] [(.int (0 : Int32))])) (fun t k => XS.ifYes X33.here hx rfl (pc0 := 186) (pc' := 193) rfl (hb hby at_186) rfl ((if0 _ _).trans (feq hc26).2) (by decide) (by decide) k) ?_
        refine own_go (b := T33.setTop (mkF m 194 #[.val (.int pr), .val (.int qr), .val (.int rr), .val (.int sr), .val (.ref b1), .val (.ref b6), .val (.ref b9), .val (.ref b12), .val (.ref b15), .val (.ref b18), .val (.ref b21), .val (.ref b24), .val (.int ((sr &&& (2147483647 : Int32)) % (5 : Int32))), .val (.ref b15), .val (.int (0 : Int32))] [(.int (0 : Int32)), (.int (0 : Int32))])) (fun t k => XS.iconst X33.here hx rfl (hb hby at_193) k) ?_
        refine own_go (b := T33.setTop (mkF m 197 #[.val (.int pr), .val (.int qr), .val (.int rr), .val (.int sr), .val (.ref b1), .val (.ref b6), .val (.ref b9), .val (.ref b12), .val (.ref b15), .val (.ref b18), .val (.ref b21), .val (.ref b24), .val (.int ((sr &&& (2147483647 : Int32)) % (5 : Int32))), .val (.ref b15), .val (.int (0 : Int32))] [])) (fun t k => XS.icmpNo X33.here hx rfl (hb hby at_194) rfl (teq (rfl : (0 : Int32) = (0 : Int32))).2 k) ?_
        refine own_go (b := T33.setTop (mkF m 199 #[.val (.int pr), .val (.int qr), .val (.int rr), .val (.int sr), .val (.ref b1), .val (.ref b6), .val (.ref b9), .val (.ref b12), .val (.ref b15), .val (.ref b18), .val (.ref b21), .val (.ref b24), .val (.int ((sr &&& (2147483647 : Int32)) % (5 : Int32))), .val (.ref b15), .val (.int (0 : Int32))] [(.ref b24)])) (fun t k => XS.aload X33.here hx rfl (hb hby at_197) rfl rfl k) ?_
        obtain ⟨cq34, kq34, q34a, q34b, q34c⟩ := isOf hZ e33 Ek25
        obtain ⟨_, _, ⟨T34, L34, k34, n34⟩, -, X34, ⟨Lc34, hQ34, l34, y34, z34⟩, st34⟩ := X33.virtualBack hx (y := (⟨"com/example/vertumnus/vertumnus/interactions/constraints/SameTarget", "target", "()Ljava/lang/Object;"⟩ : MethodName)) (z := (⟨"com/example/vertumnus/vertumnus/interactions/constraints/SameTarget", "target", "()Ljava/lang/Object;"⟩ : MethodName)) hown (mvT hZ (hw _ (List.mem_of_getElem? (i := 47) rfl))) (mvT hZ (hw _ (List.mem_of_getElem? (i := 48) rfl))) (notFace_of_selects (args := #[]) (mvT hZ (hw _ (List.mem_of_getElem? (i := 50) rfl)))) (mvT hZ (hw _ (List.mem_of_getElem? (i := 50) rfl))) (mvT hZ (hw _ (List.mem_of_getElem? (i := 49) rfl))) (by decide) (backOf (W := 0) (rm9 l Z a0 hw [] b24 b6 T25.heap n0 Zs25 Fk25) hZ (hw _ (List.mem_of_getElem? (i := 51) rfl)) (hw _ (List.mem_of_getElem? (i := 32) rfl)) (by decide) (by decide)) q34a q34c (g := (mkF m 199 #[.val (.int pr), .val (.int qr), .val (.int rr), .val (.int sr), .val (.ref b1), .val (.ref b6), .val (.ref b9), .val (.ref b12), .val (.ref b15), .val (.ref b18), .val (.ref b21), .val (.ref b24), .val (.int ((sr &&& (2147483647 : Int32)) % (5 : Int32))), .val (.ref b15), .val (.int (0 : Int32))] [(.ref b24)])) rfl (by rw [hml]; rfl) (Steps.refl _) (argsL := []) (rest := []) (lenOf pd_4 rfl) rfl (by show 2 * 0 + _ ≤ _; exact Nat.le_of_eq rfl) (hb hby at_199) (fun _ _ => ⟨rfl, e33, (by decide : 12 + 0 ≤ _), (by decide : 28 + 0 ≤ _)⟩)
        dsimp only [Pt.U, Pt.locs, Pt.cells, Pt.slots] at X34 l34 y34 z34 st34 hQ34
        subst l34 y34 z34
        obtain ⟨rfl, N34q, e34⟩ := hQ34
        have N34 := Fr.app N33 N34q
        refine own_tr (b := T34.setTop (mkF m 202 #[.val (.int pr), .val (.int qr), .val (.int rr), .val (.int sr), .val (.ref b1), .val (.ref b6), .val (.ref b9), .val (.ref b12), .val (.ref b15), .val (.ref b18), .val (.ref b21), .val (.ref b24), .val (.int ((sr &&& (2147483647 : Int32)) % (5 : Int32))), .val (.ref b15), .val (.int (0 : Int32))] [(.ref b6)])) st34 ?_
        refine own_go (b := T34.setTop (mkF m 204 #[.val (.int pr), .val (.int qr), .val (.int rr), .val (.int sr), .val (.ref b1), .val (.ref b6), .val (.ref b9), .val (.ref b12), .val (.ref b15), .val (.ref b18), .val (.ref b21), .val (.ref b24), .val (.int ((sr &&& (2147483647 : Int32)) % (5 : Int32))), .val (.ref b15), .val (.int (0 : Int32))] [(.ref b6), (.ref b6)])) (fun t k => XS.aload X34.here hx rfl (hb hby at_202) rfl rfl k) ?_
        refine own_go (b := T34.setTop (mkF m 207 #[.val (.int pr), .val (.int qr), .val (.int rr), .val (.int sr), .val (.ref b1), .val (.ref b6), .val (.ref b9), .val (.ref b12), .val (.ref b15), .val (.ref b18), .val (.ref b21), .val (.ref b24), .val (.int ((sr &&& (2147483647 : Int32)) % (5 : Int32))), .val (.ref b15), .val (.int (0 : Int32))] [])) (fun t k => Jvm.RoadKit.acmp (g := (mkF m 204 #[.val (.int pr), .val (.int qr), .val (.int rr), .val (.int sr), .val (.ref b1), .val (.ref b6), .val (.ref b9), .val (.ref b12), .val (.ref b15), .val (.ref b18), .val (.ref b21), .val (.ref b24), .val (.int ((sr &&& (2147483647 : Int32)) % (5 : Int32))), .val (.ref b15), .val (.int (0 : Int32))] [(.ref b6), (.ref b6)])) X34 hx rfl rfl rfl (pc0 := 204) (pc' := 207) (same := true) rfl (hb hby at_204) rfl (decide_eq_true rfl) (by decide) (by decide) k) ?_
        refine own_go (b := T34.setTop (mkF m 208 #[.val (.int pr), .val (.int qr), .val (.int rr), .val (.int sr), .val (.ref b1), .val (.ref b6), .val (.ref b9), .val (.ref b12), .val (.ref b15), .val (.ref b18), .val (.ref b21), .val (.ref b24), .val (.int ((sr &&& (2147483647 : Int32)) % (5 : Int32))), .val (.ref b15), .val (.int (0 : Int32))] [(.int (1 : Int32))])) (fun t k => XS.iconst X34.here hx rfl (hb hby at_207) k) ?_
        refine own_go (b := T34.setTop (mkF m 212 #[.val (.int pr), .val (.int qr), .val (.int rr), .val (.int sr), .val (.ref b1), .val (.ref b6), .val (.ref b9), .val (.ref b12), .val (.ref b15), .val (.ref b18), .val (.ref b21), .val (.ref b24), .val (.int ((sr &&& (2147483647 : Int32)) % (5 : Int32))), .val (.ref b15), .val (.int (0 : Int32))] [(.int (1 : Int32))])) (fun t k => XS.goto X34.here hx rfl (pc0 := 208) (pc' := 212) rfl (hb hby at_208) (by decide) (by decide) k) ?_
        exact own_retN X34 hx hlk (t := .boolean) hrt (by simp) (hb hby at_212) (Nat.le_of_ble_eq_true rfl) (Nat.le_of_ble_eq_true rfl) (⟨rfl, N34⟩)
      · refine own_go (b := T25.setTop (mkF m 157 #[.val (.int pr), .val (.int qr), .val (.int rr), .val (.int sr), .val (.ref b1), .val (.ref b6), .val (.ref b9), .val (.ref b12), .val (.ref b15), .val (.ref b18), .val (.ref b21), .val (.ref b24), .val (.int ((sr &&& (2147483647 : Int32)) % (5 : Int32))), .unset, .unset] [])) (fun t k => XS.icmpYes X25.here hx rfl (pc0 := 147) (pc' := 157) rfl (hb hby at_147) rfl (feq hc32).2 (by decide) (by decide) k) ?_
        refine own_go (b := T25.setTop (mkF m 159 #[.val (.int pr), .val (.int qr), .val (.int rr), .val (.int sr), .val (.ref b1), .val (.ref b6), .val (.ref b9), .val (.ref b12), .val (.ref b15), .val (.ref b18), .val (.ref b21), .val (.ref b24), .val (.int ((sr &&& (2147483647 : Int32)) % (5 : Int32))), .unset, .unset] [(.int ((sr &&& (2147483647 : Int32)) % (5 : Int32)))])) (fun t k => XS.iload X25.here hx rfl (hb hby at_157) rfl  k) ?_
        refine own_go (b := T25.setTop (mkF m 160 #[.val (.int pr), .val (.int qr), .val (.int rr), .val (.int sr), .val (.ref b1), .val (.ref b6), .val (.ref b9), .val (.ref b12), .val (.ref b15), .val (.ref b18), .val (.ref b21), .val (.ref b24), .val (.int ((sr &&& (2147483647 : Int32)) % (5 : Int32))), .unset, .unset] [(.int (3 : Int32)), (.int ((sr &&& (2147483647 : Int32)) % (5 : Int32)))])) (fun t k => XS.iconst X25.here hx rfl (hb hby at_159) k) ?_
        by_cases hc35 : ((sr &&& (2147483647 : Int32)) % (5 : Int32)) = (3 : Int32)
        · refine own_go (b := T25.setTop (mkF m 163 #[.val (.int pr), .val (.int qr), .val (.int rr), .val (.int sr), .val (.ref b1), .val (.ref b6), .val (.ref b9), .val (.ref b12), .val (.ref b15), .val (.ref b18), .val (.ref b21), .val (.ref b24), .val (.int ((sr &&& (2147483647 : Int32)) % (5 : Int32))), .unset, .unset] [])) (fun t k => XS.icmpNo X25.here hx rfl (hb hby at_160) rfl (teq hc35).2 k) ?_
          refine own_go (b := T25.setTop (mkF m 164 #[.val (.int pr), .val (.int qr), .val (.int rr), .val (.int sr), .val (.ref b1), .val (.ref b6), .val (.ref b9), .val (.ref b12), .val (.ref b15), .val (.ref b18), .val (.ref b21), .val (.ref b24), .val (.int ((sr &&& (2147483647 : Int32)) % (5 : Int32))), .unset, .unset] [.null])) (fun t k => XS.aconstNull X25.here hx rfl (hb hby at_163) k) ?_
          refine own_go (b := T25.setTop (mkF m 166 #[.val (.int pr), .val (.int qr), .val (.int rr), .val (.int sr), .val (.ref b1), .val (.ref b6), .val (.ref b9), .val (.ref b12), .val (.ref b15), .val (.ref b18), .val (.ref b21), .val (.ref b24), .val (.int ((sr &&& (2147483647 : Int32)) % (5 : Int32))), .val .null, .unset] [])) (fun t k => XS.astore X25.here hx rfl (hb hby at_164) rfl rfl (l' := #[.val (.int pr), .val (.int qr), .val (.int rr), .val (.int sr), .val (.ref b1), .val (.ref b6), .val (.ref b9), .val (.ref b12), .val (.ref b15), .val (.ref b18), .val (.ref b21), .val (.ref b24), .val (.int ((sr &&& (2147483647 : Int32)) % (5 : Int32))), .val .null, .unset]) rfl k) ?_
          refine own_go (b := T25.setTop (mkF m 173 #[.val (.int pr), .val (.int qr), .val (.int rr), .val (.int sr), .val (.ref b1), .val (.ref b6), .val (.ref b9), .val (.ref b12), .val (.ref b15), .val (.ref b18), .val (.ref b21), .val (.ref b24), .val (.int ((sr &&& (2147483647 : Int32)) % (5 : Int32))), .val .null, .unset] [])) (fun t k => XS.goto X25.here hx rfl (pc0 := 166) (pc' := 173) rfl (hb hby at_166) (by decide) (by decide) k) ?_
          refine own_go (b := T25.setTop (mkF m 175 #[.val (.int pr), .val (.int qr), .val (.int rr), .val (.int sr), .val (.ref b1), .val (.ref b6), .val (.ref b9), .val (.ref b12), .val (.ref b15), .val (.ref b18), .val (.ref b21), .val (.ref b24), .val (.int ((sr &&& (2147483647 : Int32)) % (5 : Int32))), .val .null, .unset] [(.ref b24)])) (fun t k => XS.aload X25.here hx rfl (hb hby at_173) rfl rfl k) ?_
          refine own_go (b := T25.setTop (mkF m 177 #[.val (.int pr), .val (.int qr), .val (.int rr), .val (.int sr), .val (.ref b1), .val (.ref b6), .val (.ref b9), .val (.ref b12), .val (.ref b15), .val (.ref b18), .val (.ref b21), .val (.ref b24), .val (.int ((sr &&& (2147483647 : Int32)) % (5 : Int32))), .val .null, .unset] [.null, (.ref b24)])) (fun t k => XS.aload X25.here hx rfl (hb hby at_175) rfl rfl k) ?_
          obtain ⟨cq36, kq36, q36a, q36b, q36c⟩ := isOf hZ rfl Ek25
          obtain ⟨_, _, ⟨T36, L36, k36, n36⟩, -, X36, ⟨Lc36, hQ36, l36, y36, z36⟩, st36⟩ := X25.virtualBack hx (y := (⟨"com/example/vertumnus/vertumnus/interactions/constraints/SameTarget", "isSatisfiedBy", "(Ljava/lang/Object;)Z"⟩ : MethodName)) (z := (⟨"com/example/vertumnus/vertumnus/interactions/constraints/SameTarget", "isSatisfiedBy", "(Ljava/lang/Object;)Z"⟩ : MethodName)) hown (mvT hZ (hw _ (List.mem_of_getElem? (i := 42) rfl))) (mvT hZ (hw _ (List.mem_of_getElem? (i := 43) rfl))) (notFace_of_selects (args := #[]) (mvT hZ (hw _ (List.mem_of_getElem? (i := 45) rfl)))) (mvT hZ (hw _ (List.mem_of_getElem? (i := 45) rfl))) (mvT hZ (hw _ (List.mem_of_getElem? (i := 44) rfl))) (by decide) (backOf (W := 0) (rm8n l Z a0 hw [] b24 b6 T25.heap n0 Zs25 Fk25) hZ (hw _ (List.mem_of_getElem? (i := 46) rfl)) (hw _ (List.mem_of_getElem? (i := 32) rfl)) (by decide) (by decide)) q36a q36c (g := (mkF m 177 #[.val (.int pr), .val (.int qr), .val (.int rr), .val (.int sr), .val (.ref b1), .val (.ref b6), .val (.ref b9), .val (.ref b12), .val (.ref b15), .val (.ref b18), .val (.ref b21), .val (.ref b24), .val (.int ((sr &&& (2147483647 : Int32)) % (5 : Int32))), .val .null, .unset] [.null, (.ref b24)])) rfl (by rw [hml]; rfl) (Steps.refl _) (argsL := [.null]) (rest := []) (lenOf pd_3 rfl) rfl (by show 2 * 0 + _ ≤ _; exact Nat.le_of_eq rfl) (hb hby at_177) (fun _ _ => ⟨rfl, rfl, (by decide : 12 + 0 ≤ _), (by decide : 28 + 0 ≤ _)⟩)
          dsimp only [Pt.U, Pt.locs, Pt.cells, Pt.slots] at X36 l36 y36 z36 st36 hQ36
          subst l36 y36 z36
          obtain ⟨rfl, N36q, e36⟩ := hQ36
          have N36 := Fr.app N25 N36q
          refine own_tr (b := T36.setTop (mkF m 180 #[.val (.int pr), .val (.int qr), .val (.int rr), .val (.int sr), .val (.ref b1), .val (.ref b6), .val (.ref b9), .val (.ref b12), .val (.ref b15), .val (.ref b18), .val (.ref b21), .val (.ref b24), .val (.int ((sr &&& (2147483647 : Int32)) % (5 : Int32))), .val .null, .unset] [(.int (0 : Int32))])) st36 ?_
          refine own_go (b := T36.setTop (mkF m 182 #[.val (.int pr), .val (.int qr), .val (.int rr), .val (.int sr), .val (.ref b1), .val (.ref b6), .val (.ref b9), .val (.ref b12), .val (.ref b15), .val (.ref b18), .val (.ref b21), .val (.ref b24), .val (.int ((sr &&& (2147483647 : Int32)) % (5 : Int32))), .val .null, .val (.int (0 : Int32))] [])) (fun t k => XS.istore X36.here hx rfl (hb hby at_180) rfl (l' := #[.val (.int pr), .val (.int qr), .val (.int rr), .val (.int sr), .val (.ref b1), .val (.ref b6), .val (.ref b9), .val (.ref b12), .val (.ref b15), .val (.ref b18), .val (.ref b21), .val (.ref b24), .val (.int ((sr &&& (2147483647 : Int32)) % (5 : Int32))), .val .null, .val (.int (0 : Int32))]) rfl k) ?_
          refine own_go (b := T36.setTop (mkF m 184 #[.val (.int pr), .val (.int qr), .val (.int rr), .val (.int sr), .val (.ref b1), .val (.ref b6), .val (.ref b9), .val (.ref b12), .val (.ref b15), .val (.ref b18), .val (.ref b21), .val (.ref b24), .val (.int ((sr &&& (2147483647 : Int32)) % (5 : Int32))), .val .null, .val (.int (0 : Int32))] [(.int (0 : Int32))])) (fun t k => XS.iload X36.here hx rfl (hb hby at_182) rfl  k) ?_
          refine own_go (b := T36.setTop (mkF m 186 #[.val (.int pr), .val (.int qr), .val (.int rr), .val (.int sr), .val (.ref b1), .val (.ref b6), .val (.ref b9), .val (.ref b12), .val (.ref b15), .val (.ref b18), .val (.ref b21), .val (.ref b24), .val (.int ((sr &&& (2147483647 : Int32)) % (5 : Int32))), .val .null, .val (.int (0 : Int32))] [(.int ((sr &&& (2147483647 : Int32)) % (5 : Int32))), (.int (0 : Int32))])) (fun t k => XS.iload X36.here hx rfl (hb hby at_184) rfl  k) ?_
          refine own_go (b := T36.setTop (mkF m 193 #[.val (.int pr), .val (.int qr), .val (.int rr), .val (.int sr), .val (.ref b1), .val (.ref b6), .val (.ref b9), .val (.ref b12), .val (.ref b15), .val (.ref b18), .val (.ref b21), .val (.ref b24), .val (.int ((sr &&& (2147483647 : Int32)) % (5 : Int32))), .val .null, .val (.int (0 : Int32))] [(.int (0 : Int32))])) (fun t k => XS.ifYes X36.here hx rfl (pc0 := 186) (pc' := 193) rfl (hb hby at_186) rfl ((if0 _ _).trans (feq hc26).2) (by decide) (by decide) k) ?_
          refine own_go (b := T36.setTop (mkF m 194 #[.val (.int pr), .val (.int qr), .val (.int rr), .val (.int sr), .val (.ref b1), .val (.ref b6), .val (.ref b9), .val (.ref b12), .val (.ref b15), .val (.ref b18), .val (.ref b21), .val (.ref b24), .val (.int ((sr &&& (2147483647 : Int32)) % (5 : Int32))), .val .null, .val (.int (0 : Int32))] [(.int (0 : Int32)), (.int (0 : Int32))])) (fun t k => XS.iconst X36.here hx rfl (hb hby at_193) k) ?_
          refine own_go (b := T36.setTop (mkF m 197 #[.val (.int pr), .val (.int qr), .val (.int rr), .val (.int sr), .val (.ref b1), .val (.ref b6), .val (.ref b9), .val (.ref b12), .val (.ref b15), .val (.ref b18), .val (.ref b21), .val (.ref b24), .val (.int ((sr &&& (2147483647 : Int32)) % (5 : Int32))), .val .null, .val (.int (0 : Int32))] [])) (fun t k => XS.icmpNo X36.here hx rfl (hb hby at_194) rfl (teq (rfl : (0 : Int32) = (0 : Int32))).2 k) ?_
          refine own_go (b := T36.setTop (mkF m 199 #[.val (.int pr), .val (.int qr), .val (.int rr), .val (.int sr), .val (.ref b1), .val (.ref b6), .val (.ref b9), .val (.ref b12), .val (.ref b15), .val (.ref b18), .val (.ref b21), .val (.ref b24), .val (.int ((sr &&& (2147483647 : Int32)) % (5 : Int32))), .val .null, .val (.int (0 : Int32))] [(.ref b24)])) (fun t k => XS.aload X36.here hx rfl (hb hby at_197) rfl rfl k) ?_
          obtain ⟨cq37, kq37, q37a, q37b, q37c⟩ := isOf hZ e36 Ek25
          obtain ⟨_, _, ⟨T37, L37, k37, n37⟩, -, X37, ⟨Lc37, hQ37, l37, y37, z37⟩, st37⟩ := X36.virtualBack hx (y := (⟨"com/example/vertumnus/vertumnus/interactions/constraints/SameTarget", "target", "()Ljava/lang/Object;"⟩ : MethodName)) (z := (⟨"com/example/vertumnus/vertumnus/interactions/constraints/SameTarget", "target", "()Ljava/lang/Object;"⟩ : MethodName)) hown (mvT hZ (hw _ (List.mem_of_getElem? (i := 47) rfl))) (mvT hZ (hw _ (List.mem_of_getElem? (i := 48) rfl))) (notFace_of_selects (args := #[]) (mvT hZ (hw _ (List.mem_of_getElem? (i := 50) rfl)))) (mvT hZ (hw _ (List.mem_of_getElem? (i := 50) rfl))) (mvT hZ (hw _ (List.mem_of_getElem? (i := 49) rfl))) (by decide) (backOf (W := 0) (rm9 l Z a0 hw [] b24 b6 T25.heap n0 Zs25 Fk25) hZ (hw _ (List.mem_of_getElem? (i := 51) rfl)) (hw _ (List.mem_of_getElem? (i := 32) rfl)) (by decide) (by decide)) q37a q37c (g := (mkF m 199 #[.val (.int pr), .val (.int qr), .val (.int rr), .val (.int sr), .val (.ref b1), .val (.ref b6), .val (.ref b9), .val (.ref b12), .val (.ref b15), .val (.ref b18), .val (.ref b21), .val (.ref b24), .val (.int ((sr &&& (2147483647 : Int32)) % (5 : Int32))), .val .null, .val (.int (0 : Int32))] [(.ref b24)])) rfl (by rw [hml]; rfl) (Steps.refl _) (argsL := []) (rest := []) (lenOf pd_4 rfl) rfl (by show 2 * 0 + _ ≤ _; exact Nat.le_of_eq rfl) (hb hby at_199) (fun _ _ => ⟨rfl, e36, (by decide : 12 + 0 ≤ _), (by decide : 28 + 0 ≤ _)⟩)
          dsimp only [Pt.U, Pt.locs, Pt.cells, Pt.slots] at X37 l37 y37 z37 st37 hQ37
          subst l37 y37 z37
          obtain ⟨rfl, N37q, e37⟩ := hQ37
          have N37 := Fr.app N36 N37q
          refine own_tr (b := T37.setTop (mkF m 202 #[.val (.int pr), .val (.int qr), .val (.int rr), .val (.int sr), .val (.ref b1), .val (.ref b6), .val (.ref b9), .val (.ref b12), .val (.ref b15), .val (.ref b18), .val (.ref b21), .val (.ref b24), .val (.int ((sr &&& (2147483647 : Int32)) % (5 : Int32))), .val .null, .val (.int (0 : Int32))] [(.ref b6)])) st37 ?_
          refine own_go (b := T37.setTop (mkF m 204 #[.val (.int pr), .val (.int qr), .val (.int rr), .val (.int sr), .val (.ref b1), .val (.ref b6), .val (.ref b9), .val (.ref b12), .val (.ref b15), .val (.ref b18), .val (.ref b21), .val (.ref b24), .val (.int ((sr &&& (2147483647 : Int32)) % (5 : Int32))), .val .null, .val (.int (0 : Int32))] [(.ref b6), (.ref b6)])) (fun t k => XS.aload X37.here hx rfl (hb hby at_202) rfl rfl k) ?_
          refine own_go (b := T37.setTop (mkF m 207 #[.val (.int pr), .val (.int qr), .val (.int rr), .val (.int sr), .val (.ref b1), .val (.ref b6), .val (.ref b9), .val (.ref b12), .val (.ref b15), .val (.ref b18), .val (.ref b21), .val (.ref b24), .val (.int ((sr &&& (2147483647 : Int32)) % (5 : Int32))), .val .null, .val (.int (0 : Int32))] [])) (fun t k => Jvm.RoadKit.acmp (g := (mkF m 204 #[.val (.int pr), .val (.int qr), .val (.int rr), .val (.int sr), .val (.ref b1), .val (.ref b6), .val (.ref b9), .val (.ref b12), .val (.ref b15), .val (.ref b18), .val (.ref b21), .val (.ref b24), .val (.int ((sr &&& (2147483647 : Int32)) % (5 : Int32))), .val .null, .val (.int (0 : Int32))] [(.ref b6), (.ref b6)])) X37 hx rfl rfl rfl (pc0 := 204) (pc' := 207) (same := true) rfl (hb hby at_204) rfl (decide_eq_true rfl) (by decide) (by decide) k) ?_
          refine own_go (b := T37.setTop (mkF m 208 #[.val (.int pr), .val (.int qr), .val (.int rr), .val (.int sr), .val (.ref b1), .val (.ref b6), .val (.ref b9), .val (.ref b12), .val (.ref b15), .val (.ref b18), .val (.ref b21), .val (.ref b24), .val (.int ((sr &&& (2147483647 : Int32)) % (5 : Int32))), .val .null, .val (.int (0 : Int32))] [(.int (1 : Int32))])) (fun t k => XS.iconst X37.here hx rfl (hb hby at_207) k) ?_
          refine own_go (b := T37.setTop (mkF m 212 #[.val (.int pr), .val (.int qr), .val (.int rr), .val (.int sr), .val (.ref b1), .val (.ref b6), .val (.ref b9), .val (.ref b12), .val (.ref b15), .val (.ref b18), .val (.ref b21), .val (.ref b24), .val (.int ((sr &&& (2147483647 : Int32)) % (5 : Int32))), .val .null, .val (.int (0 : Int32))] [(.int (1 : Int32))])) (fun t k => XS.goto X37.here hx rfl (pc0 := 208) (pc' := 212) rfl (hb hby at_208) (by decide) (by decide) k) ?_
          exact own_retN X37 hx hlk (t := .boolean) hrt (by simp) (hb hby at_212) (Nat.le_of_ble_eq_true rfl) (Nat.le_of_ble_eq_true rfl) (⟨rfl, N37⟩)
        · refine own_go (b := T25.setTop (mkF m 169 #[.val (.int pr), .val (.int qr), .val (.int rr), .val (.int sr), .val (.ref b1), .val (.ref b6), .val (.ref b9), .val (.ref b12), .val (.ref b15), .val (.ref b18), .val (.ref b21), .val (.ref b24), .val (.int ((sr &&& (2147483647 : Int32)) % (5 : Int32))), .unset, .unset] [])) (fun t k => XS.icmpYes X25.here hx rfl (pc0 := 160) (pc' := 169) rfl (hb hby at_160) rfl (feq hc35).2 (by decide) (by decide) k) ?_
          refine own_go (b := T25.setTop (mkF m 171 #[.val (.int pr), .val (.int qr), .val (.int rr), .val (.int sr), .val (.ref b1), .val (.ref b6), .val (.ref b9), .val (.ref b12), .val (.ref b15), .val (.ref b18), .val (.ref b21), .val (.ref b24), .val (.int ((sr &&& (2147483647 : Int32)) % (5 : Int32))), .unset, .unset] [(.ref b21)])) (fun t k => XS.aload X25.here hx rfl (hb hby at_169) rfl rfl k) ?_
          refine own_go (b := T25.setTop (mkF m 173 #[.val (.int pr), .val (.int qr), .val (.int rr), .val (.int sr), .val (.ref b1), .val (.ref b6), .val (.ref b9), .val (.ref b12), .val (.ref b15), .val (.ref b18), .val (.ref b21), .val (.ref b24), .val (.int ((sr &&& (2147483647 : Int32)) % (5 : Int32))), .val (.ref b21), .unset] [])) (fun t k => XS.astore X25.here hx rfl (hb hby at_171) rfl rfl (l' := #[.val (.int pr), .val (.int qr), .val (.int rr), .val (.int sr), .val (.ref b1), .val (.ref b6), .val (.ref b9), .val (.ref b12), .val (.ref b15), .val (.ref b18), .val (.ref b21), .val (.ref b24), .val (.int ((sr &&& (2147483647 : Int32)) % (5 : Int32))), .val (.ref b21), .unset]) rfl k) ?_
          refine own_go (b := T25.setTop (mkF m 175 #[.val (.int pr), .val (.int qr), .val (.int rr), .val (.int sr), .val (.ref b1), .val (.ref b6), .val (.ref b9), .val (.ref b12), .val (.ref b15), .val (.ref b18), .val (.ref b21), .val (.ref b24), .val (.int ((sr &&& (2147483647 : Int32)) % (5 : Int32))), .val (.ref b21), .unset] [(.ref b24)])) (fun t k => XS.aload X25.here hx rfl (hb hby at_173) rfl rfl k) ?_
          refine own_go (b := T25.setTop (mkF m 177 #[.val (.int pr), .val (.int qr), .val (.int rr), .val (.int sr), .val (.ref b1), .val (.ref b6), .val (.ref b9), .val (.ref b12), .val (.ref b15), .val (.ref b18), .val (.ref b21), .val (.ref b24), .val (.int ((sr &&& (2147483647 : Int32)) % (5 : Int32))), .val (.ref b21), .unset] [(.ref b21), (.ref b24)])) (fun t k => XS.aload X25.here hx rfl (hb hby at_175) rfl rfl k) ?_
          obtain ⟨cq38, kq38, q38a, q38b, q38c⟩ := isOf hZ rfl Ek25
          obtain ⟨_, _, ⟨T38, L38, k38, n38⟩, -, X38, ⟨Lc38, hQ38, l38, y38, z38⟩, st38⟩ := X25.virtualBack hx (y := (⟨"com/example/vertumnus/vertumnus/interactions/constraints/SameTarget", "isSatisfiedBy", "(Ljava/lang/Object;)Z"⟩ : MethodName)) (z := (⟨"com/example/vertumnus/vertumnus/interactions/constraints/SameTarget", "isSatisfiedBy", "(Ljava/lang/Object;)Z"⟩ : MethodName)) hown (mvT hZ (hw _ (List.mem_of_getElem? (i := 42) rfl))) (mvT hZ (hw _ (List.mem_of_getElem? (i := 43) rfl))) (notFace_of_selects (args := #[]) (mvT hZ (hw _ (List.mem_of_getElem? (i := 45) rfl)))) (mvT hZ (hw _ (List.mem_of_getElem? (i := 45) rfl))) (mvT hZ (hw _ (List.mem_of_getElem? (i := 44) rfl))) (by decide) (backOf (W := 0) (rm8 l Z a0 hw [] b24 b21 b6 T25.heap n0 Zs25 Fk25) hZ (hw _ (List.mem_of_getElem? (i := 46) rfl)) (hw _ (List.mem_of_getElem? (i := 32) rfl)) (by decide) (by decide)) q38a q38c (g := (mkF m 177 #[.val (.int pr), .val (.int qr), .val (.int rr), .val (.int sr), .val (.ref b1), .val (.ref b6), .val (.ref b9), .val (.ref b12), .val (.ref b15), .val (.ref b18), .val (.ref b21), .val (.ref b24), .val (.int ((sr &&& (2147483647 : Int32)) % (5 : Int32))), .val (.ref b21), .unset] [(.ref b21), (.ref b24)])) rfl (by rw [hml]; rfl) (Steps.refl _) (argsL := [(.ref b21)]) (rest := []) (lenOf pd_3 rfl) rfl (by show 2 * 0 + _ ≤ _; exact Nat.le_of_eq rfl) (hb hby at_177) (fun _ _ => ⟨rfl, rfl, (by decide : 12 + 0 ≤ _), (by decide : 28 + 0 ≤ _)⟩)
          dsimp only [Pt.U, Pt.locs, Pt.cells, Pt.slots] at X38 l38 y38 z38 st38 hQ38
          subst l38 y38 z38
          obtain ⟨rfl, N38q, e38⟩ := hQ38
          have N38 := Fr.app N25 N38q
          refine own_tr (b := T38.setTop (mkF m 180 #[.val (.int pr), .val (.int qr), .val (.int rr), .val (.int sr), .val (.ref b1), .val (.ref b6), .val (.ref b9), .val (.ref b12), .val (.ref b15), .val (.ref b18), .val (.ref b21), .val (.ref b24), .val (.int ((sr &&& (2147483647 : Int32)) % (5 : Int32))), .val (.ref b21), .unset] [(.int (if b21 = b6 then 1 else 0))])) st38 ?_
          rw [if_neg (Ne.symm (Nat.ne_of_lt (Nat.lt_of_lt_of_le (((((((((Es7.ext E9).keep K10).ext E12).wr W14).ext E15).keep K16).ext E18).wr W20)).lt (Nat.le_of_eq g21.symm))))]
          refine own_go (b := T38.setTop (mkF m 182 #[.val (.int pr), .val (.int qr), .val (.int rr), .val (.int sr), .val (.ref b1), .val (.ref b6), .val (.ref b9), .val (.ref b12), .val (.ref b15), .val (.ref b18), .val (.ref b21), .val (.ref b24), .val (.int ((sr &&& (2147483647 : Int32)) % (5 : Int32))), .val (.ref b21), .val (.int (0 : Int32))] [])) (fun t k => XS.istore X38.here hx rfl (hb hby at_180) rfl (l' := #[.val (.int pr), .val (.int qr), .val (.int rr), .val (.int sr), .val (.ref b1), .val (.ref b6), .val (.ref b9), .val (.ref b12), .val (.ref b15), .val (.ref b18), .val (.ref b21), .val (.ref b24), .val (.int ((sr &&& (2147483647 : Int32)) % (5 : Int32))), .val (.ref b21), .val (.int (0 : Int32))]) rfl k) ?_
          refine own_go (b := T38.setTop (mkF m 184 #[.val (.int pr), .val (.int qr), .val (.int rr), .val (.int sr), .val (.ref b1), .val (.ref b6), .val (.ref b9), .val (.ref b12), .val (.ref b15), .val (.ref b18), .val (.ref b21), .val (.ref b24), .val (.int ((sr &&& (2147483647 : Int32)) % (5 : Int32))), .val (.ref b21), .val (.int (0 : Int32))] [(.int (0 : Int32))])) (fun t k => XS.iload X38.here hx rfl (hb hby at_182) rfl  k) ?_
          refine own_go (b := T38.setTop (mkF m 186 #[.val (.int pr), .val (.int qr), .val (.int rr), .val (.int sr), .val (.ref b1), .val (.ref b6), .val (.ref b9), .val (.ref b12), .val (.ref b15), .val (.ref b18), .val (.ref b21), .val (.ref b24), .val (.int ((sr &&& (2147483647 : Int32)) % (5 : Int32))), .val (.ref b21), .val (.int (0 : Int32))] [(.int ((sr &&& (2147483647 : Int32)) % (5 : Int32))), (.int (0 : Int32))])) (fun t k => XS.iload X38.here hx rfl (hb hby at_184) rfl  k) ?_
          refine own_go (b := T38.setTop (mkF m 193 #[.val (.int pr), .val (.int qr), .val (.int rr), .val (.int sr), .val (.ref b1), .val (.ref b6), .val (.ref b9), .val (.ref b12), .val (.ref b15), .val (.ref b18), .val (.ref b21), .val (.ref b24), .val (.int ((sr &&& (2147483647 : Int32)) % (5 : Int32))), .val (.ref b21), .val (.int (0 : Int32))] [(.int (0 : Int32))])) (fun t k => XS.ifYes X38.here hx rfl (pc0 := 186) (pc' := 193) rfl (hb hby at_186) rfl ((if0 _ _).trans (feq hc26).2) (by decide) (by decide) k) ?_
          refine own_go (b := T38.setTop (mkF m 194 #[.val (.int pr), .val (.int qr), .val (.int rr), .val (.int sr), .val (.ref b1), .val (.ref b6), .val (.ref b9), .val (.ref b12), .val (.ref b15), .val (.ref b18), .val (.ref b21), .val (.ref b24), .val (.int ((sr &&& (2147483647 : Int32)) % (5 : Int32))), .val (.ref b21), .val (.int (0 : Int32))] [(.int (0 : Int32)), (.int (0 : Int32))])) (fun t k => XS.iconst X38.here hx rfl (hb hby at_193) k) ?_
          refine own_go (b := T38.setTop (mkF m 197 #[.val (.int pr), .val (.int qr), .val (.int rr), .val (.int sr), .val (.ref b1), .val (.ref b6), .val (.ref b9), .val (.ref b12), .val (.ref b15), .val (.ref b18), .val (.ref b21), .val (.ref b24), .val (.int ((sr &&& (2147483647 : Int32)) % (5 : Int32))), .val (.ref b21), .val (.int (0 : Int32))] [])) (fun t k => XS.icmpNo X38.here hx rfl (hb hby at_194) rfl (teq (rfl : (0 : Int32) = (0 : Int32))).2 k) ?_
          refine own_go (b := T38.setTop (mkF m 199 #[.val (.int pr), .val (.int qr), .val (.int rr), .val (.int sr), .val (.ref b1), .val (.ref b6), .val (.ref b9), .val (.ref b12), .val (.ref b15), .val (.ref b18), .val (.ref b21), .val (.ref b24), .val (.int ((sr &&& (2147483647 : Int32)) % (5 : Int32))), .val (.ref b21), .val (.int (0 : Int32))] [(.ref b24)])) (fun t k => XS.aload X38.here hx rfl (hb hby at_197) rfl rfl k) ?_
          obtain ⟨cq39, kq39, q39a, q39b, q39c⟩ := isOf hZ e38 Ek25
          obtain ⟨_, _, ⟨T39, L39, k39, n39⟩, -, X39, ⟨Lc39, hQ39, l39, y39, z39⟩, st39⟩ := X38.virtualBack hx (y := (⟨"com/example/vertumnus/vertumnus/interactions/constraints/SameTarget", "target", "()Ljava/lang/Object;"⟩ : MethodName)) (z := (⟨"com/example/vertumnus/vertumnus/interactions/constraints/SameTarget", "target", "()Ljava/lang/Object;"⟩ : MethodName)) hown (mvT hZ (hw _ (List.mem_of_getElem? (i := 47) rfl))) (mvT hZ (hw _ (List.mem_of_getElem? (i := 48) rfl))) (notFace_of_selects (args := #[]) (mvT hZ (hw _ (List.mem_of_getElem? (i := 50) rfl)))) (mvT hZ (hw _ (List.mem_of_getElem? (i := 50) rfl))) (mvT hZ (hw _ (List.mem_of_getElem? (i := 49) rfl))) (by decide) (backOf (W := 0) (rm9 l Z a0 hw [] b24 b6 T25.heap n0 Zs25 Fk25) hZ (hw _ (List.mem_of_getElem? (i := 51) rfl)) (hw _ (List.mem_of_getElem? (i := 32) rfl)) (by decide) (by decide)) q39a q39c (g := (mkF m 199 #[.val (.int pr), .val (.int qr), .val (.int rr), .val (.int sr), .val (.ref b1), .val (.ref b6), .val (.ref b9), .val (.ref b12), .val (.ref b15), .val (.ref b18), .val (.ref b21), .val (.ref b24), .val (.int ((sr &&& (2147483647 : Int32)) % (5 : Int32))), .val (.ref b21), .val (.int (0 : Int32))] [(.ref b24)])) rfl (by rw [hml]; rfl) (Steps.refl _) (argsL := []) (rest := []) (lenOf pd_4 rfl) rfl (by show 2 * 0 + _ ≤ _; exact Nat.le_of_eq rfl) (hb hby at_199) (fun _ _ => ⟨rfl, e38, (by decide : 12 + 0 ≤ _), (by decide : 28 + 0 ≤ _)⟩)
          dsimp only [Pt.U, Pt.locs, Pt.cells, Pt.slots] at X39 l39 y39 z39 st39 hQ39
          subst l39 y39 z39
          obtain ⟨rfl, N39q, e39⟩ := hQ39
          have N39 := Fr.app N38 N39q
          refine own_tr (b := T39.setTop (mkF m 202 #[.val (.int pr), .val (.int qr), .val (.int rr), .val (.int sr), .val (.ref b1), .val (.ref b6), .val (.ref b9), .val (.ref b12), .val (.ref b15), .val (.ref b18), .val (.ref b21), .val (.ref b24), .val (.int ((sr &&& (2147483647 : Int32)) % (5 : Int32))), .val (.ref b21), .val (.int (0 : Int32))] [(.ref b6)])) st39 ?_
          refine own_go (b := T39.setTop (mkF m 204 #[.val (.int pr), .val (.int qr), .val (.int rr), .val (.int sr), .val (.ref b1), .val (.ref b6), .val (.ref b9), .val (.ref b12), .val (.ref b15), .val (.ref b18), .val (.ref b21), .val (.ref b24), .val (.int ((sr &&& (2147483647 : Int32)) % (5 : Int32))), .val (.ref b21), .val (.int (0 : Int32))] [(.ref b6), (.ref b6)])) (fun t k => XS.aload X39.here hx rfl (hb hby at_202) rfl rfl k) ?_
          refine own_go (b := T39.setTop (mkF m 207 #[.val (.int pr), .val (.int qr), .val (.int rr), .val (.int sr), .val (.ref b1), .val (.ref b6), .val (.ref b9), .val (.ref b12), .val (.ref b15), .val (.ref b18), .val (.ref b21), .val (.ref b24), .val (.int ((sr &&& (2147483647 : Int32)) % (5 : Int32))), .val (.ref b21), .val (.int (0 : Int32))] [])) (fun t k => Jvm.RoadKit.acmp (g := (mkF m 204 #[.val (.int pr), .val (.int qr), .val (.int rr), .val (.int sr), .val (.ref b1), .val (.ref b6), .val (.ref b9), .val (.ref b12), .val (.ref b15), .val (.ref b18), .val (.ref b21), .val (.ref b24), .val (.int ((sr &&& (2147483647 : Int32)) % (5 : Int32))), .val (.ref b21), .val (.int (0 : Int32))] [(.ref b6), (.ref b6)])) X39 hx rfl rfl rfl (pc0 := 204) (pc' := 207) (same := true) rfl (hb hby at_204) rfl (decide_eq_true rfl) (by decide) (by decide) k) ?_
          refine own_go (b := T39.setTop (mkF m 208 #[.val (.int pr), .val (.int qr), .val (.int rr), .val (.int sr), .val (.ref b1), .val (.ref b6), .val (.ref b9), .val (.ref b12), .val (.ref b15), .val (.ref b18), .val (.ref b21), .val (.ref b24), .val (.int ((sr &&& (2147483647 : Int32)) % (5 : Int32))), .val (.ref b21), .val (.int (0 : Int32))] [(.int (1 : Int32))])) (fun t k => XS.iconst X39.here hx rfl (hb hby at_207) k) ?_
          refine own_go (b := T39.setTop (mkF m 212 #[.val (.int pr), .val (.int qr), .val (.int rr), .val (.int sr), .val (.ref b1), .val (.ref b6), .val (.ref b9), .val (.ref b12), .val (.ref b15), .val (.ref b18), .val (.ref b21), .val (.ref b24), .val (.int ((sr &&& (2147483647 : Int32)) % (5 : Int32))), .val (.ref b21), .val (.int (0 : Int32))] [(.int (1 : Int32))])) (fun t k => XS.goto X39.here hx rfl (pc0 := 208) (pc' := 212) rfl (hb hby at_208) (by decide) (by decide) k) ?_
          exact own_retN X39 hx hlk (t := .boolean) hrt (by simp) (hb hby at_212) (Nat.le_of_ble_eq_true rfl) (Nat.le_of_ble_eq_true rfl) (⟨rfl, N39⟩)
set_option maxRecDepth 65536 in
set_option maxHeartbeats 40000000 in
theorem comes_1 {Post : Tables → Env → Array Value → State → Outcome → State → Prop} (hpost : ∀ tb e args s v u, (limb_1_1.after args s (.returned v) u = true ∧ limb_1_2.after args s (.returned v) u = true ∧ True) → FrameEnd s (.returned v) u (Jvm.fieldLocs frame_1_writes args s ++ Jvm.arrayLocs frame_1_arrays args s ++ Jvm.staticLocs frame_1_statics s) 32 128 → Post tb e args s (.returned v) u) :
    ArmFor flags0 classFile x code maxLocals ret World_1 tables_1 room_1 Calls_1 rest_1 Pre_1 Post := by
  intro l hfl _ _ p e ha hc hk s m args below hf hA hF happ hP
  obtain ⟨hcalls, hrest, hpre⟩ := hP
  obtain ⟨-, -, -, hnamed, -, -, -, hat⟩ := (Spec.applies_iff hf).mp happ
  obtain ⟨hg, hn⟩ := and_e (Cond.before_iff.mp (show (Jvm.Cond.and given_1 narrow_1).before args s = true from hpre))
  obtain ⟨g1, g2⟩ := and_e hg
  obtain ⟨g3, g4⟩ := and_e g2
  obtain ⟨g5, g6⟩ := and_e g4
  obtain ⟨g7, g8⟩ := and_e g6
  obtain ⟨w0, w1, w2, w3, rfl⟩ : ∃ w0 w1 w2 w3 : Value, args = #[w0, w1, w2, w3] := by
    have hs : args.size = 4 := by simpa [Cond.value, given_1] using g1
    obtain ⟨L⟩ := args
    match L, hs with
    | [w0, w1, w2, w3], _ => exact ⟨w0, w1, w2, w3, rfl⟩
  have hw := fun d (hd : d ∈ tables_1) => atoms_spec (ws := Jvm.Cond.code x code maxLocals ret :: tables_1) hat d (List.mem_cons_of_mem _ hd)
  have hfit : Fit s := fun {y c} hc i hi => by
    obtain ⟨ha, rfl⟩ := Array.getElem?_eq_some_iff.mp hc
    have q := List.all_eq_true.mp ((Array.all_eq_true_iff_forall_mem.mp hF) _ (Array.getElem_mem ha)) i (List.mem_range.mpr hi)
    simpa [Array.getElem?_eq_getElem hi] using q
  obtain ⟨hsets, hown0⟩ := atoms_of _ (rest_1_c_eq ▸ (show rest_1_c.before _ s = true from hrest))
  have hr0 := Cond.before_iff.mp hown0
  obtain ⟨i0, ei0⟩ := is_v g3
  obtain rfl : w0 = (.int i0) := Option.some.inj ei0
  obtain ⟨i1, ei1⟩ := is_v g5
  obtain rfl : w1 = (.int i1) := Option.some.inj ei1
  obtain ⟨i2, ei2⟩ := is_v g7
  obtain rfl : w2 = (.int i2) := Option.some.inj ei2
  obtain ⟨i3, ei3⟩ := is_v g8
  obtain rfl : w3 = (.int i3) := Option.some.inj ei3
  obtain ⟨G1, eG⟩ := is_v (Cond.before_iff.mp (hsets _ (List.mem_of_getElem? (i := 1) rfl)))
  have O2 := Sta.start eG (Or.inl (hsets _ (List.mem_of_getElem? (i := 0) rfl)))
  have P5 : ¬ (G1 = (0 : Int32)) := gotF (Cond.eq_ints eG (Term.int_eval (0))) (not_v (Cond.before_iff.mp (hsets _ (List.mem_of_getElem? (i := 2) rfl))))
  obtain ⟨n, o, h1, h2, h3, _, L, rfl, ⟨rfl, N⟩, hq⟩ := rm0 l s _ hw tables_1 i0 i1 i2 i3 G1 s.heap s.heap.size (Nat.le_refl _) O2 P5 (Old.start s) p e ha hc hk s m _ below hf ((Spec.applies_iff_loose hf).mp happ).1 ⟨rfl, State.Warmed39.refl s, rfl⟩ trivial
  refine ⟨n, _, h1, h2, h3, hpost _ _ _ _ _ _ ⟨Cond.after_iff.mpr rfl, Cond.after_iff.mpr (eq_i res_at (Term.int_eval (1)) rfl), trivial⟩ ⟨hq.1, hq.2.1, (hq.2.2.sift fun y hy => Or.inr (N y hy)).mono (by decide) (by decide)⟩⟩
theorem main_1_1 : Claimed_1_1 := comes_1 fun _ _ _ _ _ _ h hF => ⟨h.1, hF⟩
theorem main_1_2 : Claimed_1_2 := comes_1 fun _ _ _ _ _ _ h hF => ⟨h.2.1, hF⟩
end Jvm.Pilot.@@N@@
namespace Jvm.Pilot.@@N@@
open Jvm Jvm.ClassFile Sem Op Lib Jvm.Free Jvm.Stand Jvm.Pilot.@@N@@.Jvm.D
/-! MADE BY PROGRAM (witnessworld.py) out of the Statement's table words and the real class files: 21 classes; the members and pool entries that the words name. The judged class is class 1, her method 1. -/
namespace start1
open Jvm.ClassFile
def u (s : String) : CpInfo := .utf8 (stringToUtf16 s)
/-- a pool by its gaps: so many unusable entries, then the entry; so many at the end -/
def gap : Nat → List CpInfo → List CpInfo
  | 0, r => r
  | n + 1, r => .unusable :: gap n r
def poolList (es : List (Nat × CpInfo)) (last : Nat) : List CpInfo := es.foldr (fun e r => gap e.1 (e.2 :: r)) (gap last [])
def pool (es : List (Nat × CpInfo)) (last : Nat) : Array CpInfo := ⟨poolList es last⟩
def fileOf (pool : Array CpInfo) (this : Nat) (attrs : Array Attribute := #[]) (ms : Array MethodInfo := #[]) (fl : Nat := 33) (sup : Nat := 0) (ifs : Array Nat := #[]) (fds : Array FieldInfo := #[]) : ClassFile where
  minorVersion := 0
  majorVersion := 65
  constantPool := pool
  accessFlags := fl
  thisClass := this
  superClass := sup
  interfaces := ifs
  fields := fds
  methods := ms
  attributes := attrs
def plain (name : String) (sup : Option ClassId) : Class where
  name := name
  kind := .ordinary
  loader := none
  accessFlags := 33
  super := sup
  interfaces := #[]
  cf := none
  fields := #[]
  methods := #[]
  instanceTypes := #[]
  staticTypes := #[]
  resolved := #[]
  callSites := []
  init := .initialized
  statics := none
  mirror := none

def pool0 : Array CpInfo := pool [(5, u "<init>"), (0, u "()V"), (1, .class_ 10), (1, u "java/lang/Object")] 113

def k0c0 : Code := { maxStack := 0, maxLocals := 1, code := object_method_1_code, exceptionTable := #[], attributes := #[] }
def k0m0 : Method := { name := "<init>", desc := "()V", sig := { parameters := [], returnType := none }, accessFlags := 1, code := some k0c0 }
/-- java/lang/Object -/
def k0 : Class := { plain "java/lang/Object" none with
  accessFlags := 33
  interfaces := #[]
  cf := some (fileOf pool0 8 #[] #[{ accessFlags := 1, nameIndex := 5, descriptorIndex := 6, attributes := #[] }] 33 0 #[] #[])
  fields := #[]
  methods := #[k0m0]
  instanceTypes := #[]
  staticTypes := #[]
  resolved := Array.replicate 124 none
  statics := none }

def pool1 : Array CpInfo := pool [(2, .class_ 4), (1, u "java/lang/Object"), (0, u "<init>"), (0, u "()V"), (0, .class_ 8), (0, u "java/lang/String"), (0, .methodref 7 10), (0, .nameAndType 5 11), (0, u "([C)V"), (0, .class_ 13), (0, u "com/example/vertumnus/vertumnus/interactions/constraints/SameTarget"), (0, .methodref 12 15), (0, .nameAndType 5 16), (0, u "(Ljava/lang/Object;Ljava/lang/String;)V"), (0, .integer 2147483647), (0, .methodref 12 19), (0, .nameAndType 20 21), (0, u "isSatisfiedBy"), (0, u "(Ljava/lang/Object;)Z"), (0, .methodref 12 23), (0, .nameAndType 24 25), (0, u "target"), (0, u "()Ljava/lang/Object;"), (0, .class_ 27), (0, u "com/example/vertumnus/vertumnus/interactions/constraints/SameTargetIsSatisfiedByPinLaw"), (2, u "law"), (0, u "(IIII)Z")] 5

def k1m0 : Method := { name := "<init>", desc := "()V", sig := { parameters := [], returnType := none }, accessFlags := 1, code := none }
def k1c1 : Code := { maxStack := 5, maxLocals := 15, code := code, exceptionTable := #[], attributes := #[] }
def k1m1 : Method := { name := "law", desc := "(IIII)Z", sig := { parameters := [.int, .int, .int, .int], returnType := some .boolean }, accessFlags := 9, code := some k1c1 }
/-- com/example/vertumnus/vertumnus/interactions/constraints/SameTargetIsSatisfiedByPinLaw -/
def k1 : Class := { plain "com/example/vertumnus/vertumnus/interactions/constraints/SameTargetIsSatisfiedByPinLaw" (some 0) with
  accessFlags := 49
  interfaces := #[]
  cf := some (fileOf pool1 26 #[] #[{ accessFlags := 1, nameIndex := 5, descriptorIndex := 6, attributes := #[] }, { accessFlags := 9, nameIndex := 30, descriptorIndex := 31, attributes := #[] }] 49 2 #[] #[])
  fields := #[]
  methods := #[k1m0, k1m1]
  instanceTypes := #[]
  staticTypes := #[]
  resolved := Array.replicate 37 none
  statics := none }

def pool2 : Array CpInfo := pool [(1, .class_ 2), (0, u "java/io/Serializable"), (0, .class_ 4), (0, u "java/lang/Object")] 2

/-- java/io/Serializable -/
def k2 : Class := { plain "java/io/Serializable" (some 0) with
  accessFlags := 1537
  interfaces := #[]
  cf := some (fileOf pool2 1 #[] #[] 1537 3 #[] #[])
  fields := #[]
  methods := #[]
  instanceTypes := #[]
  staticTypes := #[]
  resolved := Array.replicate 7 none
  statics := none }

def pool3 : Array CpInfo := pool [(1, .class_ 2), (0, u "java/lang/Comparable"), (0, .class_ 4), (0, u "java/lang/Object")] 7

/-- java/lang/Comparable -/
def k3 : Class := { plain "java/lang/Comparable" (some 0) with
  accessFlags := 1537
  interfaces := #[]
  cf := some (fileOf pool3 1 #[] #[] 1537 3 #[] #[])
  fields := #[]
  methods := #[]
  instanceTypes := #[]
  staticTypes := #[]
  resolved := Array.replicate 12 none
  statics := none }

def pool4 : Array CpInfo := pool [(2, .class_ 4), (1, u "java/lang/CharSequence"), (42, .class_ 48), (0, u "java/lang/CharSequence$1CodePointIterator"), (10, .class_ 60), (0, u "java/lang/CharSequence$1CharIterator"), (5, .class_ 67), (0, u "java/lang/Object")] 63

/-- java/lang/CharSequence -/
def k4 : Class := { plain "java/lang/CharSequence" (some 0) with
  accessFlags := 1537
  interfaces := #[]
  cf := some (fileOf pool4 2 #[.nestMembers #[47, 59]] #[] 1537 66 #[] #[])
  fields := #[]
  methods := #[]
  instanceTypes := #[]
  staticTypes := #[]
  resolved := Array.replicate 131 none
  statics := none }

def pool5 : Array CpInfo := pool [(1, .class_ 2), (0, u "java/lang/constant/Constable"), (0, .class_ 4), (0, u "java/lang/Object")] 6

/-- java/lang/constant/Constable -/
def k5 : Class := { plain "java/lang/constant/Constable" (some 0) with
  accessFlags := 1537
  interfaces := #[]
  cf := some (fileOf pool5 1 #[] #[] 1537 3 #[] #[])
  fields := #[]
  methods := #[]
  instanceTypes := #[]
  staticTypes := #[]
  resolved := Array.replicate 11 none
  statics := none }

def pool6 : Array CpInfo := pool [(1, .class_ 2), (0, u "java/lang/constant/ConstantDesc"), (0, .class_ 4), (0, u "java/lang/Object")] 32

/-- java/lang/constant/ConstantDesc -/
def k6 : Class := { plain "java/lang/constant/ConstantDesc" (some 0) with
  accessFlags := 1537
  interfaces := #[]
  cf := some (fileOf pool6 1 #[] #[] 1537 3 #[] #[])
  fields := #[]
  methods := #[]
  instanceTypes := #[]
  staticTypes := #[]
  resolved := Array.replicate 37 none
  statics := none }

def pool7 : Array CpInfo := pool [(1, .methodref 2 3), (0, .class_ 4), (0, .nameAndType 5 6), (0, u "java/lang/Object"), (0, u "<init>"), (0, u "()V"), (2, .fieldref 10 11), (0, .class_ 12), (0, .nameAndType 13 14), (0, u "java/lang/String"), (0, u "value"), (0, u "[B"), (0, .fieldref 10 16), (0, .nameAndType 17 18), (0, u "coder"), (0, u "B"), (2, u "hash"), (0, u "I"), (2, u "hashIsZero"), (0, u "Z"), (0, .methodref 10 28), (0, .nameAndType 5 29), (0, u "([CIILjava/lang/Void;)V"), (8, .fieldref 10 39), (0, .nameAndType 40 26), (0, u "COMPACT_STRINGS"), (1, .class_ 44), (1, u "java/lang/StringUTF16"), (0, u "compress"), (1, .methodref 42 48), (0, .nameAndType 49 50), (0, u "coderFromArrayLen"), (0, u "([BI)B"), (126, .methodref 42 178), (0, .nameAndType 45 179), (0, u "([CII)[B"), (395, .class_ 576), (0, u "java/lang/CharSequence"), (22, u "CASE_INSENSITIVE_ORDER"), (0, u "Ljava/util/Comparator;"), (409, u "([C)V"), (90, u "serialPersistentFields"), (0, u "[Ljava/io/ObjectStreamField;"), (0, .class_ 1104), (0, u "java/lang/String$CaseInsensitiveComparator"), (1, .class_ 1107), (0, u "java/io/Serializable"), (0, .class_ 1109), (0, u "java/lang/Comparable"), (0, .class_ 1111), (0, u "java/lang/constant/Constable"), (0, .class_ 1113), (0, u "java/lang/constant/ConstantDesc"), (2, u "serialVersionUID"), (0, u "J"), (3, u "REPL"), (0, u "C"), (2, u "LATIN1"), (1, u "UTF16")] 323

def k7m0 : Method := { name := "<init>", desc := "()V", sig := { parameters := [], returnType := none }, accessFlags := 1, code := none }
def k7c1 : Code := { maxStack := 5, maxLocals := 2, code := jdk_42_method_3_code, exceptionTable := #[], attributes := #[] }
def k7m1 : Method := { name := "<init>", desc := "([C)V", sig := { parameters := [(.array .char)], returnType := none }, accessFlags := 1, code := some k7c1 }
def k7c2 : Code := { maxStack := 4, maxLocals := 6, code := jdk_42_method_149_code, exceptionTable := #[], attributes := #[] }
def k7m2 : Method := { name := "<init>", desc := "([CIILjava/lang/Void;)V", sig := { parameters := [(.array .char), .int, .int, (.object "java/lang/Void")], returnType := none }, accessFlags := 2, code := some k7c2 }
/-- java/lang/String -/
def k7 : Class := { plain "java/lang/String" (some 0) with
  accessFlags := 49
  interfaces := #[2, 3, 4, 5, 6]
  cf := some (fileOf pool7 10 #[.nestMembers #[1103]] #[{ accessFlags := 1, nameIndex := 5, descriptorIndex := 6, attributes := #[] }, { accessFlags := 1, nameIndex := 5, descriptorIndex := 1010, attributes := #[] }, { accessFlags := 2, nameIndex := 5, descriptorIndex := 29, attributes := #[] }] 49 2 #[1106, 1108, 575, 1110, 1112] #[{ accessFlags := 18, nameIndex := 13, descriptorIndex := 14, attributes := #[] }, { accessFlags := 18, nameIndex := 17, descriptorIndex := 18, attributes := #[] }, { accessFlags := 2, nameIndex := 21, descriptorIndex := 22, attributes := #[] }, { accessFlags := 2, nameIndex := 25, descriptorIndex := 26, attributes := #[] }, { accessFlags := 26, nameIndex := 1116, descriptorIndex := 1117, attributes := #[] }, { accessFlags := 24, nameIndex := 40, descriptorIndex := 26, attributes := #[] }, { accessFlags := 26, nameIndex := 1101, descriptorIndex := 1102, attributes := #[] }, { accessFlags := 26, nameIndex := 1121, descriptorIndex := 1122, attributes := #[] }, { accessFlags := 25, nameIndex := 599, descriptorIndex := 600, attributes := #[] }, { accessFlags := 24, nameIndex := 1125, descriptorIndex := 18, attributes := #[] }, { accessFlags := 24, nameIndex := 1127, descriptorIndex := 18, attributes := #[] }])
  fields := #[{ name := "value", type := (.array .byte), accessFlags := 18, slot := 0, constantValue := 0 }, { name := "coder", type := .byte, accessFlags := 18, slot := 1, constantValue := 0 }, { name := "hash", type := .int, accessFlags := 2, slot := 2, constantValue := 0 }, { name := "hashIsZero", type := .boolean, accessFlags := 2, slot := 3, constantValue := 0 }, { name := "serialVersionUID", type := .long, accessFlags := 26, slot := 0, constantValue := 0 }, { name := "COMPACT_STRINGS", type := .boolean, accessFlags := 24, slot := 1, constantValue := 0 }, { name := "serialPersistentFields", type := (.array (.object "java/io/ObjectStreamField")), accessFlags := 26, slot := 2, constantValue := 0 }, { name := "REPL", type := .char, accessFlags := 26, slot := 3, constantValue := 0 }, { name := "CASE_INSENSITIVE_ORDER", type := (.object "java/util/Comparator"), accessFlags := 25, slot := 4, constantValue := 0 }, { name := "LATIN1", type := .byte, accessFlags := 24, slot := 5, constantValue := 0 }, { name := "UTF16", type := .byte, accessFlags := 24, slot := 6, constantValue := 0 }]
  methods := #[k7m0, k7m1, k7m2]
  instanceTypes := #[(.array .byte), .byte, .int, .boolean]
  staticTypes := #[.long, .boolean, (.array (.object "java/io/ObjectStreamField")), .char, (.object "java/util/Comparator"), .byte, .byte]
  resolved := Array.replicate 1451 none
  statics := some 0 }

def pool8 : Array CpInfo := pool [(6, .class_ 8), (1, u "java/lang/Object"), (0, u "<init>"), (0, u "()V"), (1, .class_ 14), (1, u "java/lang/StringUTF16"), (31, u "$assertionsDisabled"), (0, u "Z"), (13, u "HI_BYTE_SHIFT"), (0, u "I"), (2, u "LO_BYTE_SHIFT"), (49, .methodref 12 116), (0, .nameAndType 117 118), (0, u "compress"), (0, u "([CI[BII)I"), (3, u "([CII)[B"), (138, u "coderFromArrayLen"), (0, u "([BI)B"), (106, .class_ 371), (1, u "java/lang/StringUTF16$LinesSpliterator"), (58, u "MAX_LENGTH"), (196, .class_ 628), (0, u "java/lang/StringUTF16$CodePointsSpliterator"), (0, .class_ 630), (0, u "java/lang/StringUTF16$CharsSpliterator")] 4

def k8m0 : Method := { name := "<init>", desc := "()V", sig := { parameters := [], returnType := none }, accessFlags := 0, code := none }
def k8c1 : Code := { maxStack := 2, maxLocals := 2, code := jdk_52_method_15_code, exceptionTable := #[], attributes := #[] }
def k8m1 : Method := { name := "coderFromArrayLen", desc := "([BI)B", sig := { parameters := [(.array .byte), .int], returnType := some .byte }, accessFlags := 8, code := some k8c1 }
def k8c2 : Code := { maxStack := 5, maxLocals := 6, code := jdk_52_method_16_code, exceptionTable := #[], attributes := #[] }
def k8m2 : Method := { name := "compress", desc := "([CII)[B", sig := { parameters := [(.array .char), .int, .int], returnType := some (.array .byte) }, accessFlags := 9, code := some k8c2 }
def k8c3 : Code := { maxStack := 3, maxLocals := 7, code := jdk_52_method_21_code, exceptionTable := #[], attributes := #[] }
def k8m3 : Method := { name := "compress", desc := "([CI[BII)I", sig := { parameters := [(.array .char), .int, (.array .byte), .int, .int], returnType := some .int }, accessFlags := 9, code := some k8c3 }
/-- java/lang/StringUTF16 -/
def k8 : Class := { plain "java/lang/StringUTF16" (some 0) with
  accessFlags := 48
  interfaces := #[]
  cf := some (fileOf pool8 12 #[.nestMembers #[627, 629, 369]] #[{ accessFlags := 0, nameIndex := 9, descriptorIndex := 10, attributes := #[] }, { accessFlags := 8, nameIndex := 261, descriptorIndex := 262, attributes := #[] }, { accessFlags := 9, nameIndex := 117, descriptorIndex := 122, attributes := #[] }, { accessFlags := 9, nameIndex := 117, descriptorIndex := 118, attributes := #[] }] 48 6 #[] #[{ accessFlags := 26, nameIndex := 61, descriptorIndex := 62, attributes := #[] }, { accessFlags := 26, nameIndex := 65, descriptorIndex := 62, attributes := #[] }, { accessFlags := 24, nameIndex := 430, descriptorIndex := 62, attributes := #[] }, { accessFlags := 4120, nameIndex := 46, descriptorIndex := 47, attributes := #[] }])
  fields := #[{ name := "HI_BYTE_SHIFT", type := .int, accessFlags := 26, slot := 0, constantValue := 0 }, { name := "LO_BYTE_SHIFT", type := .int, accessFlags := 26, slot := 1, constantValue := 0 }, { name := "MAX_LENGTH", type := .int, accessFlags := 24, slot := 2, constantValue := 0 }, { name := "$assertionsDisabled", type := .boolean, accessFlags := 4120, slot := 3, constantValue := 0 }]
  methods := #[k8m0, k8m1, k8m2, k8m3]
  instanceTypes := #[]
  staticTypes := #[.int, .int, .int, .boolean]
  resolved := Array.replicate 635 none
  statics := none }

def pool9 : Array CpInfo := pool [(1, .class_ 2), (0, u "com/example/vertumnus/vertumnus/interactions/constraints/TargetConstraint"), (0, .class_ 4), (0, u "java/lang/Object")] 8

/-- com/example/vertumnus/vertumnus/interactions/constraints/TargetConstraint -/
def k9 : Class := { plain "com/example/vertumnus/vertumnus/interactions/constraints/TargetConstraint" (some 0) with
  accessFlags := 1537
  interfaces := #[]
  cf := some (fileOf pool9 1 #[] #[] 1537 3 #[] #[])
  fields := #[]
  methods := #[]
  instanceTypes := #[]
  staticTypes := #[]
  resolved := Array.replicate 13 none
  statics := none }

def pool10 : Array CpInfo := pool [(1, .methodref 2 3), (0, .class_ 4), (0, .nameAndType 5 6), (0, u "java/lang/Object"), (0, u "<init>"), (0, u "()V"), (0, .fieldref 8 9), (0, .class_ 10), (0, .nameAndType 11 12), (0, u "com/example/vertumnus/vertumnus/interactions/constraints/SameTarget"), (0, u "target"), (0, u "Ljava/lang/Object;"), (0, .fieldref 8 14), (0, .nameAndType 15 16), (0, u "name"), (0, u "Ljava/lang/String;"), (0, .class_ 18), (0, u "com/example/vertumnus/vertumnus/interactions/constraints/TargetConstraint"), (0, u "(Ljava/lang/Object;Ljava/lang/String;)V"), (2, u "()Ljava/lang/Object;"), (0, u "isSatisfiedBy"), (0, u "(Ljava/lang/Object;)Z")] 5

def k10c0 : Code := { maxStack := 2, maxLocals := 3, code := prog_84_method_1_code, exceptionTable := #[], attributes := #[] }
def k10m0 : Method := { name := "<init>", desc := "(Ljava/lang/Object;Ljava/lang/String;)V", sig := { parameters := [(.object "java/lang/Object"), (.object "java/lang/String")], returnType := none }, accessFlags := 1, code := some k10c0 }
def k10c1 : Code := { maxStack := 1, maxLocals := 1, code := prog_84_method_2_code, exceptionTable := #[], attributes := #[] }
def k10m1 : Method := { name := "target", desc := "()Ljava/lang/Object;", sig := { parameters := [], returnType := some (.object "java/lang/Object") }, accessFlags := 1, code := some k10c1 }
def k10c2 : Code := { maxStack := 2, maxLocals := 2, code := prog_84_method_3_code, exceptionTable := #[], attributes := #[] }
def k10m2 : Method := { name := "isSatisfiedBy", desc := "(Ljava/lang/Object;)Z", sig := { parameters := [(.object "java/lang/Object")], returnType := some .boolean }, accessFlags := 1, code := some k10c2 }
/-- com/example/vertumnus/vertumnus/interactions/constraints/SameTarget -/
def k10 : Class := { plain "com/example/vertumnus/vertumnus/interactions/constraints/SameTarget" (some 0) with
  accessFlags := 33
  interfaces := #[9]
  cf := some (fileOf pool10 8 #[] #[{ accessFlags := 1, nameIndex := 5, descriptorIndex := 19, attributes := #[] }, { accessFlags := 1, nameIndex := 11, descriptorIndex := 22, attributes := #[] }, { accessFlags := 1, nameIndex := 23, descriptorIndex := 24, attributes := #[] }] 33 2 #[17] #[{ accessFlags := 18, nameIndex := 11, descriptorIndex := 12, attributes := #[] }, { accessFlags := 18, nameIndex := 15, descriptorIndex := 16, attributes := #[] }])
  fields := #[{ name := "target", type := (.object "java/lang/Object"), accessFlags := 18, slot := 0, constantValue := 0 }, { name := "name", type := (.object "java/lang/String"), accessFlags := 18, slot := 1, constantValue := 0 }]
  methods := #[k10m0, k10m1, k10m2]
  instanceTypes := #[(.object "java/lang/Object"), (.object "java/lang/String")]
  staticTypes := #[]
  resolved := Array.replicate 30 none
  statics := none }

def pool11 : Array CpInfo := pool [(4, .class_ 6), (1, u "java/lang/Object"), (0, u "<init>"), (0, u "()V"), (5, .class_ 16), (1, u "java/lang/StringLatin1"), (104, u "$assertionsDisabled"), (0, u "Z"), (98, .class_ 223), (1, u "java/lang/StringLatin1$LinesSpliterator"), (166, .class_ 391), (0, u "java/lang/StringLatin1$CharsSpliterator")] 3

def k11m0 : Method := { name := "<init>", desc := "()V", sig := { parameters := [], returnType := none }, accessFlags := 0, code := none }
/-- java/lang/StringLatin1 -/
def k11 : Class := { plain "java/lang/StringLatin1" (some 0) with
  accessFlags := 48
  interfaces := #[]
  cf := some (fileOf pool11 14 #[.nestMembers #[390, 221]] #[{ accessFlags := 0, nameIndex := 7, descriptorIndex := 8, attributes := #[] }] 48 4 #[] #[{ accessFlags := 4120, nameIndex := 121, descriptorIndex := 122, attributes := #[] }])
  fields := #[{ name := "$assertionsDisabled", type := .boolean, accessFlags := 4120, slot := 0, constantValue := 0 }]
  methods := #[k11m0]
  instanceTypes := #[]
  staticTypes := #[.boolean]
  resolved := Array.replicate 395 none
  statics := none }

def pool12 : Array CpInfo := pool [(2, .class_ 4), (1, u "java/lang/Object"), (0, u "<init>"), (0, u "()V"), (17, .class_ 26), (1, u "jdk/internal/util/Preconditions"), (28, .class_ 56), (0, u "jdk/internal/util/Preconditions$4"), (57, .class_ 115), (0, u "jdk/internal/util/Preconditions$1"), (7, u "SIOOBE_FORMATTER"), (0, u "Ljava/util/function/BiFunction;"), (0, .class_ 126), (0, u "jdk/internal/util/Preconditions$2"), (3, u "AIOOBE_FORMATTER"), (0, .class_ 132), (0, u "jdk/internal/util/Preconditions$3"), (3, u "IOOBE_FORMATTER")] 57

def k12m0 : Method := { name := "<init>", desc := "()V", sig := { parameters := [], returnType := none }, accessFlags := 1, code := none }
/-- jdk/internal/util/Preconditions -/
def k12 : Class := { plain "jdk/internal/util/Preconditions" (some 0) with
  accessFlags := 33
  interfaces := #[]
  cf := some (fileOf pool12 24 #[.nestMembers #[55, 131, 125, 114]] #[{ accessFlags := 1, nameIndex := 5, descriptorIndex := 6, attributes := #[] }] 33 2 #[] #[{ accessFlags := 25, nameIndex := 123, descriptorIndex := 124, attributes := #[] }, { accessFlags := 25, nameIndex := 130, descriptorIndex := 124, attributes := #[] }, { accessFlags := 25, nameIndex := 136, descriptorIndex := 124, attributes := #[] }])
  fields := #[{ name := "SIOOBE_FORMATTER", type := (.object "java/util/function/BiFunction"), accessFlags := 25, slot := 0, constantValue := 0 }, { name := "AIOOBE_FORMATTER", type := (.object "java/util/function/BiFunction"), accessFlags := 25, slot := 1, constantValue := 0 }, { name := "IOOBE_FORMATTER", type := (.object "java/util/function/BiFunction"), accessFlags := 25, slot := 2, constantValue := 0 }]
  methods := #[k12m0]
  instanceTypes := #[]
  staticTypes := #[(.object "java/util/function/BiFunction"), (.object "java/util/function/BiFunction"), (.object "java/util/function/BiFunction")]
  resolved := Array.replicate 194 none
  statics := some 1 }

def pool13 : Array CpInfo := pool [(9, u "<init>"), (6, .class_ 18), (1, u "java/lang/Object"), (0, u "()V"), (1, .class_ 23), (1, u "jdk/internal/util/ArraysSupport"), (0, u "LOG2_ARRAY_LONG_INDEX_SCALE"), (0, u "I"), (2, u "U"), (0, u "Ljdk/internal/misc/Unsafe;"), (8, u "BIG_ENDIAN"), (0, u "Z"), (8, u "LOG2_BYTE_BIT_SIZE"), (4, u "LOG2_ARRAY_INT_INDEX_SCALE"), (54, u "JLA"), (0, u "Ljdk/internal/access/JavaLangAccess;"), (11, u "LOG2_ARRAY_BOOLEAN_INDEX_SCALE"), (9, u "LOG2_ARRAY_BYTE_INDEX_SCALE"), (5, u "LOG2_ARRAY_CHAR_INDEX_SCALE"), (5, u "LOG2_ARRAY_SHORT_INDEX_SCALE"), (18, u "LOG2_ARRAY_FLOAT_INDEX_SCALE"), (24, u "LOG2_ARRAY_DOUBLE_INDEX_SCALE"), (89, u "T_BOOLEAN"), (2, u "T_CHAR"), (1, u "T_FLOAT"), (1, u "T_DOUBLE"), (1, u "T_BYTE"), (1, u "T_SHORT"), (1, u "T_INT"), (1, u "T_LONG"), (1, u "SOFT_MAX_ARRAY_LENGTH")] 83

def k13m0 : Method := { name := "<init>", desc := "()V", sig := { parameters := [], returnType := none }, accessFlags := 2, code := none }
/-- jdk/internal/util/ArraysSupport -/
def k13 : Class := { plain "jdk/internal/util/ArraysSupport" (some 0) with
  accessFlags := 33
  interfaces := #[]
  cf := some (fileOf pool13 21 #[] #[{ accessFlags := 2, nameIndex := 9, descriptorIndex := 19, attributes := #[] }] 33 16 #[] #[{ accessFlags := 24, nameIndex := 28, descriptorIndex := 29, attributes := #[] }, { accessFlags := 26, nameIndex := 38, descriptorIndex := 39, attributes := #[] }, { accessFlags := 25, nameIndex := 121, descriptorIndex := 25, attributes := #[] }, { accessFlags := 25, nameIndex := 131, descriptorIndex := 25, attributes := #[] }, { accessFlags := 25, nameIndex := 137, descriptorIndex := 25, attributes := #[] }, { accessFlags := 25, nameIndex := 143, descriptorIndex := 25, attributes := #[] }, { accessFlags := 25, nameIndex := 53, descriptorIndex := 25, attributes := #[] }, { accessFlags := 25, nameIndex := 24, descriptorIndex := 25, attributes := #[] }, { accessFlags := 25, nameIndex := 162, descriptorIndex := 25, attributes := #[] }, { accessFlags := 25, nameIndex := 187, descriptorIndex := 25, attributes := #[] }, { accessFlags := 26, nameIndex := 48, descriptorIndex := 25, attributes := #[] }, { accessFlags := 25, nameIndex := 277, descriptorIndex := 25, attributes := #[] }, { accessFlags := 25, nameIndex := 280, descriptorIndex := 25, attributes := #[] }, { accessFlags := 25, nameIndex := 282, descriptorIndex := 25, attributes := #[] }, { accessFlags := 25, nameIndex := 284, descriptorIndex := 25, attributes := #[] }, { accessFlags := 25, nameIndex := 286, descriptorIndex := 25, attributes := #[] }, { accessFlags := 25, nameIndex := 288, descriptorIndex := 25, attributes := #[] }, { accessFlags := 25, nameIndex := 290, descriptorIndex := 25, attributes := #[] }, { accessFlags := 25, nameIndex := 292, descriptorIndex := 25, attributes := #[] }, { accessFlags := 26, nameIndex := 108, descriptorIndex := 109, attributes := #[] }, { accessFlags := 25, nameIndex := 294, descriptorIndex := 25, attributes := #[] }])
  fields := #[{ name := "U", type := (.object "jdk/internal/misc/Unsafe"), accessFlags := 24, slot := 0, constantValue := 0 }, { name := "BIG_ENDIAN", type := .boolean, accessFlags := 26, slot := 1, constantValue := 0 }, { name := "LOG2_ARRAY_BOOLEAN_INDEX_SCALE", type := .int, accessFlags := 25, slot := 2, constantValue := 0 }, { name := "LOG2_ARRAY_BYTE_INDEX_SCALE", type := .int, accessFlags := 25, slot := 3, constantValue := 0 }, { name := "LOG2_ARRAY_CHAR_INDEX_SCALE", type := .int, accessFlags := 25, slot := 4, constantValue := 0 }, { name := "LOG2_ARRAY_SHORT_INDEX_SCALE", type := .int, accessFlags := 25, slot := 5, constantValue := 0 }, { name := "LOG2_ARRAY_INT_INDEX_SCALE", type := .int, accessFlags := 25, slot := 6, constantValue := 0 }, { name := "LOG2_ARRAY_LONG_INDEX_SCALE", type := .int, accessFlags := 25, slot := 7, constantValue := 0 }, { name := "LOG2_ARRAY_FLOAT_INDEX_SCALE", type := .int, accessFlags := 25, slot := 8, constantValue := 0 }, { name := "LOG2_ARRAY_DOUBLE_INDEX_SCALE", type := .int, accessFlags := 25, slot := 9, constantValue := 0 }, { name := "LOG2_BYTE_BIT_SIZE", type := .int, accessFlags := 26, slot := 10, constantValue := 0 }, { name := "T_BOOLEAN", type := .int, accessFlags := 25, slot := 11, constantValue := 0 }, { name := "T_CHAR", type := .int, accessFlags := 25, slot := 12, constantValue := 0 }, { name := "T_FLOAT", type := .int, accessFlags := 25, slot := 13, constantValue := 0 }, { name := "T_DOUBLE", type := .int, accessFlags := 25, slot := 14, constantValue := 0 }, { name := "T_BYTE", type := .int, accessFlags := 25, slot := 15, constantValue := 0 }, { name := "T_SHORT", type := .int, accessFlags := 25, slot := 16, constantValue := 0 }, { name := "T_INT", type := .int, accessFlags := 25, slot := 17, constantValue := 0 }, { name := "T_LONG", type := .int, accessFlags := 25, slot := 18, constantValue := 0 }, { name := "JLA", type := (.object "jdk/internal/access/JavaLangAccess"), accessFlags := 26, slot := 19, constantValue := 0 }, { name := "SOFT_MAX_ARRAY_LENGTH", type := .int, accessFlags := 25, slot := 20, constantValue := 0 }]
  methods := #[k13m0]
  instanceTypes := #[]
  staticTypes := #[(.object "jdk/internal/misc/Unsafe"), .boolean, .int, .int, .int, .int, .int, .int, .int, .int, .int, .int, .int, .int, .int, .int, .int, .int, .int, (.object "jdk/internal/access/JavaLangAccess"), .int]
  resolved := Array.replicate 378 none
  statics := none }

def pool14 : Array CpInfo := pool [(1, u "java/lang/Cloneable"), (0, .class_ 1), (0, u "java/lang/Object"), (0, .class_ 3)] 3

/-- java/lang/Cloneable -/
def k14 : Class := { plain "java/lang/Cloneable" (some 0) with
  accessFlags := 1537
  interfaces := #[]
  cf := some (fileOf pool14 2 #[] #[] 1537 4 #[] #[])
  fields := #[]
  methods := #[]
  instanceTypes := #[]
  staticTypes := #[]
  resolved := Array.replicate 8 none
  statics := none }

/-- the primitive byte -/
def k15 : Class := { plain "byte" none with kind := .primitive 'B', accessFlags := 0x411 }
/-- [B -/
def k16 : Class := { plain "[B" (some 0) with kind := .array 15 .byte, interfaces := #[14, 2], accessFlags := 1041 }

/-- the primitive char -/
def k17 : Class := { plain "char" none with kind := .primitive 'C', accessFlags := 0x411 }
/-- [C -/
def k18 : Class := { plain "[C" (some 0) with kind := .array 17 .char, interfaces := #[14, 2], accessFlags := 1041 }

/-- the primitive int -/
def k19 : Class := { plain "int" none with kind := .primitive 'I', accessFlags := 0x411 }
/-- [I -/
def k20 : Class := { plain "[I" (some 0) with kind := .array 19 .int, interfaces := #[14, 2], accessFlags := 1041 }

def heap : Heap := #[{ cls := 7, slots := #[.long 0, .int 1, .null, .int 0, .null, .int 0, .int 0], vm := .statics 7 },
  { cls := 12, slots := #[.null, .null, .null], vm := .statics 12 }]
def classes : Array Class := #[k0, k1, k2, k3, k4, k5, k6, k7, k8, k9, k10, k11, k12, k13, k14, k15, k16, k17, k18, k19, k20]
def interned : List (Array UInt16 × Addr) := []
def slotsUsed : Nat := 10
def theMethod : MethodId := ⟨1, 1⟩
def args0 : Array Value := #[.int 65, .int 66, .int 67, .int 1]
def aboutOver (below : List Frame) : State where
  vm := { classes := classes, interned := interned.toArray }
  heap := heap
  slotsUsed := slotsUsed
  threads := #[{ frames := .invoking theMethod args0 :: below }]
def below0 : List Frame := [.native { method := ⟨0, 0⟩, args := #[] }]
def about1 : State := aboutOver below0
def p0 : Program := .bare "" "" ""
def e0 : Env := launch0.env 0 0 0
theorem w_frames : about1.frames = Frame.invoking theMethod args0 :: below0 := rfl
set_option maxRecDepth 65536 in
theorem w_args : argsFit about1.vm theMethod args0 = true := by decide +kernel
set_option maxRecDepth 65536 in
theorem w_heap : heapFits about1 = true := by decide +kernel
set_option maxRecDepth 65536 in
theorem w_runnable : about1.curStatus? = some .runnable := by decide +kernel
set_option maxRecDepth 65536 in
theorem w_alone : about1.alone = true := by decide +kernel
set_option maxRecDepth 65536 in
theorem w_named : about1.methodNamed? x = some theMethod := by decide +kernel
set_option maxRecDepth 65536 in
theorem w_hears : about1.hears theMethod below0 = true := by decide +kernel
set_option maxRecDepth 65536 in
theorem w_ripe : about1.ripe theMethod args0 below0 = true := by decide +kernel
theorem w_running : about1.status = .running := rfl
set_option maxRecDepth 65536 in
theorem w_room : about1.hasRoom e0.platform room_1 = true :=
  launch0.hasRoom_least _ room_1 (by decide +kernel) (by decide +kernel) (by decide +kernel) (by decide +kernel) (by decide +kernel) (by decide +kernel)
theorem allAtoms_all (ts : List Jvm.Cond) (a : Array Jvm.Value) (st : Jvm.State) : (allAtoms ts).before a st = ts.all (fun c => c.before a st) := by
  induction ts with
  | nil => rfl
  | cons c t ih =>
    show (Jvm.Cond.and c (allAtoms t)).before a st = _
    rw [Jvm.Cond.before_and, ih, List.all_cons]
def words1 : List Jvm.Cond := Jvm.Cond.code x code maxLocals ret :: tables_1
/-- a 'code' word, met by the world's own term for the bytes: nothing is compared byte by byte -/
theorem code_word {y : MethodName} {bytes : ByteArray} {mx : Nat} {rt : Option FieldType} {a : Array Value} {s : State} {m : MethodId} {meth : Method} {c : Code} (h1 : s.methodNamed? y = some m) (h2 : s.vm.method? m = some meth) (h3 : meth.code = some c) (h4 : c.code = bytes)
    (h5 : (c.maxLocals == mx && c.exceptionTable.isEmpty && decide (c.maxStack ≤ mostOperands) && decide (meth.sig.returnType = rt) && !meth.locks && decide (parseMethodDescriptor y.desc = some meth.sig)) = true) : (Jvm.Cond.code y bytes mx rt).before a s = true := by
  simp only [Bool.and_eq_true, beq_iff_eq, Bool.not_eq_true', decide_eq_true_eq] at h5
  obtain ⟨⟨⟨⟨⟨g1, g2⟩, g3⟩, g4⟩, g5⟩, g6⟩ := h5
  simp [Cond.before, Cond.holds, Cond.value, h1, h2, h3, h4, g1, g2, g3, g4, g5, g6]
def isCode : Jvm.Cond → Bool
  | .code _ _ _ _ => true
  | _ => false
theorem all_split {L : List Jvm.Cond} {P : Jvm.Cond → Bool} (h1 : L.all (fun c => isCode c || P c) = true) (h2 : ∀ c ∈ L.filter isCode, P c = true) : L.all P = true := by
  refine List.all_eq_true.mpr fun c hc => ?_
  have h := List.all_eq_true.mp h1 c hc
  rcases Bool.eq_false_or_eq_true (isCode c) with hi | hi
  · exact h2 c (List.mem_filter.mpr ⟨hc, hi⟩)
  · simpa [hi] using h
set_option maxRecDepth 65536 in
theorem w_c0 : (Jvm.Cond.code x code maxLocals ret).before args0 about1 = true := code_word (m := ⟨1, 1⟩) (meth := k1m1) (c := k1c1) (by decide +kernel) rfl rfl rfl (by decide +kernel)
set_option maxRecDepth 65536 in
theorem w_c1 : (Jvm.Cond.code ({ cls := "java/lang/String", name := "<init>", desc := "([C)V" } : Jvm.MethodName) jdk_42_method_3_code (2 : Nat) (Option.none : Option Jvm.ClassFile.FieldType)).before args0 about1 = true := code_word (m := ⟨7, 1⟩) (meth := k7m1) (c := k7c1) (by decide +kernel) rfl rfl rfl (by decide +kernel)
set_option maxRecDepth 65536 in
theorem w_c2 : (Jvm.Cond.code ({ cls := "java/lang/String", name := "<init>", desc := "([CIILjava/lang/Void;)V" } : Jvm.MethodName) jdk_42_method_149_code (6 : Nat) (Option.none : Option Jvm.ClassFile.FieldType)).before args0 about1 = true := code_word (m := ⟨7, 2⟩) (meth := k7m2) (c := k7c2) (by decide +kernel) rfl rfl rfl (by decide +kernel)
set_option maxRecDepth 65536 in
theorem w_c3 : (Jvm.Cond.code ({ cls := "java/lang/Object", name := "<init>", desc := "()V" } : Jvm.MethodName) object_method_1_code (1 : Nat) (Option.none : Option Jvm.ClassFile.FieldType)).before args0 about1 = true := code_word (m := ⟨0, 0⟩) (meth := k0m0) (c := k0c0) (by decide +kernel) rfl rfl rfl (by decide +kernel)
set_option maxRecDepth 65536 in
theorem w_c4 : (Jvm.Cond.code ({ cls := "java/lang/StringUTF16", name := "compress", desc := "([CII)[B" } : Jvm.MethodName) jdk_52_method_16_code (6 : Nat) (Option.some (Jvm.ClassFile.FieldType.array Jvm.ClassFile.FieldType.byte))).before args0 about1 = true := code_word (m := ⟨8, 2⟩) (meth := k8m2) (c := k8c2) (by decide +kernel) rfl rfl rfl (by decide +kernel)
set_option maxRecDepth 65536 in
theorem w_c5 : (Jvm.Cond.code ({ cls := "java/lang/StringUTF16", name := "compress", desc := "([CI[BII)I" } : Jvm.MethodName) jdk_52_method_21_code (7 : Nat) (Option.some Jvm.ClassFile.FieldType.int)).before args0 about1 = true := code_word (m := ⟨8, 3⟩) (meth := k8m3) (c := k8c3) (by decide +kernel) rfl rfl rfl (by decide +kernel)
set_option maxRecDepth 65536 in
theorem w_c6 : (Jvm.Cond.code ({ cls := "java/lang/StringUTF16", name := "coderFromArrayLen", desc := "([BI)B" } : Jvm.MethodName) jdk_52_method_15_code (2 : Nat) (Option.some Jvm.ClassFile.FieldType.byte)).before args0 about1 = true := code_word (m := ⟨8, 1⟩) (meth := k8m1) (c := k8c1) (by decide +kernel) rfl rfl rfl (by decide +kernel)
set_option maxRecDepth 65536 in
theorem w_c7 : (Jvm.Cond.code ({ cls := "com/example/vertumnus/vertumnus/interactions/constraints/SameTarget", name := "<init>", desc := "(Ljava/lang/Object;Ljava/lang/String;)V" } : Jvm.MethodName) prog_84_method_1_code (3 : Nat) (Option.none : Option Jvm.ClassFile.FieldType)).before args0 about1 = true := code_word (m := ⟨10, 0⟩) (meth := k10m0) (c := k10c0) (by decide +kernel) rfl rfl rfl (by decide +kernel)
set_option maxRecDepth 65536 in
theorem w_c8 : (Jvm.Cond.code ({ cls := "com/example/vertumnus/vertumnus/interactions/constraints/SameTarget", name := "isSatisfiedBy", desc := "(Ljava/lang/Object;)Z" } : Jvm.MethodName) prog_84_method_3_code (2 : Nat) (Option.some Jvm.ClassFile.FieldType.boolean)).before args0 about1 = true := code_word (m := ⟨10, 2⟩) (meth := k10m2) (c := k10c2) (by decide +kernel) rfl rfl rfl (by decide +kernel)
set_option maxRecDepth 65536 in
theorem w_c9 : (Jvm.Cond.code ({ cls := "com/example/vertumnus/vertumnus/interactions/constraints/SameTarget", name := "target", desc := "()Ljava/lang/Object;" } : Jvm.MethodName) prog_84_method_2_code (1 : Nat) (Option.some (Jvm.ClassFile.FieldType.object "java/lang/Object"))).before args0 about1 = true := code_word (m := ⟨10, 1⟩) (meth := k10m1) (c := k10c1) (by decide +kernel) rfl rfl rfl (by decide +kernel)
def codes1 : List Jvm.Cond := [Jvm.Cond.code x code maxLocals ret, Jvm.Cond.code ({ cls := "java/lang/String", name := "<init>", desc := "([C)V" } : Jvm.MethodName) jdk_42_method_3_code (2 : Nat) (Option.none : Option Jvm.ClassFile.FieldType), Jvm.Cond.code ({ cls := "java/lang/String", name := "<init>", desc := "([CIILjava/lang/Void;)V" } : Jvm.MethodName) jdk_42_method_149_code (6 : Nat) (Option.none : Option Jvm.ClassFile.FieldType), Jvm.Cond.code ({ cls := "java/lang/Object", name := "<init>", desc := "()V" } : Jvm.MethodName) object_method_1_code (1 : Nat) (Option.none : Option Jvm.ClassFile.FieldType), Jvm.Cond.code ({ cls := "java/lang/StringUTF16", name := "compress", desc := "([CII)[B" } : Jvm.MethodName) jdk_52_method_16_code (6 : Nat) (Option.some (Jvm.ClassFile.FieldType.array Jvm.ClassFile.FieldType.byte)), Jvm.Cond.code ({ cls := "java/lang/StringUTF16", name := "compress", desc := "([CI[BII)I" } : Jvm.MethodName) jdk_52_method_21_code (7 : Nat) (Option.some Jvm.ClassFile.FieldType.int), Jvm.Cond.code ({ cls := "java/lang/StringUTF16", name := "coderFromArrayLen", desc := "([BI)B" } : Jvm.MethodName) jdk_52_method_15_code (2 : Nat) (Option.some Jvm.ClassFile.FieldType.byte), Jvm.Cond.code ({ cls := "com/example/vertumnus/vertumnus/interactions/constraints/SameTarget", name := "<init>", desc := "(Ljava/lang/Object;Ljava/lang/String;)V" } : Jvm.MethodName) prog_84_method_1_code (3 : Nat) (Option.none : Option Jvm.ClassFile.FieldType), Jvm.Cond.code ({ cls := "com/example/vertumnus/vertumnus/interactions/constraints/SameTarget", name := "isSatisfiedBy", desc := "(Ljava/lang/Object;)Z" } : Jvm.MethodName) prog_84_method_3_code (2 : Nat) (Option.some Jvm.ClassFile.FieldType.boolean), Jvm.Cond.code ({ cls := "com/example/vertumnus/vertumnus/interactions/constraints/SameTarget", name := "target", desc := "()Ljava/lang/Object;" } : Jvm.MethodName) prog_84_method_2_code (1 : Nat) (Option.some (Jvm.ClassFile.FieldType.object "java/lang/Object"))]
set_option maxRecDepth 65536 in
theorem codes_eq : words1.filter isCode = codes1 := rfl
theorem w_codes : ∀ c ∈ words1.filter isCode, c.before args0 about1 = true := by
  rw [codes_eq]
  intro c hc
  simp only [codes1, List.mem_cons, List.not_mem_nil, or_false] at hc
  rcases hc with rfl | rfl | rfl | rfl | rfl | rfl | rfl | rfl | rfl | rfl
  · exact w_c0
  · exact w_c1
  · exact w_c2
  · exact w_c3
  · exact w_c4
  · exact w_c5
  · exact w_c6
  · exact w_c7
  · exact w_c8
  · exact w_c9
set_option maxRecDepth 65536 in
theorem w_t1 : (words1.take 24).all (fun c => isCode c || c.before args0 about1) = true := by decide +kernel
set_option maxRecDepth 65536 in
theorem w_t2 : ((words1.drop 24).take 24).all (fun c => isCode c || c.before args0 about1) = true := by decide +kernel
set_option maxRecDepth 65536 in
theorem w_t3 : ((words1.drop 24).drop 24).all (fun c => isCode c || c.before args0 about1) = true := by decide +kernel
theorem w_tables : (allAtoms (Jvm.Cond.code x code maxLocals ret :: tables_1)).before args0 about1 = true := by
  rw [allAtoms_all]
  show words1.all (fun c => c.before args0 about1) = true
  refine all_split ?_ w_codes
  rw [← List.take_append_drop 24 words1, List.all_append, w_t1, ← List.take_append_drop 24 (words1.drop 24), List.all_append, w_t2, w_t3]
  rfl
set_option maxRecDepth 65536 in
theorem w_rest : rest_1_c.before args0 about1 = true := by decide +kernel
set_option maxRecDepth 65536 in
theorem w_case : (Jvm.Cond.and given_1 narrow_1).before args0 about1 = true := by decide +kernel
theorem w_applies : (headSpec (Jvm.Cond.code x code maxLocals ret :: tables_1) room_1).applies x e0.platform about1 = true :=
  (Spec.applies_iff w_frames).mpr ⟨w_running, w_runnable, w_alone, w_named, w_hears, w_ripe, w_room, w_tables⟩
theorem atStart : AtStart classFile x code maxLocals ret World_1 tables_1 room_1 Calls_1 rest_1 Pre_1 launch0 p0 e0 about1 theMethod args0 below0 :=
  ⟨lists_1, trivial, launch0.admits_env _ _ _, launch0.least_env, fairChoices_fair.cas, fairChoices_fair.clock, w_frames, w_args, w_heap, w_applies, trivial, w_rest, w_case⟩
end start1
theorem witness_1 : WitnessClaimed_1 := ⟨start1.p0, start1.e0, start1.about1, start1.theMethod, start1.args0, start1.below0, start1.atStart⟩
end Jvm.Pilot.@@N@@
