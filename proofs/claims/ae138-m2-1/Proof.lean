import JvmDerived
import JvmDerived.Pilot.@@N@@Statement
import JvmDerived.Pilot.@@N@@Code
set_option linter.unusedVariables false
set_option linter.unusedSimpArgs false
namespace Jvm.RoadKit
open Sem ClassFile Op Lib Jvm.Stand Jvm.Free Jvm.LawKit
section New
variable {p : Program} {l : Launch} {e : Env} {R : Room} {s : State} {m : MethodId} {args : Array Value} {below : List Frame} {meth : Method} {c : Code} {T : State} {locs : List Loc} {cells slots : Nat}
theorem retI (X : Stand p l e R s m args below meth c T locs cells slots) (hx : p.tables.exec = Jvm.exec) {pc : Nat} {Ls : Array Slot} {z : Int32} {rest : List Value} (hret : meth.sig.returnType = some .int) (hd : decode c.code pc = .ok (.ireturn, 1)) {fs : List Frame}
    (hl : ∀ (f : JFrame) (acts : List Action), f.method = m → f.locked = none → f.entered = [] → (doReturn e (T.setTop f) acts (some (.int z))).1 = T.setFrames fs) : Steps p.tables e below (T.setTop (mkF m pc Ls (.int z :: rest))) (T.setFrames fs) := by
  have hm' : T.vm.method? m = some meth := X.method'
  have hn : narrow .int (.int z) = .int z := rfl
  show Steps p.tables e below (T.setTop { method := m, pc := pc, locals := Ls, stack := _ :: rest, locked := none }) _
  jvm_step X.here [X.here.top, hx, hd, hm', hret, hn]
  first | (intro acts; rw [hl _ acts rfl rfl rfl]) | rw [hl _ _ rfl rfl rfl]
  exact Steps.refl _
/-- from the state a the run ends, within its caller's frames, in an outcome of which P holds -/
def own_Endz (tb : Tables) (e : Env) (below : List Frame) (P : Outcome → State → Prop) (a : State) : Prop := ∃ s₂ o, Steps tb e below a s₂ ∧ s₂.status = .running ∧ Ended s₂ below o ∧ P o s₂
abbrev own_EndQ (s : State) (k n : Nat) (Q : Option Value → Heap → List Loc → Prop) : Outcome → State → Prop := fun o U' => ∃ v L, o = .returned v ∧ Q v U'.heap L ∧ FrameEnd s o U' L k n
theorem own_go {tb : Tables} {P : Outcome → State → Prop} {a b : State} (h : ∀ t, Steps tb e below b t → Steps tb e below a t) (k : own_Endz tb e below P b) : own_Endz tb e below P a := by
  obtain ⟨s2, o, h1, r⟩ := k
  exact ⟨s2, o, h _ h1, r⟩
theorem own_tr {tb : Tables} {P : Outcome → State → Prop} {a b : State} (h : Steps tb e below a b) (k : own_Endz tb e below P b) : own_Endz tb e below P a := by
  obtain ⟨s2, o, h1, r⟩ := k
  exact ⟨s2, o, h.trans h1, r⟩
theorem own_cast {tb : Tables} {P : Outcome → State → Prop} {g g' : JFrame} (q : g = g') (k : own_Endz tb e below P (T.setTop g')) : own_Endz tb e below P (T.setTop g) := q ▸ k
theorem own_retN (X : Stand p l e R s m args below meth c T locs cells slots) (hx : p.tables.exec = Jvm.exec) (hlk : meth.locks = false) {pc : Nat} {Ls : Array Slot} {z : Int32} {t : FieldType} {rest : List Value} (hret : meth.sig.returnType = some t) (ht : t = .boolean ∨ t = .byte ∨ t = .char ∨ t = .short)
    (hd : decode c.code pc = .ok (.ireturn, 1)) {k n : Nat} {Q : Option Value → Heap → List Loc → Prop} (hk : cells ≤ k) (hn : slots ≤ n) (q : Q (some (.int (nar t z))) T.heap locs) : own_Endz p.tables e below (own_EndQ s k n Q) (T.setTop (mkF m pc Ls (.int z :: rest))) := by
  obtain ⟨fs, hr, hrun, hended, hW, hsame⟩ := X.leave (v := some (.int (nar t z))) (fun h => by rw [hret] at h; cases h) hlk
  exact ⟨_, _, retN X hx hret ht hd hr, hrun, hended, _, _, rfl, q, ⟨_, rfl⟩, hW, hsame.mono hk hn⟩
theorem own_retI (X : Stand p l e R s m args below meth c T locs cells slots) (hx : p.tables.exec = Jvm.exec) (hlk : meth.locks = false) {pc : Nat} {Ls : Array Slot} {z : Int32} {rest : List Value} (hret : meth.sig.returnType = some .int)
    (hd : decode c.code pc = .ok (.ireturn, 1)) {k n : Nat} {Q : Option Value → Heap → List Loc → Prop} (hk : cells ≤ k) (hn : slots ≤ n) (q : Q (some (.int z)) T.heap locs) : own_Endz p.tables e below (own_EndQ s k n Q) (T.setTop (mkF m pc Ls (.int z :: rest))) := by
  obtain ⟨fs, hr, hrun, hended, hW, hsame⟩ := X.leave (v := some (.int z)) (fun h => by rw [hret] at h; cases h) hlk
  exact ⟨_, _, retI X hx hret hd hr, hrun, hended, _, _, rfl, q, ⟨_, rfl⟩, hW, hsame.mono hk hn⟩
theorem own_retA (X : Stand p l e R s m args below meth c T locs cells slots) (hx : p.tables.exec = Jvm.exec) (hlk : meth.locks = false) {pc : Nat} {Ls : Array Slot} {w : Value} {t : FieldType} {rest : List Value} (hret : meth.sig.returnType = some t) (ht : t.isReference = true) (hw : w.isRef = true)
    (hd : decode c.code pc = .ok (.areturn, 1)) {k n : Nat} {Q : Option Value → Heap → List Loc → Prop} (hk : cells ≤ k) (hn : slots ≤ n) (q : Q (some w) T.heap locs) : own_Endz p.tables e below (own_EndQ s k n Q) (T.setTop (mkF m pc Ls (w :: rest))) := by
  obtain ⟨fs, hr, hrun, hended, hW, hsame⟩ := X.leave (v := some w) (fun h => by rw [hret] at h; cases h) hlk
  have hnw : narrow t w = w := by cases t <;> first | (cases ht; done) | rfl
  exact ⟨_, _, retOut X hx hret hnw (Or.inr (Or.inr (Or.inr (Or.inr ⟨rfl, ht, hw⟩)))) hd hr, hrun, hended, _, _, rfl, q, ⟨_, rfl⟩, hW, hsame.mono hk hn⟩
theorem own_retV (X : Stand p l e R s m args below meth c T locs cells slots) (hx : p.tables.exec = Jvm.exec) (hlk : meth.locks = false) {pc : Nat} {Ls : Array Slot} (hret : meth.sig.returnType = none)
    (hd : decode c.code pc = .ok (.return_, 1)) {k n : Nat} {Q : Option Value → Heap → List Loc → Prop} (hk : cells ≤ k) (hn : slots ≤ n) (q : Q none T.heap locs) : own_Endz p.tables e below (own_EndQ s k n Q) (T.setTop (mkF m pc Ls [])) := by
  obtain ⟨fs, hr, hrun, hended, hW, hsame⟩ := X.leave (v := none) (fun _ => rfl) hlk
  exact ⟨_, _, X.returnOut hx hret hd hr, hrun, hended, _, _, rfl, q, ⟨_, rfl⟩, hW, hsame.mono hk hn⟩
theorem own_ev {t u : Term} {k : Int32} {args : Array Value} (h : (Cond.eq t (.int k)).value args s none s [] = some true) : t.eval args s none [] s = some (.int k) := by
  simp only [Cond.value, Term.eval] at h
  split at h <;> simp_all
theorem own_fld {t : Term} {C n d : String} {k : Int32} {x : Addr} {args : Array Value} (ht : t.eval args s none [] s = some (.ref x)) (h : (Cond.eq (.field t C n d) (.int k)).value args s none s [] = some true) : Fld s s.heap x C n d (.int k) :=
  Fld.start ((fld_at ht).symm.trans (own_ev (u := t) h))
theorem own_enum {Z : State} {h : Heap} {C f d : String} {ad : Nat → Addr} {n : Nat} (hn : n ≤ 2 ^ 31) (F : ∀ i, i < n → Fld Z h (ad i) C f d (.int i.toInt32)) (i j : Nat) (hi : i < n) (hj : j < n) : ad i = ad j ↔ i = j := by
  refine ⟨fun q => Classical.byContradiction fun ne => (F i hi).ne (F j hj) (fun v => ne ?_) q, fun q => q ▸ rfl⟩
  have q1 := congrArg Int32.toInt (Value.int.inj v)
  rw [len_toInt (by omega), len_toInt (by omega)] at q1
  omega
theorem own_cat {v : Value} (h : v.isRef = true) : v.category = 1 := by cases v <;> first | rfl | (cases h)
theorem own_evR {t u : Term} {a : Addr} {args : Array Value} (hu : u.eval args s none [] s = some (.ref a)) (h : (Cond.eq t u).value args s none s [] = some true) : t.eval args s none [] s = some (.ref a) := by
  simp only [Cond.value, hu] at h
  split at h <;> simp_all
theorem own_len {t : Term} {x : Addr} {cl : Cell} {k : Int32} {args : Array Value} (ht : t.eval args s none [] s = some (.ref x)) (hc : s.heap[x]? = some cl) (h : (Cond.eq (.length t) (.int k)).value args s none s [] = some true) : cl.slots.size.toInt32 = k ∧ cl.slots.size < 2 ^ 31 := by
  have e := own_ev (u := t) h
  obtain ⟨x', cl', e1, e2, e3⟩ := Term.length_spec e
  cases ht.symm.trans e1
  have e4 : cl' = cl := by
    simp only [State.arrayAt?, Option.bind_eq_bind, hc, Option.bind_some] at e2
    obtain ⟨k1, -, e2⟩ := Option.bind_eq_some_iff.mp e2
    split at e2
    · cases e2
    · split at e2
      · exact (Option.some.inj e2).symm
      · cases e2
  subst e4
  refine ⟨(Value.int.inj e3).symm, Classical.byContradiction fun hn => ?_⟩
  simp [Term.eval, ht, e2] at e
  exact hn e.1
theorem own_elem {t u : Term} {x a : Addr} {cl : Cell} {k : Int32} {args : Array Value} (ht : t.eval args s none [] s = some (.ref x)) (hc : s.heap[x]? = some cl) (hu : u.eval args s none [] s = some (.ref a)) (h : (Cond.eq (.elem t (.int k)) u).value args s none s [] = some true) : cl.slots[k.toNatClampNeg]? = some (.ref a) := by
  have e := own_evR hu h
  exact (elem_in e ht (Term.int_eval k) hc).2
theorem own_ite {α : Type} {P : α → Prop} {q : Prop} [Decidable q] {a b : α} (ha : P a) (hb : P b) : P (if q then a else b) := by split <;> assumption
theorem own_i {x y : Int32} (h : x ≠ y) : (Value.int x) ≠ .int y := fun q => h (Value.int.inj q)
end New
end Jvm.RoadKit
namespace Jvm.Pilot.@@N@@
open Jvm Jvm.ClassFile Sem Op Lib Jvm.Free Jvm.Stand Jvm.LawKit Jvm.RoadKit Bundle Jvm.Pilot.@@N@@.Jvm.D
def own_of (ad : Nat → Addr) (i : Int32) : Value := if i < 0 then .null else if i < 4 then .ref (ad i.toNatClampNeg) else .null
def own_ex (ad : Nat → Addr) (i : Int32) : Value := if i = 0 then .ref (ad 0) else if i = 1 then .ref (ad 1) else if i = 2 then .ref (ad 2) else if i = 3 then .ref (ad 3) else .null
theorem own_of_ref (ad : Nat → Addr) (i : Int32) : (own_of ad i).isRef = true := by unfold own_of; (repeat' split) <;> rfl
theorem own_ex_ref (ad : Nat → Addr) (i : Int32) : (own_ex ad i).isRef = true := by unfold own_ex; (repeat' split) <;> rfl
theorem own_four (i : Int32) (h0 : ¬ i < 0) (h4 : i < 4) : ∃ j : Nat, j < 4 ∧ i = j.toInt32 := by
  rw [Int32.lt_iff_toInt_lt] at h0 h4
  have e0 : (0 : Int32).toInt = 0 := by decide
  have e4 : (4 : Int32).toInt = 4 := by decide
  refine ⟨i.toInt.toNat, by omega, ?_⟩
  rw [← Int32.toInt_inj, len_toInt (by omega)]
  omega
theorem own_law (ad : Nat → Addr) (i : Int32) : own_of ad i = own_ex ad i := by
  by_cases h0 : i < 0
  · have e0 : ∀ k : Int32, ¬ k < 0 → ¬ i = k := fun k hk q => hk (q ▸ h0)
    simp [own_of, own_ex, h0, e0 0 (by decide), e0 1 (by decide), e0 2 (by decide), e0 3 (by decide)]
  · by_cases h4 : i < 4
    · obtain ⟨j, hj, rfl⟩ := own_four i h0 h4
      match j, hj with
      | 0, _ => rfl
      | 1, _ => rfl
      | 2, _ => rfl
      | 3, _ => rfl
      | j + 4, h => omega
    · have e0 : ∀ k : Int32, k < 4 → ¬ i = k := fun k hk q => h4 (q ▸ hk)
      simp [own_of, own_ex, h0, h4, e0 0 (by decide), e0 1 (by decide), e0 2 (by decide), e0 3 (by decide)]
theorem own_at {cl : Cell} {ad : Nat → Addr} (Sz : cl.slots.size = (4 : Int32).toNatClampNeg) (H : Has cl [.ref (ad 0), .ref (ad 1), .ref (ad 2), .ref (ad 3)] .null) (i : Int32) (h0 : ¬ i < 0) (h4 : i < 4) : ¬ (i < 0 ∨ cl.slots.size ≤ i.toNatClampNeg) ∧ cl.slots[i.toNatClampNeg]? = some (.ref (ad i.toNatClampNeg)) := by
  have hin := inb_of Sz ⟨h0, h4⟩
  refine ⟨hin, H.at hin ?_⟩
  obtain ⟨j, hj, rfl⟩ := own_four i h0 h4
  match j, hj with
  | 0, _ => rfl
  | 1, _ => rfl
  | 2, _ => rfl
  | 3, _ => rfl
  | j + 4, h => omega
theorem d1_0 : decode prog_46_method_4_code 0 = .ok (.iload_n 0, 1) := by decide +kernel
theorem d1_1 : decode prog_46_method_4_code 1 = .ok (.ifCond .lt 19, 3) := by decide +kernel
theorem d1_4 : decode prog_46_method_4_code 4 = .ok (.iload_n 0, 1) := by decide +kernel
theorem d1_5 : decode prog_46_method_4_code 5 = .ok (.getstatic 35, 3) := by decide +kernel
theorem d1_8 : decode prog_46_method_4_code 8 = .ok (.arraylength, 1) := by decide +kernel
theorem d1_9 : decode prog_46_method_4_code 9 = .ok (.if_icmp .ge 11, 3) := by decide +kernel
theorem d1_12 : decode prog_46_method_4_code 12 = .ok (.getstatic 35, 3) := by decide +kernel
theorem d1_15 : decode prog_46_method_4_code 15 = .ok (.iload_n 0, 1) := by decide +kernel
theorem d1_16 : decode prog_46_method_4_code 16 = .ok (.aaload, 1) := by decide +kernel
theorem d1_17 : decode prog_46_method_4_code 17 = .ok (.goto 4, 3) := by decide +kernel
theorem d1_20 : decode prog_46_method_4_code 20 = .ok (.aconst_null, 1) := by decide +kernel
theorem d1_21 : decode prog_46_method_4_code 21 = .ok (.areturn, 1) := by decide +kernel
theorem pn_0 : plainName "com/example/keyparley/keyparley/spnego/NegState" = true := by first | (simp [plainName, overriddenIn]; done) | decide +kernel
theorem ef_1 (m : MethodId) (i : Int32) : entryFrame m #[(.int i)] 1 = mkF m 0 #[.val (.int i)] [] := by first | (simp [entryFrame, mkF, argsToLocals, Value.category]; done) | rfl
def Q1 (Z : State) (i : Int32) (ad : Nat → Addr) (al : Addr) (ka : ClassId) (h0 : Heap) (n0 : Nat) (v : Option Value) (h : Heap) (L : List Loc) : Prop := v = some (own_of ad i) ∧ Fr n0 L ∧ h = h0
set_option maxRecDepth 65536 in
set_option maxHeartbeats 40000000 in
theorem rm1 (l : Launch) (Z : State) (a0 : Array Value) (hw : ∀ d ∈ tables_1, d.before a0 Z = true) (ws : List Jvm.Cond) (i : Int32) (ad : Nat → Addr) (al : Addr) (ka : ClassId) (h0 : Heap) (n0 : Nat) (Z0 : n0 ≤ h0.size) (Sal : Sta Z h0 "com/example/keyparley/keyparley/spnego/NegState" "ALL" "[Lcom/example/keyparley/keyparley/spnego/NegState;" (.ref al)) (Val : Arv Z h0 al ka (.object "com/example/keyparley/keyparley/spnego/NegState") (4 : Int32) [.ref (ad 0), .ref (ad 1), .ref (ad 2), .ref (ad 3)] .null) :
    MetFree l (⟨"com/example/keyparley/keyparley/spnego/NegState", "of", "(I)Lcom/example/keyparley/keyparley/spnego/NegState;"⟩ : MethodName) (head1 (Jvm.Cond.code (⟨"com/example/keyparley/keyparley/spnego/NegState", "of", "(I)Lcom/example/keyparley/keyparley/spnego/NegState;"⟩ : MethodName) prog_46_method_4_code 1 (some (.object "com/example/keyparley/keyparley/spnego/NegState")) :: ws) ({ frames := 0, cells := 0, slots := 0, locals := 0 } : Room)) (fun a U => a = #[(.int i)] ∧ Z.Warmed39 U.vm ∧ U.heap = h0) (fun _ _ _ _ _ => True) (fun _ U o U' => ∃ v L, o = .returned v ∧ Q1 Z i ad al ka h0 n0 v U'.heap L ∧ FrameEnd U o U' L ({ frames := 0, cells := 0, slots := 0, locals := 0 } : Room).cells ({ frames := 0, cells := 0, slots := 0, locals := 0 } : Room).slots) := by
  refine MetFree.of_bodySF (plainFor_of_name pn_0) hisR ?_
  intro p e s m args below meth c s₁ Bd hml0 hP hK
  obtain ⟨rfl, hZ, hh⟩ := hP
  have hx := Bd.exec
  have hby := Bd.bytes
  have hml : c.maxLocals = 1 := hml0
  have hown : s.vm.findClass "com/example/keyparley/keyparley/spnego/NegState" = some m.cls := findClass_of_methodNamed Bd.named
  have hnm := (name_of_methodNamed Bd.named Bd.method).1
  have hlk : meth.locks = false := Bd.notSynchronized
  have hrt := Bd.returns
  have X0 : Stand p l e ({ frames := 0, cells := 0, slots := 0, locals := 0 } : Room) s m #[(.int i)] below meth c s₁ [] 0 0 := Stand.of_body Bd
  have e0 : s₁.heap = h0 := by rw [← hh, Bd.state]; rfl
  have N0 := Fr.nil n0
  show own_Endz p.tables e below (own_EndQ s ({ frames := 0, cells := 0, slots := 0, locals := 0 } : Room).cells ({ frames := 0, cells := 0, slots := 0, locals := 0 } : Room).slots (Q1 Z i ad al ka h0 n0)) (s₁.setTop (entryFrame m #[(.int i)] 1))
  refine own_cast (ef_1 m i) ?_
  refine own_go (b := s₁.setTop (mkF m 1 #[.val (.int i)] [(.int i)])) (fun t k => XS.iloadN X0.here hx rfl (hb hby d1_0) rfl  k) ?_
  by_cases hc1 : i < (0 : Int32)
  · refine own_go (b := s₁.setTop (mkF m 20 #[.val (.int i)] [])) (fun t k => XS.ifYes X0.here hx rfl (pc0 := 1) (pc' := 20) rfl (hb hby d1_1) rfl ((if0 _ _).trans (tlt hc1).1) (by decide) (by decide) k) ?_
    refine own_go (b := s₁.setTop (mkF m 21 #[.val (.int i)] [.null])) (fun t k => XS.aconstNull X0.here hx rfl (hb hby d1_20) k) ?_
    exact own_retA X0 hx hlk hrt rfl rfl (hb hby d1_21) (Nat.le_of_ble_eq_true rfl) (Nat.le_of_ble_eq_true rfl) (⟨by first | rfl | (simp only [own_of, eq_true hc1, if_true, if_false]; done) | (simp only [own_of, eq_true hc1, if_true, if_false]; rfl) | (simp [own_of, eq_true hc1]; done) | (simp [own_of, eq_true hc1]; rfl), N0, e0⟩)
  · refine own_go (b := s₁.setTop (mkF m 4 #[.val (.int i)] [])) (fun t k => XS.ifNo X0.here hx rfl (hb hby d1_1) rfl ((if0 _ _).trans (flt hc1).1) k) ?_
    refine own_go (b := s₁.setTop (mkF m 5 #[.val (.int i)] [(.int i)])) (fun t k => XS.iloadN X0.here hx rfl (hb hby d1_4) rfl  k) ?_
    obtain ⟨T2, X2, e2, st2⟩ := getS2 X0 hx hZ hown (host := "") (Or.inl (hw _ (List.mem_of_getElem? (i := 4) rfl))) Via.refl e0 Sal (g := (mkF m 5 #[.val (.int i)] [(.int i)])) rfl (hb hby d1_5)
    refine own_go (b := T2.setTop (mkF m 8 #[.val (.int i)] [(.ref al), (.int i)])) st2 ?_
    obtain ⟨cl3, Ar3, qc3, Sz3, Ng3, Hs3, Ft3⟩ := id Val
    refine own_go (b := T2.setTop (mkF m 9 #[.val (.int i)] [(.int (cl3.slots.size.toInt32)), (.int i)])) (fun t k => X2.arraylength hx (by rw [e2]; exact Ar3.1) (State.isArrayOf_alike hZ.alike Ar3.2.1) (g := (mkF m 8 #[.val (.int i)] [(.ref al), (.int i)])) rfl rfl (hb hby d1_8) t k) ?_
    rw [(len_of Sz3 Ng3)]
    by_cases hc4 : i < (4 : Int32)
    · refine own_go (b := T2.setTop (mkF m 12 #[.val (.int i)] [])) (fun t k => XS.icmpNo X2.here hx rfl (hb hby d1_9) rfl (tlt hc4).2.1 k) ?_
      obtain ⟨T5, X5, e5, st5⟩ := getS2 X2 hx hZ hown (host := "") (Or.inl (hw _ (List.mem_of_getElem? (i := 4) rfl))) Via.refl e2 Sal (g := (mkF m 12 #[.val (.int i)] [])) rfl (hb hby d1_12)
      refine own_go (b := T5.setTop (mkF m 15 #[.val (.int i)] [(.ref al)])) st5 ?_
      refine own_go (b := T5.setTop (mkF m 16 #[.val (.int i)] [(.int i), (.ref al)])) (fun t k => XS.iloadN X5.here hx rfl (hb hby d1_15) rfl  k) ?_
      obtain ⟨cl6, Ar6, qc6, Sz6, Ng6, Hs6, Ft6⟩ := id Val
      have hat6 := own_at Sz6 Hs6 i hc1 hc4
      refine own_go (b := T5.setTop (mkF m 17 #[.val (.int i)] [(.ref (ad i.toNatClampNeg))])) (fun t k => X5.aaload hx (j := i) (v := (.ref (ad i.toNatClampNeg))) (by rw [e5]; exact Ar6.1) (State.isArrayOf_alike hZ.alike Ar6.2.1) rfl Ar6.2.2 hat6.1 hat6.2 (g := (mkF m 16 #[.val (.int i)] [(.int i), (.ref al)])) rfl rfl (hb hby d1_16) t k) ?_
      refine own_go (b := T5.setTop (mkF m 21 #[.val (.int i)] [(.ref (ad i.toNatClampNeg))])) (fun t k => XS.goto X5.here hx rfl (pc0 := 17) (pc' := 21) rfl (hb hby d1_17) (by decide) (by decide) k) ?_
      exact own_retA X5 hx hlk hrt rfl rfl (hb hby d1_21) (Nat.le_of_ble_eq_true rfl) (Nat.le_of_ble_eq_true rfl) (⟨by first | rfl | (simp only [own_of, eq_false hc1, eq_true hc4, if_true, if_false]; done) | (simp only [own_of, eq_false hc1, eq_true hc4, if_true, if_false]; rfl) | (simp [own_of, eq_false hc1, eq_true hc4]; done) | (simp [own_of, eq_false hc1, eq_true hc4]; rfl), N0, e5⟩)
    · refine own_go (b := T2.setTop (mkF m 20 #[.val (.int i)] [])) (fun t k => XS.icmpYes X2.here hx rfl (pc0 := 9) (pc' := 20) rfl (hb hby d1_9) rfl (flt hc4).2.1 (by decide) (by decide) k) ?_
      refine own_go (b := T2.setTop (mkF m 21 #[.val (.int i)] [.null])) (fun t k => XS.aconstNull X2.here hx rfl (hb hby d1_20) k) ?_
      exact own_retA X2 hx hlk hrt rfl rfl (hb hby d1_21) (Nat.le_of_ble_eq_true rfl) (Nat.le_of_ble_eq_true rfl) (⟨by first | rfl | (simp only [own_of, eq_false hc1, eq_false hc4, if_true, if_false]; done) | (simp only [own_of, eq_false hc1, eq_false hc4, if_true, if_false]; rfl) | (simp [own_of, eq_false hc1, eq_false hc4]; done) | (simp [own_of, eq_false hc1, eq_false hc4]; rfl), N0, e2⟩)
theorem d2_0 : decode method_2_code 0 = .ok (.iload_n 0, 1) := by decide +kernel
theorem d2_1 : decode method_2_code 1 = .ok (.ifCond .ne 7, 3) := by decide +kernel
theorem d2_4 : decode method_2_code 4 = .ok (.getstatic 7, 3) := by decide +kernel
theorem d2_7 : decode method_2_code 7 = .ok (.areturn, 1) := by decide +kernel
theorem d2_8 : decode method_2_code 8 = .ok (.iload_n 0, 1) := by decide +kernel
theorem d2_9 : decode method_2_code 9 = .ok (.iconst 1, 1) := by decide +kernel
theorem d2_10 : decode method_2_code 10 = .ok (.if_icmp .ne 7, 3) := by decide +kernel
theorem d2_13 : decode method_2_code 13 = .ok (.getstatic 13, 3) := by decide +kernel
theorem d2_16 : decode method_2_code 16 = .ok (.areturn, 1) := by decide +kernel
theorem d2_17 : decode method_2_code 17 = .ok (.iload_n 0, 1) := by decide +kernel
theorem d2_18 : decode method_2_code 18 = .ok (.iconst 2, 1) := by decide +kernel
theorem d2_19 : decode method_2_code 19 = .ok (.if_icmp .ne 7, 3) := by decide +kernel
theorem d2_22 : decode method_2_code 22 = .ok (.getstatic 16, 3) := by decide +kernel
theorem d2_25 : decode method_2_code 25 = .ok (.areturn, 1) := by decide +kernel
theorem d2_26 : decode method_2_code 26 = .ok (.iload_n 0, 1) := by decide +kernel
theorem d2_27 : decode method_2_code 27 = .ok (.iconst 3, 1) := by decide +kernel
theorem d2_28 : decode method_2_code 28 = .ok (.if_icmp .ne 7, 3) := by decide +kernel
theorem d2_31 : decode method_2_code 31 = .ok (.getstatic 19, 3) := by decide +kernel
theorem d2_34 : decode method_2_code 34 = .ok (.areturn, 1) := by decide +kernel
theorem d2_35 : decode method_2_code 35 = .ok (.aconst_null, 1) := by decide +kernel
theorem d2_36 : decode method_2_code 36 = .ok (.areturn, 1) := by decide +kernel
theorem pn_1 : plainName "com/example/keyparley/keyparley/spnego/NegStateOfPinLaw" = true := by first | (simp [plainName, overriddenIn]; done) | decide +kernel
theorem ef_2 (m : MethodId) (i : Int32) : entryFrame m #[(.int i)] 1 = mkF m 0 #[.val (.int i)] [] := by first | (simp [entryFrame, mkF, argsToLocals, Value.category]; done) | rfl
def Q2 (Z : State) (i : Int32) (ad : Nat → Addr) (h0 : Heap) (n0 : Nat) (v : Option Value) (h : Heap) (L : List Loc) : Prop := v = some (own_ex ad i) ∧ Fr n0 L ∧ h = h0
set_option maxRecDepth 65536 in
set_option maxHeartbeats 40000000 in
theorem rm2 (l : Launch) (Z : State) (a0 : Array Value) (hw : ∀ d ∈ tables_1, d.before a0 Z = true) (ws : List Jvm.Cond) (i : Int32) (ad : Nat → Addr) (h0 : Heap) (n0 : Nat) (Z0 : n0 ≤ h0.size) (Sd0 : Sta Z h0 "com/example/keyparley/keyparley/spnego/NegState" "ACCEPT_COMPLETED" "Lcom/example/keyparley/keyparley/spnego/NegState;" (.ref (ad 0))) (Sd1 : Sta Z h0 "com/example/keyparley/keyparley/spnego/NegState" "ACCEPT_INCOMPLETE" "Lcom/example/keyparley/keyparley/spnego/NegState;" (.ref (ad 1))) (Sd2 : Sta Z h0 "com/example/keyparley/keyparley/spnego/NegState" "REJECT" "Lcom/example/keyparley/keyparley/spnego/NegState;" (.ref (ad 2))) (Sd3 : Sta Z h0 "com/example/keyparley/keyparley/spnego/NegState" "REQUEST_MIC" "Lcom/example/keyparley/keyparley/spnego/NegState;" (.ref (ad 3))) :
    MetFree l (⟨"com/example/keyparley/keyparley/spnego/NegStateOfPinLaw", "expected", "(I)Lcom/example/keyparley/keyparley/spnego/NegState;"⟩ : MethodName) (head1 (Jvm.Cond.code (⟨"com/example/keyparley/keyparley/spnego/NegStateOfPinLaw", "expected", "(I)Lcom/example/keyparley/keyparley/spnego/NegState;"⟩ : MethodName) method_2_code 1 (some (.object "com/example/keyparley/keyparley/spnego/NegState")) :: ws) ({ frames := 0, cells := 0, slots := 0, locals := 0 } : Room)) (fun a U => a = #[(.int i)] ∧ Z.Warmed39 U.vm ∧ U.heap = h0) (fun _ _ _ _ _ => True) (fun _ U o U' => ∃ v L, o = .returned v ∧ Q2 Z i ad h0 n0 v U'.heap L ∧ FrameEnd U o U' L ({ frames := 0, cells := 0, slots := 0, locals := 0 } : Room).cells ({ frames := 0, cells := 0, slots := 0, locals := 0 } : Room).slots) := by
  refine MetFree.of_bodySF (plainFor_of_name pn_1) hisR ?_
  intro p e s m args below meth c s₁ Bd hml0 hP hK
  obtain ⟨rfl, hZ, hh⟩ := hP
  have hx := Bd.exec
  have hby := Bd.bytes
  have hml : c.maxLocals = 1 := hml0
  have hown : s.vm.findClass "com/example/keyparley/keyparley/spnego/NegStateOfPinLaw" = some m.cls := findClass_of_methodNamed Bd.named
  have hnm := (name_of_methodNamed Bd.named Bd.method).1
  have hlk : meth.locks = false := Bd.notSynchronized
  have hrt := Bd.returns
  have X0 : Stand p l e ({ frames := 0, cells := 0, slots := 0, locals := 0 } : Room) s m #[(.int i)] below meth c s₁ [] 0 0 := Stand.of_body Bd
  have e0 : s₁.heap = h0 := by rw [← hh, Bd.state]; rfl
  have N0 := Fr.nil n0
  show own_Endz p.tables e below (own_EndQ s ({ frames := 0, cells := 0, slots := 0, locals := 0 } : Room).cells ({ frames := 0, cells := 0, slots := 0, locals := 0 } : Room).slots (Q2 Z i ad h0 n0)) (s₁.setTop (entryFrame m #[(.int i)] 1))
  refine own_cast (ef_2 m i) ?_
  refine own_go (b := s₁.setTop (mkF m 1 #[.val (.int i)] [(.int i)])) (fun t k => XS.iloadN X0.here hx rfl (hb hby d2_0) rfl  k) ?_
  by_cases hc1 : i = (0 : Int32)
  · refine own_go (b := s₁.setTop (mkF m 4 #[.val (.int i)] [])) (fun t k => XS.ifNo X0.here hx rfl (hb hby d2_1) rfl ((if0 _ _).trans (teq hc1).2) k) ?_
    obtain ⟨T2, X2, e2, st2⟩ := getS2 X0 hx hZ hown (host := "") (Or.inl (hw _ (List.mem_of_getElem? (i := 11) rfl))) Via.refl e0 Sd0 (g := (mkF m 4 #[.val (.int i)] [])) rfl (hb hby d2_4)
    refine own_go (b := T2.setTop (mkF m 7 #[.val (.int i)] [(.ref (ad 0))])) st2 ?_
    exact own_retA X2 hx hlk hrt rfl rfl (hb hby d2_7) (Nat.le_of_ble_eq_true rfl) (Nat.le_of_ble_eq_true rfl) (⟨by first | rfl | (simp only [own_ex, eq_true hc1, if_true, if_false]; done) | (simp only [own_ex, eq_true hc1, if_true, if_false]; rfl) | (simp [own_ex, eq_true hc1]; done) | (simp [own_ex, eq_true hc1]; rfl), N0, e2⟩)
  · refine own_go (b := s₁.setTop (mkF m 8 #[.val (.int i)] [])) (fun t k => XS.ifYes X0.here hx rfl (pc0 := 1) (pc' := 8) rfl (hb hby d2_1) rfl ((if0 _ _).trans (feq hc1).2) (by decide) (by decide) k) ?_
    refine own_go (b := s₁.setTop (mkF m 9 #[.val (.int i)] [(.int i)])) (fun t k => XS.iloadN X0.here hx rfl (hb hby d2_8) rfl  k) ?_
    refine own_go (b := s₁.setTop (mkF m 10 #[.val (.int i)] [(.int (1 : Int32)), (.int i)])) (fun t k => XS.iconst X0.here hx rfl (hb hby d2_9) k) ?_
    by_cases hc3 : i = (1 : Int32)
    · refine own_go (b := s₁.setTop (mkF m 13 #[.val (.int i)] [])) (fun t k => XS.icmpNo X0.here hx rfl (hb hby d2_10) rfl (teq hc3).2 k) ?_
      obtain ⟨T4, X4, e4, st4⟩ := getS2 X0 hx hZ hown (host := "") (Or.inl (hw _ (List.mem_of_getElem? (i := 13) rfl))) Via.refl e0 Sd1 (g := (mkF m 13 #[.val (.int i)] [])) rfl (hb hby d2_13)
      refine own_go (b := T4.setTop (mkF m 16 #[.val (.int i)] [(.ref (ad 1))])) st4 ?_
      exact own_retA X4 hx hlk hrt rfl rfl (hb hby d2_16) (Nat.le_of_ble_eq_true rfl) (Nat.le_of_ble_eq_true rfl) (⟨by first | rfl | (simp only [own_ex, eq_false hc1, eq_true hc3, if_true, if_false]; done) | (simp only [own_ex, eq_false hc1, eq_true hc3, if_true, if_false]; rfl) | (simp [own_ex, eq_false hc1, eq_true hc3]; done) | (simp [own_ex, eq_false hc1, eq_true hc3]; rfl), N0, e4⟩)
    · refine own_go (b := s₁.setTop (mkF m 17 #[.val (.int i)] [])) (fun t k => XS.icmpYes X0.here hx rfl (pc0 := 10) (pc' := 17) rfl (hb hby d2_10) rfl (feq hc3).2 (by decide) (by decide) k) ?_
      refine own_go (b := s₁.setTop (mkF m 18 #[.val (.int i)] [(.int i)])) (fun t k => XS.iloadN X0.here hx rfl (hb hby d2_17) rfl  k) ?_
      refine own_go (b := s₁.setTop (mkF m 19 #[.val (.int i)] [(.int (2 : Int32)), (.int i)])) (fun t k => XS.iconst X0.here hx rfl (hb hby d2_18) k) ?_
      by_cases hc5 : i = (2 : Int32)
      · refine own_go (b := s₁.setTop (mkF m 22 #[.val (.int i)] [])) (fun t k => XS.icmpNo X0.here hx rfl (hb hby d2_19) rfl (teq hc5).2 k) ?_
        obtain ⟨T6, X6, e6, st6⟩ := getS2 X0 hx hZ hown (host := "") (Or.inl (hw _ (List.mem_of_getElem? (i := 15) rfl))) Via.refl e0 Sd2 (g := (mkF m 22 #[.val (.int i)] [])) rfl (hb hby d2_22)
        refine own_go (b := T6.setTop (mkF m 25 #[.val (.int i)] [(.ref (ad 2))])) st6 ?_
        exact own_retA X6 hx hlk hrt rfl rfl (hb hby d2_25) (Nat.le_of_ble_eq_true rfl) (Nat.le_of_ble_eq_true rfl) (⟨by first | rfl | (simp only [own_ex, eq_false hc1, eq_false hc3, eq_true hc5, if_true, if_false]; done) | (simp only [own_ex, eq_false hc1, eq_false hc3, eq_true hc5, if_true, if_false]; rfl) | (simp [own_ex, eq_false hc1, eq_false hc3, eq_true hc5]; done) | (simp [own_ex, eq_false hc1, eq_false hc3, eq_true hc5]; rfl), N0, e6⟩)
      · refine own_go (b := s₁.setTop (mkF m 26 #[.val (.int i)] [])) (fun t k => XS.icmpYes X0.here hx rfl (pc0 := 19) (pc' := 26) rfl (hb hby d2_19) rfl (feq hc5).2 (by decide) (by decide) k) ?_
        refine own_go (b := s₁.setTop (mkF m 27 #[.val (.int i)] [(.int i)])) (fun t k => XS.iloadN X0.here hx rfl (hb hby d2_26) rfl  k) ?_
        refine own_go (b := s₁.setTop (mkF m 28 #[.val (.int i)] [(.int (3 : Int32)), (.int i)])) (fun t k => XS.iconst X0.here hx rfl (hb hby d2_27) k) ?_
        by_cases hc7 : i = (3 : Int32)
        · refine own_go (b := s₁.setTop (mkF m 31 #[.val (.int i)] [])) (fun t k => XS.icmpNo X0.here hx rfl (hb hby d2_28) rfl (teq hc7).2 k) ?_
          obtain ⟨T8, X8, e8, st8⟩ := getS2 X0 hx hZ hown (host := "") (Or.inl (hw _ (List.mem_of_getElem? (i := 17) rfl))) Via.refl e0 Sd3 (g := (mkF m 31 #[.val (.int i)] [])) rfl (hb hby d2_31)
          refine own_go (b := T8.setTop (mkF m 34 #[.val (.int i)] [(.ref (ad 3))])) st8 ?_
          exact own_retA X8 hx hlk hrt rfl rfl (hb hby d2_34) (Nat.le_of_ble_eq_true rfl) (Nat.le_of_ble_eq_true rfl) (⟨by first | rfl | (simp only [own_ex, eq_false hc1, eq_false hc3, eq_false hc5, eq_true hc7, if_true, if_false]; done) | (simp only [own_ex, eq_false hc1, eq_false hc3, eq_false hc5, eq_true hc7, if_true, if_false]; rfl) | (simp [own_ex, eq_false hc1, eq_false hc3, eq_false hc5, eq_true hc7]; done) | (simp [own_ex, eq_false hc1, eq_false hc3, eq_false hc5, eq_true hc7]; rfl), N0, e8⟩)
        · refine own_go (b := s₁.setTop (mkF m 35 #[.val (.int i)] [])) (fun t k => XS.icmpYes X0.here hx rfl (pc0 := 28) (pc' := 35) rfl (hb hby d2_28) rfl (feq hc7).2 (by decide) (by decide) k) ?_
          refine own_go (b := s₁.setTop (mkF m 36 #[.val (.int i)] [.null])) (fun t k => XS.aconstNull X0.here hx rfl (hb hby d2_35) k) ?_
          exact own_retA X0 hx hlk hrt rfl rfl (hb hby d2_36) (Nat.le_of_ble_eq_true rfl) (Nat.le_of_ble_eq_true rfl) (⟨by first | rfl | (simp only [own_ex, eq_false hc1, eq_false hc3, eq_false hc5, eq_false hc7, if_true, if_false]; done) | (simp only [own_ex, eq_false hc1, eq_false hc3, eq_false hc5, eq_false hc7, if_true, if_false]; rfl) | (simp [own_ex, eq_false hc1, eq_false hc3, eq_false hc5, eq_false hc7]; done) | (simp [own_ex, eq_false hc1, eq_false hc3, eq_false hc5, eq_false hc7]; rfl), N0, e0⟩)
theorem pd_0 : parseMethodDescriptor "(I)Lcom/example/keyparley/keyparley/spnego/NegState;" = some ⟨[.int], some (.object "com/example/keyparley/keyparley/spnego/NegState")⟩ := by decide +kernel
theorem ef_0 (m : MethodId) (pr : Int32) (qr : Int32) : entryFrame m #[(.int pr), (.int qr)] maxLocals = mkF m 0 #[.val (.int pr), .val (.int qr), .unset, .unset, .unset] [] := by first | (simp [entryFrame, mkF, argsToLocals, Value.category, maxLocals]; done) | rfl
def Q0 (Z : State) (pr : Int32) (qr : Int32) (ad : Nat → Addr) (al : Addr) (ka : ClassId) (h0 : Heap) (n0 : Nat) (v : Option Value) (h : Heap) (L : List Loc) : Prop := v = some (.int 1) ∧ Fr n0 L
set_option maxRecDepth 65536 in
set_option maxHeartbeats 40000000 in
theorem rm0 (l : Launch) (Z : State) (a0 : Array Value) (hw : ∀ d ∈ tables_1, d.before a0 Z = true) (ws : List Jvm.Cond) (pr : Int32) (qr : Int32) (ad : Nat → Addr) (al : Addr) (ka : ClassId) (h0 : Heap) (n0 : Nat) (Z0 : n0 ≤ h0.size) (Sd0 : Sta Z h0 "com/example/keyparley/keyparley/spnego/NegState" "ACCEPT_COMPLETED" "Lcom/example/keyparley/keyparley/spnego/NegState;" (.ref (ad 0))) (Sd1 : Sta Z h0 "com/example/keyparley/keyparley/spnego/NegState" "ACCEPT_INCOMPLETE" "Lcom/example/keyparley/keyparley/spnego/NegState;" (.ref (ad 1))) (Sd2 : Sta Z h0 "com/example/keyparley/keyparley/spnego/NegState" "REJECT" "Lcom/example/keyparley/keyparley/spnego/NegState;" (.ref (ad 2))) (Sd3 : Sta Z h0 "com/example/keyparley/keyparley/spnego/NegState" "REQUEST_MIC" "Lcom/example/keyparley/keyparley/spnego/NegState;" (.ref (ad 3))) (Sal : Sta Z h0 "com/example/keyparley/keyparley/spnego/NegState" "ALL" "[Lcom/example/keyparley/keyparley/spnego/NegState;" (.ref al)) (Val : Arv Z h0 al ka (.object "com/example/keyparley/keyparley/spnego/NegState") (4 : Int32) [.ref (ad 0), .ref (ad 1), .ref (ad 2), .ref (ad 3)] .null) :
    MetFree l x (head1 (Jvm.Cond.code x code maxLocals ret :: ws) room_1) (fun a U => a = #[(.int pr), (.int qr)] ∧ Z.Warmed39 U.vm ∧ U.heap = h0) (fun _ _ _ _ _ => True) (fun _ U o U' => ∃ v L, o = .returned v ∧ Q0 Z pr qr ad al ka h0 n0 v U'.heap L ∧ FrameEnd U o U' L room_1.cells room_1.slots) := by
  refine MetFree.of_bodySF (plainFor_of_name pn_1) hisR ?_
  intro p e s m args below meth c s₁ Bd hml0 hP hK
  obtain ⟨rfl, hZ, hh⟩ := hP
  have hx := Bd.exec
  have hby := Bd.bytes
  have hml : c.maxLocals = 5 := hml0
  have hown : s.vm.findClass "com/example/keyparley/keyparley/spnego/NegStateOfPinLaw" = some m.cls := findClass_of_methodNamed Bd.named
  have hnm := (name_of_methodNamed Bd.named Bd.method).1
  have hlk : meth.locks = false := Bd.notSynchronized
  have hrt := Bd.returns
  have X0 : Stand p l e room_1 s m #[(.int pr), (.int qr)] below meth c s₁ [] 0 0 := Stand.of_body Bd
  have e0 : s₁.heap = h0 := by rw [← hh, Bd.state]; rfl
  have N0 := Fr.nil n0
  show own_Endz p.tables e below (own_EndQ s room_1.cells room_1.slots (Q0 Z pr qr ad al ka h0 n0)) (s₁.setTop (entryFrame m #[(.int pr), (.int qr)] maxLocals))
  refine own_cast (ef_0 m pr qr) ?_
  refine own_go (b := s₁.setTop (mkF m 1 #[.val (.int pr), .val (.int qr), .unset, .unset, .unset] [(.int qr)])) (fun t k => XS.iloadN X0.here hx rfl (hb hby at_0) rfl  k) ?_
  refine own_go (b := s₁.setTop (mkF m 3 #[.val (.int pr), .val (.int qr), .unset, .unset, .unset] [(.int (7 : Int32)), (.int qr)])) (fun t k => XS.bipush X0.here hx rfl (hb hby at_1) k) ?_
  refine own_go (b := s₁.setTop (mkF m 4 #[.val (.int pr), .val (.int qr), .unset, .unset, .unset] [(.int (qr &&& (7 : Int32)))])) (fun t k => XS.iand X0.here hx rfl (hb hby at_3) rfl k) ?_
  refine own_go (b := s₁.setTop (mkF m 5 #[.val (.int pr), .val (.int qr), .unset, .unset, .unset] [(.int (2 : Int32)), (.int (qr &&& (7 : Int32)))])) (fun t k => XS.iconst X0.here hx rfl (hb hby at_4) k) ?_
  refine own_go (b := s₁.setTop (mkF m 6 #[.val (.int pr), .val (.int qr), .unset, .unset, .unset] [(.int ((qr &&& (7 : Int32)) - (2 : Int32)))])) (fun t k => XS.isub X0.here hx rfl (hb hby at_5) rfl k) ?_
  refine own_go (b := s₁.setTop (mkF m 7 #[.val (.int pr), .val (.int qr), .val (.int ((qr &&& (7 : Int32)) - (2 : Int32))), .unset, .unset] [])) (fun t k => XS.istoreN X0.here hx rfl (hb hby at_6) rfl (l' := #[.val (.int pr), .val (.int qr), .val (.int ((qr &&& (7 : Int32)) - (2 : Int32))), .unset, .unset]) rfl k) ?_
  refine own_go (b := s₁.setTop (mkF m 8 #[.val (.int pr), .val (.int qr), .val (.int ((qr &&& (7 : Int32)) - (2 : Int32))), .unset, .unset] [(.int pr)])) (fun t k => XS.iloadN X0.here hx rfl (hb hby at_7) rfl  k) ?_
  obtain ⟨_, _, ⟨T1, L1, k1, n1⟩, -, X1, ⟨Lc1, hQ1, l1, y1, z1⟩, st1⟩ := Jvm.LawKit.callS X0 hx (y := (⟨"com/example/keyparley/keyparley/spnego/NegState", "of", "(I)Lcom/example/keyparley/keyparley/spnego/NegState;"⟩ : MethodName)) hown (mvT hZ (hw _ (List.mem_of_getElem? (i := 0) rfl))) (mvT hZ (hw _ (List.mem_of_getElem? (i := 1) rfl))) (mvT hZ (hw _ (List.mem_of_getElem? (i := 2) rfl))) (mvT hZ (hw _ (List.mem_of_getElem? (i := 3) rfl))) (by decide) (backOf (W := 0) (rm1 l Z a0 hw [] pr ad al ka h0 n0 Z0 Sal Val) hZ (hw _ (List.mem_of_getElem? (i := 3) rfl)) (hw _ (List.mem_of_getElem? (i := 2) rfl)) (by decide) (by decide)) (g := (mkF m 8 #[.val (.int pr), .val (.int qr), .val (.int ((qr &&& (7 : Int32)) - (2 : Int32))), .unset, .unset] [(.int pr)])) rfl (by rw [hml]; rfl) (argsL := [(.int pr)]) (rest := []) (lenOf pd_0 rfl) rfl (by show 2 * 0 + _ ≤ _; exact Nat.le_of_eq rfl) (hb hby at_8) (fun _ _ => ⟨rfl, e0, (by decide : 0 + 0 ≤ _), (by decide : 0 + 0 ≤ _)⟩)
  dsimp only [Pt.U, Pt.locs, Pt.cells, Pt.slots] at X1 l1 y1 z1 st1 hQ1
  subst l1 y1 z1
  obtain ⟨rfl, N1q, e1⟩ := hQ1
  have N1 := Fr.app N0 N1q
  refine own_go (b := T1.setTop (mkF m 11 #[.val (.int pr), .val (.int qr), .val (.int ((qr &&& (7 : Int32)) - (2 : Int32))), .unset, .unset] [(own_of ad pr)])) st1 ?_
  refine own_go (b := T1.setTop (mkF m 12 #[.val (.int pr), .val (.int qr), .val (.int ((qr &&& (7 : Int32)) - (2 : Int32))), .unset, .unset] [(.int pr), (own_of ad pr)])) (fun t k => XS.iloadN X1.here hx rfl (hb hby at_11) rfl  k) ?_
  obtain ⟨_, _, ⟨T2, L2, k2, n2⟩, -, X2, ⟨Lc2, hQ2, l2, y2, z2⟩, st2⟩ := Jvm.LawKit.callS X1 hx (y := (⟨"com/example/keyparley/keyparley/spnego/NegStateOfPinLaw", "expected", "(I)Lcom/example/keyparley/keyparley/spnego/NegState;"⟩ : MethodName)) hown (mvT hZ (hw _ (List.mem_of_getElem? (i := 7) rfl))) (mvT hZ (hw _ (List.mem_of_getElem? (i := 8) rfl))) (mvT hZ (hw _ (List.mem_of_getElem? (i := 9) rfl))) (mvT hZ (hw _ (List.mem_of_getElem? (i := 10) rfl))) (by decide) (backOf (W := 1) (rm2 l Z a0 hw [] pr ad h0 n0 Z0 Sd0 Sd1 Sd2 Sd3) hZ (hw _ (List.mem_of_getElem? (i := 10) rfl)) (hw _ (List.mem_of_getElem? (i := 9) rfl)) (by decide) (by decide)) (g := (mkF m 12 #[.val (.int pr), .val (.int qr), .val (.int ((qr &&& (7 : Int32)) - (2 : Int32))), .unset, .unset] [(.int pr), (own_of ad pr)])) rfl (by rw [hml]; rfl) (argsL := [(.int pr)]) (rest := [(own_of ad pr)]) (lenOf pd_0 rfl) rfl (by show 2 * 0 + _ ≤ _; simp only [List.map_cons, List.map_nil, List.sum_cons, List.sum_nil, own_cat (own_of_ref ad pr)]; exact Nat.le_of_ble_eq_true rfl) (hb hby at_12) (fun _ _ => ⟨rfl, e1, (by decide : 0 + 0 ≤ _), (by decide : 0 + 0 ≤ _)⟩)
  dsimp only [Pt.U, Pt.locs, Pt.cells, Pt.slots] at X2 l2 y2 z2 st2 hQ2
  subst l2 y2 z2
  obtain ⟨rfl, N2q, e2⟩ := hQ2
  have N2 := Fr.app N1 N2q
  refine own_go (b := T2.setTop (mkF m 15 #[.val (.int pr), .val (.int qr), .val (.int ((qr &&& (7 : Int32)) - (2 : Int32))), .unset, .unset] [(own_ex ad pr), (own_of ad pr)])) st2 ?_
  refine own_go (b := T2.setTop (mkF m 18 #[.val (.int pr), .val (.int qr), .val (.int ((qr &&& (7 : Int32)) - (2 : Int32))), .unset, .unset] [])) (fun t k => Jvm.RoadKit.acmp (g := (mkF m 15 #[.val (.int pr), .val (.int qr), .val (.int ((qr &&& (7 : Int32)) - (2 : Int32))), .unset, .unset] [(own_ex ad pr), (own_of ad pr)])) X2 hx rfl (own_of_ref ad pr) (own_ex_ref ad pr) (pc0 := 15) (pc' := 18) (same := true) rfl (hb hby at_15) rfl (decide_eq_true (own_law ad _)) (by decide) (by decide) k) ?_
  refine own_go (b := T2.setTop (mkF m 19 #[.val (.int pr), .val (.int qr), .val (.int ((qr &&& (7 : Int32)) - (2 : Int32))), .unset, .unset] [(.int (1 : Int32))])) (fun t k => XS.iconst X2.here hx rfl (hb hby at_18) k) ?_
  refine own_go (b := T2.setTop (mkF m 23 #[.val (.int pr), .val (.int qr), .val (.int ((qr &&& (7 : Int32)) - (2 : Int32))), .unset, .unset] [(.int (1 : Int32))])) (fun t k => XS.goto X2.here hx rfl (pc0 := 19) (pc' := 23) rfl (hb hby at_19) (by decide) (by decide) k) ?_
  refine own_go (b := T2.setTop (mkF m 24 #[.val (.int pr), .val (.int qr), .val (.int ((qr &&& (7 : Int32)) - (2 : Int32))), .val (.int (1 : Int32)), .unset] [])) (fun t k => XS.istoreN X2.here hx rfl (hb hby at_23) rfl (l' := #[.val (.int pr), .val (.int qr), .val (.int ((qr &&& (7 : Int32)) - (2 : Int32))), .val (.int (1 : Int32)), .unset]) rfl k) ?_
  refine own_go (b := T2.setTop (mkF m 25 #[.val (.int pr), .val (.int qr), .val (.int ((qr &&& (7 : Int32)) - (2 : Int32))), .val (.int (1 : Int32)), .unset] [(.int ((qr &&& (7 : Int32)) - (2 : Int32)))])) (fun t k => XS.iloadN X2.here hx rfl (hb hby at_24) rfl  k) ?_
  obtain ⟨_, _, ⟨T3, L3, k3, n3⟩, -, X3, ⟨Lc3, hQ3, l3, y3, z3⟩, st3⟩ := Jvm.LawKit.callS X2 hx (y := (⟨"com/example/keyparley/keyparley/spnego/NegState", "of", "(I)Lcom/example/keyparley/keyparley/spnego/NegState;"⟩ : MethodName)) hown (mvT hZ (hw _ (List.mem_of_getElem? (i := 0) rfl))) (mvT hZ (hw _ (List.mem_of_getElem? (i := 1) rfl))) (mvT hZ (hw _ (List.mem_of_getElem? (i := 2) rfl))) (mvT hZ (hw _ (List.mem_of_getElem? (i := 3) rfl))) (by decide) (backOf (W := 0) (rm1 l Z a0 hw [] ((qr &&& (7 : Int32)) - (2 : Int32)) ad al ka h0 n0 Z0 Sal Val) hZ (hw _ (List.mem_of_getElem? (i := 3) rfl)) (hw _ (List.mem_of_getElem? (i := 2) rfl)) (by decide) (by decide)) (g := (mkF m 25 #[.val (.int pr), .val (.int qr), .val (.int ((qr &&& (7 : Int32)) - (2 : Int32))), .val (.int (1 : Int32)), .unset] [(.int ((qr &&& (7 : Int32)) - (2 : Int32)))])) rfl (by rw [hml]; rfl) (argsL := [(.int ((qr &&& (7 : Int32)) - (2 : Int32)))]) (rest := []) (lenOf pd_0 rfl) rfl (by show 2 * 0 + _ ≤ _; exact Nat.le_of_eq rfl) (hb hby at_25) (fun _ _ => ⟨rfl, e2, (by decide : 0 + 0 ≤ _), (by decide : 0 + 0 ≤ _)⟩)
  dsimp only [Pt.U, Pt.locs, Pt.cells, Pt.slots] at X3 l3 y3 z3 st3 hQ3
  subst l3 y3 z3
  obtain ⟨rfl, N3q, e3⟩ := hQ3
  have N3 := Fr.app N2 N3q
  refine own_go (b := T3.setTop (mkF m 28 #[.val (.int pr), .val (.int qr), .val (.int ((qr &&& (7 : Int32)) - (2 : Int32))), .val (.int (1 : Int32)), .unset] [(own_of ad ((qr &&& (7 : Int32)) - (2 : Int32)))])) st3 ?_
  refine own_go (b := T3.setTop (mkF m 29 #[.val (.int pr), .val (.int qr), .val (.int ((qr &&& (7 : Int32)) - (2 : Int32))), .val (.int (1 : Int32)), .unset] [(.int ((qr &&& (7 : Int32)) - (2 : Int32))), (own_of ad ((qr &&& (7 : Int32)) - (2 : Int32)))])) (fun t k => XS.iloadN X3.here hx rfl (hb hby at_28) rfl  k) ?_
  obtain ⟨_, _, ⟨T4, L4, k4, n4⟩, -, X4, ⟨Lc4, hQ4, l4, y4, z4⟩, st4⟩ := Jvm.LawKit.callS X3 hx (y := (⟨"com/example/keyparley/keyparley/spnego/NegStateOfPinLaw", "expected", "(I)Lcom/example/keyparley/keyparley/spnego/NegState;"⟩ : MethodName)) hown (mvT hZ (hw _ (List.mem_of_getElem? (i := 7) rfl))) (mvT hZ (hw _ (List.mem_of_getElem? (i := 8) rfl))) (mvT hZ (hw _ (List.mem_of_getElem? (i := 9) rfl))) (mvT hZ (hw _ (List.mem_of_getElem? (i := 10) rfl))) (by decide) (backOf (W := 1) (rm2 l Z a0 hw [] ((qr &&& (7 : Int32)) - (2 : Int32)) ad h0 n0 Z0 Sd0 Sd1 Sd2 Sd3) hZ (hw _ (List.mem_of_getElem? (i := 10) rfl)) (hw _ (List.mem_of_getElem? (i := 9) rfl)) (by decide) (by decide)) (g := (mkF m 29 #[.val (.int pr), .val (.int qr), .val (.int ((qr &&& (7 : Int32)) - (2 : Int32))), .val (.int (1 : Int32)), .unset] [(.int ((qr &&& (7 : Int32)) - (2 : Int32))), (own_of ad ((qr &&& (7 : Int32)) - (2 : Int32)))])) rfl (by rw [hml]; rfl) (argsL := [(.int ((qr &&& (7 : Int32)) - (2 : Int32)))]) (rest := [(own_of ad ((qr &&& (7 : Int32)) - (2 : Int32)))]) (lenOf pd_0 rfl) rfl (by show 2 * 0 + _ ≤ _; simp only [List.map_cons, List.map_nil, List.sum_cons, List.sum_nil, own_cat (own_of_ref ad ((qr &&& (7 : Int32)) - (2 : Int32)))]; exact Nat.le_of_ble_eq_true rfl) (hb hby at_29) (fun _ _ => ⟨rfl, e3, (by decide : 0 + 0 ≤ _), (by decide : 0 + 0 ≤ _)⟩)
  dsimp only [Pt.U, Pt.locs, Pt.cells, Pt.slots] at X4 l4 y4 z4 st4 hQ4
  subst l4 y4 z4
  obtain ⟨rfl, N4q, e4⟩ := hQ4
  have N4 := Fr.app N3 N4q
  refine own_go (b := T4.setTop (mkF m 32 #[.val (.int pr), .val (.int qr), .val (.int ((qr &&& (7 : Int32)) - (2 : Int32))), .val (.int (1 : Int32)), .unset] [(own_ex ad ((qr &&& (7 : Int32)) - (2 : Int32))), (own_of ad ((qr &&& (7 : Int32)) - (2 : Int32)))])) st4 ?_
  refine own_go (b := T4.setTop (mkF m 35 #[.val (.int pr), .val (.int qr), .val (.int ((qr &&& (7 : Int32)) - (2 : Int32))), .val (.int (1 : Int32)), .unset] [])) (fun t k => Jvm.RoadKit.acmp (g := (mkF m 32 #[.val (.int pr), .val (.int qr), .val (.int ((qr &&& (7 : Int32)) - (2 : Int32))), .val (.int (1 : Int32)), .unset] [(own_ex ad ((qr &&& (7 : Int32)) - (2 : Int32))), (own_of ad ((qr &&& (7 : Int32)) - (2 : Int32)))])) X4 hx rfl (own_of_ref ad ((qr &&& (7 : Int32)) - (2 : Int32))) (own_ex_ref ad ((qr &&& (7 : Int32)) - (2 : Int32))) (pc0 := 32) (pc' := 35) (same := true) rfl (hb hby at_32) rfl (decide_eq_true (own_law ad _)) (by decide) (by decide) k) ?_
  refine own_go (b := T4.setTop (mkF m 36 #[.val (.int pr), .val (.int qr), .val (.int ((qr &&& (7 : Int32)) - (2 : Int32))), .val (.int (1 : Int32)), .unset] [(.int (1 : Int32))])) (fun t k => XS.iconst X4.here hx rfl (hb hby at_35) k) ?_
  refine own_go (b := T4.setTop (mkF m 40 #[.val (.int pr), .val (.int qr), .val (.int ((qr &&& (7 : Int32)) - (2 : Int32))), .val (.int (1 : Int32)), .unset] [(.int (1 : Int32))])) (fun t k => XS.goto X4.here hx rfl (pc0 := 36) (pc' := 40) rfl (hb hby at_36) (by decide) (by decide) k) ?_
  refine own_go (b := T4.setTop (mkF m 42 #[.val (.int pr), .val (.int qr), .val (.int ((qr &&& (7 : Int32)) - (2 : Int32))), .val (.int (1 : Int32)), .val (.int (1 : Int32))] [])) (fun t k => XS.istore X4.here hx rfl (hb hby at_40) rfl (l' := #[.val (.int pr), .val (.int qr), .val (.int ((qr &&& (7 : Int32)) - (2 : Int32))), .val (.int (1 : Int32)), .val (.int (1 : Int32))]) rfl k) ?_
  refine own_go (b := T4.setTop (mkF m 43 #[.val (.int pr), .val (.int qr), .val (.int ((qr &&& (7 : Int32)) - (2 : Int32))), .val (.int (1 : Int32)), .val (.int (1 : Int32))] [(.int (1 : Int32))])) (fun t k => XS.iloadN X4.here hx rfl (hb hby at_42) rfl  k) ?_
  refine own_go (b := T4.setTop (mkF m 46 #[.val (.int pr), .val (.int qr), .val (.int ((qr &&& (7 : Int32)) - (2 : Int32))), .val (.int (1 : Int32)), .val (.int (1 : Int32))] [])) (fun t k => XS.ifNo X4.here hx rfl (hb hby at_43) rfl ((if0 _ _).trans (feq (by decide : ¬ ((1 : Int32) = (0 : Int32)))).1) k) ?_
  refine own_go (b := T4.setTop (mkF m 48 #[.val (.int pr), .val (.int qr), .val (.int ((qr &&& (7 : Int32)) - (2 : Int32))), .val (.int (1 : Int32)), .val (.int (1 : Int32))] [(.int (1 : Int32))])) (fun t k => XS.iload X4.here hx rfl (hb hby at_46) rfl  k) ?_
  refine own_go (b := T4.setTop (mkF m 51 #[.val (.int pr), .val (.int qr), .val (.int ((qr &&& (7 : Int32)) - (2 : Int32))), .val (.int (1 : Int32)), .val (.int (1 : Int32))] [])) (fun t k => XS.ifNo X4.here hx rfl (hb hby at_48) rfl ((if0 _ _).trans (feq (by decide : ¬ ((1 : Int32) = (0 : Int32)))).1) k) ?_
  refine own_go (b := T4.setTop (mkF m 52 #[.val (.int pr), .val (.int qr), .val (.int ((qr &&& (7 : Int32)) - (2 : Int32))), .val (.int (1 : Int32)), .val (.int (1 : Int32))] [(.int (1 : Int32))])) (fun t k => XS.iconst X4.here hx rfl (hb hby at_51) k) ?_
  refine own_go (b := T4.setTop (mkF m 56 #[.val (.int pr), .val (.int qr), .val (.int ((qr &&& (7 : Int32)) - (2 : Int32))), .val (.int (1 : Int32)), .val (.int (1 : Int32))] [(.int (1 : Int32))])) (fun t k => XS.goto X4.here hx rfl (pc0 := 52) (pc' := 56) rfl (hb hby at_52) (by decide) (by decide) k) ?_
  exact own_retN X4 hx hlk (t := .boolean) hrt (by simp) (hb hby at_56) (Nat.le_of_ble_eq_true rfl) (Nat.le_of_ble_eq_true rfl) (⟨rfl, N4⟩)
set_option maxRecDepth 65536 in
set_option maxHeartbeats 40000000 in
theorem comes_1 {Post : Tables → Env → Array Value → State → Outcome → State → Prop} (hpost : ∀ tb e args s v u, (limb_1_1.after args s (.returned v) u = true ∧ limb_1_2.after args s (.returned v) u = true ∧ True) → FrameEnd s (.returned v) u (Jvm.fieldLocs frame_1_writes args s ++ Jvm.arrayLocs frame_1_arrays args s ++ Jvm.staticLocs frame_1_statics s) 0 0 → Post tb e args s (.returned v) u) :
    ArmFor flags0 classFile x code maxLocals ret World_1 tables_1 room_1 Calls_1 rest_1 Pre_1 Post := by
  intro l hfl _ _ p e ha hc hk s m args below hf hA hF happ hP
  obtain ⟨hcalls, hrest, hpre⟩ := hP
  obtain ⟨-, -, -, hnamed, -, -, -, hat⟩ := (Spec.applies_iff hf).mp happ
  obtain ⟨hg, hn⟩ := and_e (Cond.before_iff.mp (show (Jvm.Cond.and given_1 narrow_1).before args s = true from hpre))
  obtain ⟨g1, g2⟩ := and_e hg
  obtain ⟨g3, g4⟩ := and_e g2
  obtain ⟨g5, g6⟩ := and_e hn
  obtain ⟨g7, g8⟩ := and_e g6
  obtain ⟨g9, g10⟩ := and_e g8
  obtain ⟨g11, g12⟩ := and_e g10
  obtain ⟨g13, g14⟩ := and_e g12
  obtain ⟨g15, g16⟩ := and_e g14
  obtain ⟨g17, g18⟩ := and_e g16
  obtain ⟨g19, g20⟩ := and_e g18
  obtain ⟨g21, g22⟩ := and_e g20
  obtain ⟨w0, w1, rfl⟩ : ∃ w0 w1 : Value, args = #[w0, w1] := by
    have hs : args.size = 2 := by simpa [Cond.value, given_1] using g1
    obtain ⟨L⟩ := args
    match L, hs with
    | [w0, w1], _ => exact ⟨w0, w1, rfl⟩
  have hw := fun d (hd : d ∈ tables_1) => atoms_spec (ws := Jvm.Cond.code x code maxLocals ret :: tables_1) hat d (List.mem_cons_of_mem _ hd)
  have hfit : Fit s := fun {y c} hc i hi => by
    obtain ⟨ha, rfl⟩ := Array.getElem?_eq_some_iff.mp hc
    have q := List.all_eq_true.mp ((Array.all_eq_true_iff_forall_mem.mp hF) _ (Array.getElem_mem ha)) i (List.mem_range.mpr hi)
    simpa [Array.getElem?_eq_getElem hi] using q
  obtain ⟨i0, ei0⟩ := is_v g3
  obtain rfl : w0 = (.int i0) := Option.some.inj ei0
  obtain ⟨i1, ei1⟩ := is_v g4
  obtain rfl : w1 = (.int i1) := Option.some.inj ei1
  obtain ⟨a_ACCEPT_COMPLETED, ev_ACCEPT_COMPLETED⟩ := exa_v g9
  have S_ACCEPT_COMPLETED := Sta.start ev_ACCEPT_COMPLETED (Or.inr ⟨(hw _ (List.mem_of_getElem? (i := 2) rfl)), (hw _ (List.mem_of_getElem? (i := 6) rfl))⟩)
  have E_ACCEPT_COMPLETED := Exa.start ev_ACCEPT_COMPLETED g9
  obtain ⟨a_ACCEPT_INCOMPLETE, ev_ACCEPT_INCOMPLETE⟩ := exa_v g13
  have S_ACCEPT_INCOMPLETE := Sta.start ev_ACCEPT_INCOMPLETE (Or.inr ⟨(hw _ (List.mem_of_getElem? (i := 2) rfl)), (hw _ (List.mem_of_getElem? (i := 12) rfl))⟩)
  have E_ACCEPT_INCOMPLETE := Exa.start ev_ACCEPT_INCOMPLETE g13
  obtain ⟨a_REJECT, ev_REJECT⟩ := exa_v g17
  have S_REJECT := Sta.start ev_REJECT (Or.inr ⟨(hw _ (List.mem_of_getElem? (i := 2) rfl)), (hw _ (List.mem_of_getElem? (i := 14) rfl))⟩)
  have E_REJECT := Exa.start ev_REJECT g17
  obtain ⟨a_REQUEST_MIC, ev_REQUEST_MIC⟩ := exa_v g21
  have S_REQUEST_MIC := Sta.start ev_REQUEST_MIC (Or.inr ⟨(hw _ (List.mem_of_getElem? (i := 2) rfl)), (hw _ (List.mem_of_getElem? (i := 16) rfl))⟩)
  have E_REQUEST_MIC := Exa.start ev_REQUEST_MIC g21
  obtain ⟨al_ALL, evl_ALL⟩ := arr_v g5
  have S_ALL := Sta.start evl_ALL (Or.inr ⟨(hw _ (List.mem_of_getElem? (i := 2) rfl)), (hw _ (List.mem_of_getElem? (i := 5) rfl))⟩)
  obtain ⟨cl_ALL, Ar_ALL⟩ := Arr.start evl_ALL g5
  have len_ALL := own_len evl_ALL Ar_ALL.1 g7
  have el_ALL_0 := own_elem evl_ALL Ar_ALL.1 ev_ACCEPT_COMPLETED g11
  have el_ALL_1 := own_elem evl_ALL Ar_ALL.1 ev_ACCEPT_INCOMPLETE g15
  have el_ALL_2 := own_elem evl_ALL Ar_ALL.1 ev_REJECT g19
  have el_ALL_3 := own_elem evl_ALL Ar_ALL.1 ev_REQUEST_MIC g22
  have Vz_ALL : Arv s s.heap al_ALL cl_ALL.cls (.object "com/example/keyparley/keyparley/spnego/NegState") (4 : Int32) [.ref a_ACCEPT_COMPLETED, .ref a_ACCEPT_INCOMPLETE, .ref a_REJECT, .ref a_REQUEST_MIC] .null := Arv.start hfit Ar_ALL len_ALL.2 len_ALL.1 (by decide) rfl ⟨el_ALL_0, el_ALL_1, el_ALL_2, el_ALL_3, trivial⟩
  obtain ⟨ad, had⟩ : ∃ ad : Nat → Addr, ad = fun k => [a_ACCEPT_COMPLETED, a_ACCEPT_INCOMPLETE, a_REJECT, a_REQUEST_MIC].getD k 0 := ⟨_, rfl⟩
  have had0 : ad 0 = a_ACCEPT_COMPLETED := by rw [had]; rfl
  rw [← had0] at S_ACCEPT_COMPLETED Vz_ALL
  have had1 : ad 1 = a_ACCEPT_INCOMPLETE := by rw [had]; rfl
  rw [← had1] at S_ACCEPT_INCOMPLETE Vz_ALL
  have had2 : ad 2 = a_REJECT := by rw [had]; rfl
  rw [← had2] at S_REJECT Vz_ALL
  have had3 : ad 3 = a_REQUEST_MIC := by rw [had]; rfl
  rw [← had3] at S_REQUEST_MIC Vz_ALL
  obtain ⟨n, o, h1, h2, h3, _, L, rfl, ⟨rfl, N⟩, hq⟩ := rm0 l s _ hw tables_1 i0 i1 ad al_ALL _ s.heap s.heap.size (Nat.le_refl _) S_ACCEPT_COMPLETED S_ACCEPT_INCOMPLETE S_REJECT S_REQUEST_MIC S_ALL Vz_ALL p e ha hc hk s m _ below hf ((Spec.applies_iff_loose hf).mp happ).1 ⟨rfl, State.Warmed39.refl s, rfl⟩ trivial
  refine ⟨n, _, h1, h2, h3, hpost _ _ _ _ _ _ ⟨Cond.after_iff.mpr rfl, Cond.after_iff.mpr (eq_i res_at (Term.int_eval (1)) rfl), trivial⟩ ⟨hq.1, hq.2.1, (hq.2.2.sift fun y hy => Or.inr (N y hy)).mono (by decide) (by decide)⟩⟩
theorem main_1_1 : Claimed_1_1 := comes_1 fun _ _ _ _ _ _ h hF => ⟨h.1, hF⟩
theorem main_1_2 : Claimed_1_2 := comes_1 fun _ _ _ _ _ _ h hF => ⟨h.2.1, hF⟩
end Jvm.Pilot.@@N@@
namespace Jvm.Pilot.@@N@@
open Jvm Jvm.ClassFile Sem Op Lib Jvm.Free Jvm.Stand Jvm.Pilot.@@N@@.Jvm.D
/-! MADE BY PROGRAM (witnessworld.py) out of the Statement's table words and the real class files: 13 classes; the members and pool entries that the words name. The judged class is class 1, her method 2. -/
namespace start1
open Jvm.ClassFile
def u (s : String) : CpInfo := .utf8 (stringToUtf16 s)
/-- a pool by its gaps: so many unusable entries, then the entry; so many at the end -/
def gap : Nat → List CpInfo → List CpInfo
  | 0, r => r
  | n + 1, r => .unusable :: gap n r
def poolList (es : List (Nat × CpInfo)) (last : Nat) : List CpInfo := es.foldr (fun e r => gap e.1 (e.2 :: r)) (gap last [])
def pool (es : List (Nat × CpInfo)) (last : Nat) : Array CpInfo := ⟨poolList es last⟩
def fileOf (pool : Array CpInfo) (this : Nat) (attrs : Array Attribute := #[]) (ms : Array MethodInfo := #[]) (fl : Nat := 33) (sup : Nat := 0) (ifs : Array Nat := #[]) (fds : Array FieldInfo := #[]) : ClassFile where
  minorVersion := 0
  majorVersion := 65
  constantPool := pool
  accessFlags := fl
  thisClass := this
  superClass := sup
  interfaces := ifs
  fields := fds
  methods := ms
  attributes := attrs
def plain (name : String) (sup : Option ClassId) : Class where
  name := name
  kind := .ordinary
  loader := none
  accessFlags := 33
  super := sup
  interfaces := #[]
  cf := none
  fields := #[]
  methods := #[]
  instanceTypes := #[]
  staticTypes := #[]
  resolved := #[]
  callSites := []
  init := .initialized
  statics := none
  mirror := none

def pool0 : Array CpInfo := pool [(5, u "<init>"), (0, u "()V"), (1, .class_ 10), (1, u "java/lang/Object")] 113

def k0m0 : Method := { name := "<init>", desc := "()V", sig := { parameters := [], returnType := none }, accessFlags := 1, code := none }
/-- java/lang/Object -/
def k0 : Class := { plain "java/lang/Object" none with
  accessFlags := 33
  interfaces := #[]
  cf := some (fileOf pool0 8 #[] #[{ accessFlags := 1, nameIndex := 5, descriptorIndex := 6, attributes := #[] }] 33 0 #[] #[])
  fields := #[]
  methods := #[k0m0]
  instanceTypes := #[]
  staticTypes := #[]
  resolved := Array.replicate 124 none
  statics := none }

def pool1 : Array CpInfo := pool [(2, .class_ 4), (1, u "java/lang/Object"), (0, u "<init>"), (0, u "()V"), (0, .fieldref 8 9), (0, .class_ 10), (0, .nameAndType 11 12), (0, u "com/example/keyparley/keyparley/spnego/NegState"), (0, u "ACCEPT_COMPLETED"), (0, u "Lcom/example/keyparley/keyparley/spnego/NegState;"), (0, .fieldref 8 14), (0, .nameAndType 15 12), (0, u "ACCEPT_INCOMPLETE"), (0, .fieldref 8 17), (0, .nameAndType 18 12), (0, u "REJECT"), (0, .fieldref 8 20), (0, .nameAndType 21 12), (0, u "REQUEST_MIC"), (0, .methodref 8 23), (0, .nameAndType 24 25), (0, u "of"), (0, u "(I)Lcom/example/keyparley/keyparley/spnego/NegState;"), (0, .methodref 27 28), (0, .class_ 29), (0, .nameAndType 30 25), (0, u "com/example/keyparley/keyparley/spnego/NegStateOfPinLaw"), (0, u "expected"), (3, u "law"), (0, u "(II)Z")] 2

def k1m0 : Method := { name := "<init>", desc := "()V", sig := { parameters := [], returnType := none }, accessFlags := 2, code := none }
def k1c1 : Code := { maxStack := 2, maxLocals := 1, code := method_2_code, exceptionTable := #[], attributes := #[] }
def k1m1 : Method := { name := "expected", desc := "(I)Lcom/example/keyparley/keyparley/spnego/NegState;", sig := { parameters := [.int], returnType := some (.object "com/example/keyparley/keyparley/spnego/NegState") }, accessFlags := 10, code := some k1c1 }
def k1c2 : Code := { maxStack := 2, maxLocals := 5, code := code, exceptionTable := #[], attributes := #[] }
def k1m2 : Method := { name := "law", desc := "(II)Z", sig := { parameters := [.int, .int], returnType := some .boolean }, accessFlags := 9, code := some k1c2 }
/-- com/example/keyparley/keyparley/spnego/NegStateOfPinLaw -/
def k1 : Class := { plain "com/example/keyparley/keyparley/spnego/NegStateOfPinLaw" (some 0) with
  accessFlags := 49
  interfaces := #[]
  cf := some (fileOf pool1 27 #[] #[{ accessFlags := 2, nameIndex := 5, descriptorIndex := 6, attributes := #[] }, { accessFlags := 10, nameIndex := 30, descriptorIndex := 25, attributes := #[] }, { accessFlags := 9, nameIndex := 34, descriptorIndex := 35, attributes := #[] }] 49 2 #[] #[])
  fields := #[]
  methods := #[k1m0, k1m1, k1m2]
  instanceTypes := #[]
  staticTypes := #[]
  resolved := Array.replicate 38 none
  statics := none }

def pool2 : Array CpInfo := pool [(1, .class_ 2), (0, u "java/lang/constant/Constable"), (0, .class_ 4), (0, u "java/lang/Object")] 6

/-- java/lang/constant/Constable -/
def k2 : Class := { plain "java/lang/constant/Constable" (some 0) with
  accessFlags := 1537
  interfaces := #[]
  cf := some (fileOf pool2 1 #[] #[] 1537 3 #[] #[])
  fields := #[]
  methods := #[]
  instanceTypes := #[]
  staticTypes := #[]
  resolved := Array.replicate 11 none
  statics := none }

def pool3 : Array CpInfo := pool [(1, .class_ 2), (0, u "java/lang/Comparable"), (0, .class_ 4), (0, u "java/lang/Object")] 7

/-- java/lang/Comparable -/
def k3 : Class := { plain "java/lang/Comparable" (some 0) with
  accessFlags := 1537
  interfaces := #[]
  cf := some (fileOf pool3 1 #[] #[] 1537 3 #[] #[])
  fields := #[]
  methods := #[]
  instanceTypes := #[]
  staticTypes := #[]
  resolved := Array.replicate 12 none
  statics := none }

def pool4 : Array CpInfo := pool [(1, .class_ 2), (0, u "java/io/Serializable"), (0, .class_ 4), (0, u "java/lang/Object")] 2

/-- java/io/Serializable -/
def k4 : Class := { plain "java/io/Serializable" (some 0) with
  accessFlags := 1537
  interfaces := #[]
  cf := some (fileOf pool4 1 #[] #[] 1537 3 #[] #[])
  fields := #[]
  methods := #[]
  instanceTypes := #[]
  staticTypes := #[]
  resolved := Array.replicate 7 none
  statics := none }

def pool5 : Array CpInfo := pool [(2, .class_ 4), (1, u "java/lang/Enum"), (0, u "name"), (0, u "Ljava/lang/String;"), (2, u "ordinal"), (0, u "I"), (1, .class_ 14), (1, u "java/lang/Object"), (4, u "hash"), (86, .class_ 108), (1, u "java/lang/Enum$EnumDesc"), (2, .class_ 112), (0, u "java/lang/constant/Constable"), (0, .class_ 114), (0, u "java/lang/Comparable"), (0, .class_ 116), (0, u "java/io/Serializable")] 87

/-- java/lang/Enum -/
def k5 : Class := { plain "java/lang/Enum" (some 0) with
  accessFlags := 1057
  interfaces := #[2, 3, 4]
  cf := some (fileOf pool5 2 #[.nestMembers #[106]] #[] 1057 12 #[111, 113, 115] #[{ accessFlags := 18, nameIndex := 5, descriptorIndex := 6, attributes := #[] }, { accessFlags := 18, nameIndex := 9, descriptorIndex := 10, attributes := #[] }, { accessFlags := 2, nameIndex := 19, descriptorIndex := 10, attributes := #[] }])
  fields := #[{ name := "name", type := (.object "java/lang/String"), accessFlags := 18, slot := 0, constantValue := 0 }, { name := "ordinal", type := .int, accessFlags := 18, slot := 1, constantValue := 0 }, { name := "hash", type := .int, accessFlags := 2, slot := 2, constantValue := 0 }]
  methods := #[]
  instanceTypes := #[(.object "java/lang/String"), .int, .int]
  staticTypes := #[]
  resolved := Array.replicate 204 none
  statics := none }

def pool6 : Array CpInfo := pool [(1, .class_ 2), (0, u "com/example/keyparley/keyparley/spnego/NegState"), (2, u "ACCEPT_COMPLETED"), (0, u "Lcom/example/keyparley/keyparley/spnego/NegState;"), (2, u "ACCEPT_INCOMPLETE"), (2, u "REJECT"), (2, u "REQUEST_MIC"), (2, u "$VALUES"), (0, u "[Lcom/example/keyparley/keyparley/spnego/NegState;"), (6, .class_ 28), (1, u "java/lang/Enum"), (6, .fieldref 1 36), (0, .nameAndType 37 19), (0, u "ALL"), (18, u "of"), (0, u "(I)Lcom/example/keyparley/keyparley/spnego/NegState;")] 5

def k6c0 : Code := { maxStack := 2, maxLocals := 1, code := prog_46_method_4_code, exceptionTable := #[], attributes := #[] }
def k6m0 : Method := { name := "of", desc := "(I)Lcom/example/keyparley/keyparley/spnego/NegState;", sig := { parameters := [.int], returnType := some (.object "com/example/keyparley/keyparley/spnego/NegState") }, accessFlags := 8, code := some k6c0 }
/-- com/example/keyparley/keyparley/spnego/NegState -/
def k6 : Class := { plain "com/example/keyparley/keyparley/spnego/NegState" (some 5) with
  accessFlags := 16433
  interfaces := #[]
  cf := some (fileOf pool6 1 #[] #[{ accessFlags := 8, nameIndex := 56, descriptorIndex := 57, attributes := #[] }] 16433 26 #[] #[{ accessFlags := 16409, nameIndex := 5, descriptorIndex := 6, attributes := #[] }, { accessFlags := 16409, nameIndex := 9, descriptorIndex := 6, attributes := #[] }, { accessFlags := 16409, nameIndex := 12, descriptorIndex := 6, attributes := #[] }, { accessFlags := 16409, nameIndex := 15, descriptorIndex := 6, attributes := #[] }, { accessFlags := 26, nameIndex := 37, descriptorIndex := 19, attributes := #[] }, { accessFlags := 4122, nameIndex := 18, descriptorIndex := 19, attributes := #[] }])
  fields := #[{ name := "ACCEPT_COMPLETED", type := (.object "com/example/keyparley/keyparley/spnego/NegState"), accessFlags := 16409, slot := 0, constantValue := 0 }, { name := "ACCEPT_INCOMPLETE", type := (.object "com/example/keyparley/keyparley/spnego/NegState"), accessFlags := 16409, slot := 1, constantValue := 0 }, { name := "REJECT", type := (.object "com/example/keyparley/keyparley/spnego/NegState"), accessFlags := 16409, slot := 2, constantValue := 0 }, { name := "REQUEST_MIC", type := (.object "com/example/keyparley/keyparley/spnego/NegState"), accessFlags := 16409, slot := 3, constantValue := 0 }, { name := "ALL", type := (.array (.object "com/example/keyparley/keyparley/spnego/NegState")), accessFlags := 26, slot := 4, constantValue := 0 }, { name := "$VALUES", type := (.array (.object "com/example/keyparley/keyparley/spnego/NegState")), accessFlags := 4122, slot := 5, constantValue := 0 }]
  methods := #[k6m0]
  instanceTypes := #[(.object "java/lang/String"), .int, .int]
  staticTypes := #[(.object "com/example/keyparley/keyparley/spnego/NegState"), (.object "com/example/keyparley/keyparley/spnego/NegState"), (.object "com/example/keyparley/keyparley/spnego/NegState"), (.object "com/example/keyparley/keyparley/spnego/NegState"), (.array (.object "com/example/keyparley/keyparley/spnego/NegState")), (.array (.object "com/example/keyparley/keyparley/spnego/NegState"))]
  resolved := Array.replicate 63 none
  statics := some 0 }

def pool7 : Array CpInfo := pool [(1, u "java/lang/Cloneable"), (0, .class_ 1), (0, u "java/lang/Object"), (0, .class_ 3)] 3

/-- java/lang/Cloneable -/
def k7 : Class := { plain "java/lang/Cloneable" (some 0) with
  accessFlags := 1537
  interfaces := #[]
  cf := some (fileOf pool7 2 #[] #[] 1537 4 #[] #[])
  fields := #[]
  methods := #[]
  instanceTypes := #[]
  staticTypes := #[]
  resolved := Array.replicate 8 none
  statics := none }

/-- the primitive byte -/
def k8 : Class := { plain "byte" none with kind := .primitive 'B', accessFlags := 0x411 }
/-- [B -/
def k9 : Class := { plain "[B" (some 0) with kind := .array 8 .byte, interfaces := #[7, 4], accessFlags := 1041 }

/-- the primitive int -/
def k10 : Class := { plain "int" none with kind := .primitive 'I', accessFlags := 0x411 }
/-- [I -/
def k11 : Class := { plain "[I" (some 0) with kind := .array 10 .int, interfaces := #[7, 4], accessFlags := 1041 }

/-- [Lcom/example/keyparley/keyparley/spnego/NegState; -/
def k12 : Class := { plain "[Lcom/example/keyparley/keyparley/spnego/NegState;" (some 0) with kind := .array 6 (.object "com/example/keyparley/keyparley/spnego/NegState"), interfaces := #[7, 4], accessFlags := 1041 }

def heap : Heap := #[{ cls := 6, slots := #[.ref 2, .ref 3, .ref 4, .ref 5, .ref 1, .null], vm := .statics 6 },
  { cls := 12, slots := #[.ref 2, .ref 3, .ref 4, .ref 5], vm := .none },
  { cls := 6, slots := #[.null, .int 0, .int 0], vm := .none },
  { cls := 6, slots := #[.null, .int 1, .int 0], vm := .none },
  { cls := 6, slots := #[.null, .int 2, .int 0], vm := .none },
  { cls := 6, slots := #[.null, .int 3, .int 0], vm := .none }]
def classes : Array Class := #[k0, k1, k2, k3, k4, k5, k6, k7, k8, k9, k10, k11, k12]
def interned : List (Array UInt16 × Addr) := []
def slotsUsed : Nat := 22
def theMethod : MethodId := ⟨1, 2⟩
def args0 : Array Value := #[.int 5, .int 3]
def aboutOver (below : List Frame) : State where
  vm := { classes := classes, interned := interned.toArray }
  heap := heap
  slotsUsed := slotsUsed
  threads := #[{ frames := .invoking theMethod args0 :: below }]
def below0 : List Frame := [.native { method := ⟨0, 0⟩, args := #[] }]
def about1 : State := aboutOver below0
def p0 : Program := .bare "" "" ""
def e0 : Env := launch0.env 0 0 0
theorem w_frames : about1.frames = Frame.invoking theMethod args0 :: below0 := rfl
set_option maxRecDepth 65536 in
theorem w_args : argsFit about1.vm theMethod args0 = true := by decide +kernel
set_option maxRecDepth 65536 in
theorem w_heap : heapFits about1 = true := by decide +kernel
set_option maxRecDepth 65536 in
theorem w_runnable : about1.curStatus? = some .runnable := by decide +kernel
set_option maxRecDepth 65536 in
theorem w_alone : about1.alone = true := by decide +kernel
set_option maxRecDepth 65536 in
theorem w_named : about1.methodNamed? x = some theMethod := by decide +kernel
set_option maxRecDepth 65536 in
theorem w_hears : about1.hears theMethod below0 = true := by decide +kernel
set_option maxRecDepth 65536 in
theorem w_ripe : about1.ripe theMethod args0 below0 = true := by decide +kernel
theorem w_running : about1.status = .running := rfl
set_option maxRecDepth 65536 in
theorem w_room : about1.hasRoom e0.platform room_1 = true :=
  launch0.hasRoom_least _ room_1 (by decide +kernel) (by decide +kernel) (by decide +kernel) (by decide +kernel) (by decide +kernel) (by decide +kernel)
theorem allAtoms_all (ts : List Jvm.Cond) (a : Array Jvm.Value) (st : Jvm.State) : (allAtoms ts).before a st = ts.all (fun c => c.before a st) := by
  induction ts with
  | nil => rfl
  | cons c t ih =>
    show (Jvm.Cond.and c (allAtoms t)).before a st = _
    rw [Jvm.Cond.before_and, ih, List.all_cons]
def words1 : List Jvm.Cond := Jvm.Cond.code x code maxLocals ret :: tables_1
/-- a 'code' word, met by the world's own term for the bytes: nothing is compared byte by byte -/
theorem code_word {y : MethodName} {bytes : ByteArray} {mx : Nat} {rt : Option FieldType} {a : Array Value} {s : State} {m : MethodId} {meth : Method} {c : Code} (h1 : s.methodNamed? y = some m) (h2 : s.vm.method? m = some meth) (h3 : meth.code = some c) (h4 : c.code = bytes)
    (h5 : (c.maxLocals == mx && c.exceptionTable.isEmpty && decide (c.maxStack ≤ mostOperands) && decide (meth.sig.returnType = rt) && !meth.locks && decide (parseMethodDescriptor y.desc = some meth.sig)) = true) : (Jvm.Cond.code y bytes mx rt).before a s = true := by
  simp only [Bool.and_eq_true, beq_iff_eq, Bool.not_eq_true', decide_eq_true_eq] at h5
  obtain ⟨⟨⟨⟨⟨g1, g2⟩, g3⟩, g4⟩, g5⟩, g6⟩ := h5
  simp [Cond.before, Cond.holds, Cond.value, h1, h2, h3, h4, g1, g2, g3, g4, g5, g6]
def isCode : Jvm.Cond → Bool
  | .code _ _ _ _ => true
  | _ => false
theorem all_split {L : List Jvm.Cond} {P : Jvm.Cond → Bool} (h1 : L.all (fun c => isCode c || P c) = true) (h2 : ∀ c ∈ L.filter isCode, P c = true) : L.all P = true := by
  refine List.all_eq_true.mpr fun c hc => ?_
  have h := List.all_eq_true.mp h1 c hc
  rcases Bool.eq_false_or_eq_true (isCode c) with hi | hi
  · exact h2 c (List.mem_filter.mpr ⟨hc, hi⟩)
  · simpa [hi] using h
set_option maxRecDepth 65536 in
theorem w_c0 : (Jvm.Cond.code x code maxLocals ret).before args0 about1 = true := code_word (m := ⟨1, 2⟩) (meth := k1m2) (c := k1c2) (by decide +kernel) rfl rfl rfl (by decide +kernel)
set_option maxRecDepth 65536 in
theorem w_c1 : (Jvm.Cond.code ({ cls := "com/example/keyparley/keyparley/spnego/NegState", name := "of", desc := "(I)Lcom/example/keyparley/keyparley/spnego/NegState;" } : Jvm.MethodName) prog_46_method_4_code (1 : Nat) (Option.some (Jvm.ClassFile.FieldType.object "com/example/keyparley/keyparley/spnego/NegState"))).before args0 about1 = true := code_word (m := ⟨6, 0⟩) (meth := k6m0) (c := k6c0) (by decide +kernel) rfl rfl rfl (by decide +kernel)
set_option maxRecDepth 65536 in
theorem w_c2 : (Jvm.Cond.code ({ cls := "com/example/keyparley/keyparley/spnego/NegStateOfPinLaw", name := "expected", desc := "(I)Lcom/example/keyparley/keyparley/spnego/NegState;" } : Jvm.MethodName) method_2_code (1 : Nat) (Option.some (Jvm.ClassFile.FieldType.object "com/example/keyparley/keyparley/spnego/NegState"))).before args0 about1 = true := code_word (m := ⟨1, 1⟩) (meth := k1m1) (c := k1c1) (by decide +kernel) rfl rfl rfl (by decide +kernel)
def codes1 : List Jvm.Cond := [Jvm.Cond.code x code maxLocals ret, Jvm.Cond.code ({ cls := "com/example/keyparley/keyparley/spnego/NegState", name := "of", desc := "(I)Lcom/example/keyparley/keyparley/spnego/NegState;" } : Jvm.MethodName) prog_46_method_4_code (1 : Nat) (Option.some (Jvm.ClassFile.FieldType.object "com/example/keyparley/keyparley/spnego/NegState")), Jvm.Cond.code ({ cls := "com/example/keyparley/keyparley/spnego/NegStateOfPinLaw", name := "expected", desc := "(I)Lcom/example/keyparley/keyparley/spnego/NegState;" } : Jvm.MethodName) method_2_code (1 : Nat) (Option.some (Jvm.ClassFile.FieldType.object "com/example/keyparley/keyparley/spnego/NegState"))]
set_option maxRecDepth 65536 in
theorem codes_eq : words1.filter isCode = codes1 := rfl
theorem w_codes : ∀ c ∈ words1.filter isCode, c.before args0 about1 = true := by
  rw [codes_eq]
  intro c hc
  simp only [codes1, List.mem_cons, List.not_mem_nil, or_false] at hc
  rcases hc with rfl | rfl | rfl
  · exact w_c0
  · exact w_c1
  · exact w_c2
set_option maxRecDepth 65536 in
theorem w_t1 : words1.all (fun c => isCode c || c.before args0 about1) = true := by decide +kernel
theorem w_tables : (allAtoms (Jvm.Cond.code x code maxLocals ret :: tables_1)).before args0 about1 = true := by
  rw [allAtoms_all]
  show words1.all (fun c => c.before args0 about1) = true
  refine all_split ?_ w_codes
  rw [w_t1]
set_option maxRecDepth 65536 in
theorem w_case : (Jvm.Cond.and given_1 narrow_1).before args0 about1 = true := by decide +kernel
theorem w_applies : (headSpec (Jvm.Cond.code x code maxLocals ret :: tables_1) room_1).applies x e0.platform about1 = true :=
  (Spec.applies_iff w_frames).mpr ⟨w_running, w_runnable, w_alone, w_named, w_hears, w_ripe, w_room, w_tables⟩
theorem atStart : AtStart classFile x code maxLocals ret World_1 tables_1 room_1 Calls_1 rest_1 Pre_1 launch0 p0 e0 about1 theMethod args0 below0 :=
  ⟨lists_1, trivial, launch0.admits_env _ _ _, launch0.least_env, fairChoices_fair.cas, fairChoices_fair.clock, w_frames, w_args, w_heap, w_applies, trivial, trivial, w_case⟩
end start1
theorem witness_1 : WitnessClaimed_1 := ⟨start1.p0, start1.e0, start1.about1, start1.theMethod, start1.args0, start1.below0, start1.atStart⟩
end Jvm.Pilot.@@N@@
