import JvmDerived
import JvmDerived.Pilot.@@N@@Statement
import JvmDerived.Pilot.@@N@@Code
set_option linter.unusedVariables false
set_option linter.unusedSimpArgs false
namespace Jvm.RoadKit
open Sem ClassFile Op Lib Jvm.Stand Jvm.Free Jvm.LawKit
section New
variable {p : Program} {l : Launch} {e : Env} {R : Room} {s : State} {m : MethodId} {args : Array Value} {below : List Frame} {meth : Method} {c : Code} {T : State} {locs : List Loc} {cells slots : Nat}
theorem retI (X : Stand p l e R s m args below meth c T locs cells slots) (hx : p.tables.exec = Jvm.exec) {pc : Nat} {Ls : Array Slot} {z : Int32} {rest : List Value} (hret : meth.sig.returnType = some .int) (hd : decode c.code pc = .ok (.ireturn, 1)) {fs : List Frame}
    (hl : ∀ (f : JFrame) (acts : List Action), f.method = m → f.locked = none → f.entered = [] → (doReturn e (T.setTop f) acts (some (.int z))).1 = T.setFrames fs) : Steps p.tables e below (T.setTop (mkF m pc Ls (.int z :: rest))) (T.setFrames fs) := by
  have hm' : T.vm.method? m = some meth := X.method'
  have hn : narrow .int (.int z) = .int z := rfl
  show Steps p.tables e below (T.setTop { method := m, pc := pc, locals := Ls, stack := _ :: rest, locked := none }) _
  jvm_step X.here [X.here.top, hx, hd, hm', hret, hn]
  first | (intro acts; rw [hl _ acts rfl rfl rfl]) | rw [hl _ _ rfl rfl rfl]
  exact Steps.refl _
/-- from the state a the run ends, within its caller's frames, in an outcome of which P holds -/
def own_Endz (tb : Tables) (e : Env) (below : List Frame) (P : Outcome → State → Prop) (a : State) : Prop := ∃ s₂ o, Steps tb e below a s₂ ∧ s₂.status = .running ∧ Ended s₂ below o ∧ P o s₂
abbrev own_EndQ (s : State) (k n : Nat) (Q : Option Value → Heap → List Loc → Prop) : Outcome → State → Prop := fun o U' => ∃ v L, o = .returned v ∧ Q v U'.heap L ∧ FrameEnd s o U' L k n
theorem own_go {tb : Tables} {P : Outcome → State → Prop} {a b : State} (h : ∀ t, Steps tb e below b t → Steps tb e below a t) (k : own_Endz tb e below P b) : own_Endz tb e below P a := by
  obtain ⟨s2, o, h1, r⟩ := k
  exact ⟨s2, o, h _ h1, r⟩
theorem own_tr {tb : Tables} {P : Outcome → State → Prop} {a b : State} (h : Steps tb e below a b) (k : own_Endz tb e below P b) : own_Endz tb e below P a := by
  obtain ⟨s2, o, h1, r⟩ := k
  exact ⟨s2, o, h.trans h1, r⟩
theorem own_cast {tb : Tables} {P : Outcome → State → Prop} {g g' : JFrame} (q : g = g') (k : own_Endz tb e below P (T.setTop g')) : own_Endz tb e below P (T.setTop g) := q ▸ k
theorem own_retN (X : Stand p l e R s m args below meth c T locs cells slots) (hx : p.tables.exec = Jvm.exec) (hlk : meth.locks = false) {pc : Nat} {Ls : Array Slot} {z : Int32} {t : FieldType} {rest : List Value} (hret : meth.sig.returnType = some t) (ht : t = .boolean ∨ t = .byte ∨ t = .char ∨ t = .short)
    (hd : decode c.code pc = .ok (.ireturn, 1)) {k n : Nat} {Q : Option Value → Heap → List Loc → Prop} (hk : cells ≤ k) (hn : slots ≤ n) (q : Q (some (.int (nar t z))) T.heap locs) : own_Endz p.tables e below (own_EndQ s k n Q) (T.setTop (mkF m pc Ls (.int z :: rest))) := by
  obtain ⟨fs, hr, hrun, hended, hW, hsame⟩ := X.leave (v := some (.int (nar t z))) (fun h => by rw [hret] at h; cases h) hlk
  exact ⟨_, _, retN X hx hret ht hd hr, hrun, hended, _, _, rfl, q, ⟨_, rfl⟩, hW, hsame.mono hk hn⟩
theorem own_retI (X : Stand p l e R s m args below meth c T locs cells slots) (hx : p.tables.exec = Jvm.exec) (hlk : meth.locks = false) {pc : Nat} {Ls : Array Slot} {z : Int32} {rest : List Value} (hret : meth.sig.returnType = some .int)
    (hd : decode c.code pc = .ok (.ireturn, 1)) {k n : Nat} {Q : Option Value → Heap → List Loc → Prop} (hk : cells ≤ k) (hn : slots ≤ n) (q : Q (some (.int z)) T.heap locs) : own_Endz p.tables e below (own_EndQ s k n Q) (T.setTop (mkF m pc Ls (.int z :: rest))) := by
  obtain ⟨fs, hr, hrun, hended, hW, hsame⟩ := X.leave (v := some (.int z)) (fun h => by rw [hret] at h; cases h) hlk
  exact ⟨_, _, retI X hx hret hd hr, hrun, hended, _, _, rfl, q, ⟨_, rfl⟩, hW, hsame.mono hk hn⟩
theorem own_retA (X : Stand p l e R s m args below meth c T locs cells slots) (hx : p.tables.exec = Jvm.exec) (hlk : meth.locks = false) {pc : Nat} {Ls : Array Slot} {w : Value} {t : FieldType} {rest : List Value} (hret : meth.sig.returnType = some t) (ht : t.isReference = true) (hw : w.isRef = true)
    (hd : decode c.code pc = .ok (.areturn, 1)) {k n : Nat} {Q : Option Value → Heap → List Loc → Prop} (hk : cells ≤ k) (hn : slots ≤ n) (q : Q (some w) T.heap locs) : own_Endz p.tables e below (own_EndQ s k n Q) (T.setTop (mkF m pc Ls (w :: rest))) := by
  obtain ⟨fs, hr, hrun, hended, hW, hsame⟩ := X.leave (v := some w) (fun h => by rw [hret] at h; cases h) hlk
  have hnw : narrow t w = w := by cases t <;> first | (cases ht; done) | rfl
  exact ⟨_, _, retOut X hx hret hnw (Or.inr (Or.inr (Or.inr (Or.inr ⟨rfl, ht, hw⟩)))) hd hr, hrun, hended, _, _, rfl, q, ⟨_, rfl⟩, hW, hsame.mono hk hn⟩
theorem own_retV (X : Stand p l e R s m args below meth c T locs cells slots) (hx : p.tables.exec = Jvm.exec) (hlk : meth.locks = false) {pc : Nat} {Ls : Array Slot} (hret : meth.sig.returnType = none)
    (hd : decode c.code pc = .ok (.return_, 1)) {k n : Nat} {Q : Option Value → Heap → List Loc → Prop} (hk : cells ≤ k) (hn : slots ≤ n) (q : Q none T.heap locs) : own_Endz p.tables e below (own_EndQ s k n Q) (T.setTop (mkF m pc Ls [])) := by
  obtain ⟨fs, hr, hrun, hended, hW, hsame⟩ := X.leave (v := none) (fun _ => rfl) hlk
  exact ⟨_, _, X.returnOut hx hret hd hr, hrun, hended, _, _, rfl, q, ⟨_, rfl⟩, hW, hsame.mono hk hn⟩
theorem own_ev {t u : Term} {k : Int32} {args : Array Value} (h : (Cond.eq t (.int k)).value args s none s [] = some true) : t.eval args s none [] s = some (.int k) := by
  simp only [Cond.value, Term.eval] at h
  split at h <;> simp_all
theorem own_fld {t : Term} {C n d : String} {k : Int32} {x : Addr} {args : Array Value} (ht : t.eval args s none [] s = some (.ref x)) (h : (Cond.eq (.field t C n d) (.int k)).value args s none s [] = some true) : Fld s s.heap x C n d (.int k) :=
  Fld.start ((fld_at ht).symm.trans (own_ev (u := t) h))
theorem own_enum {Z : State} {h : Heap} {C f d : String} {ad : Nat → Addr} {n : Nat} (hn : n ≤ 2 ^ 31) (F : ∀ i, i < n → Fld Z h (ad i) C f d (.int i.toInt32)) (i j : Nat) (hi : i < n) (hj : j < n) : ad i = ad j ↔ i = j := by
  refine ⟨fun q => Classical.byContradiction fun ne => (F i hi).ne (F j hj) (fun v => ne ?_) q, fun q => q ▸ rfl⟩
  have q1 := congrArg Int32.toInt (Value.int.inj v)
  rw [len_toInt (by omega), len_toInt (by omega)] at q1
  omega
theorem own_cat {v : Value} (h : v.isRef = true) : v.category = 1 := by cases v <;> first | rfl | (cases h)
theorem own_evR {t u : Term} {a : Addr} {args : Array Value} (hu : u.eval args s none [] s = some (.ref a)) (h : (Cond.eq t u).value args s none s [] = some true) : t.eval args s none [] s = some (.ref a) := by
  simp only [Cond.value, hu] at h
  split at h <;> simp_all
theorem own_len {t : Term} {x : Addr} {cl : Cell} {k : Int32} {args : Array Value} (ht : t.eval args s none [] s = some (.ref x)) (hc : s.heap[x]? = some cl) (h : (Cond.eq (.length t) (.int k)).value args s none s [] = some true) : cl.slots.size.toInt32 = k ∧ cl.slots.size < 2 ^ 31 := by
  have e := own_ev (u := t) h
  obtain ⟨x', cl', e1, e2, e3⟩ := Term.length_spec e
  cases ht.symm.trans e1
  have e4 : cl' = cl := by
    simp only [State.arrayAt?, Option.bind_eq_bind, hc, Option.bind_some] at e2
    obtain ⟨k1, -, e2⟩ := Option.bind_eq_some_iff.mp e2
    split at e2
    · cases e2
    · split at e2
      · exact (Option.some.inj e2).symm
      · cases e2
  subst e4
  refine ⟨(Value.int.inj e3).symm, Classical.byContradiction fun hn => ?_⟩
  simp [Term.eval, ht, e2] at e
  exact hn e.1
theorem own_elem {t u : Term} {x a : Addr} {cl : Cell} {k : Int32} {args : Array Value} (ht : t.eval args s none [] s = some (.ref x)) (hc : s.heap[x]? = some cl) (hu : u.eval args s none [] s = some (.ref a)) (h : (Cond.eq (.elem t (.int k)) u).value args s none s [] = some true) : cl.slots[k.toNatClampNeg]? = some (.ref a) := by
  have e := own_evR hu h
  exact (elem_in e ht (Term.int_eval k) hc).2
theorem own_i {x y : Int32} (h : x ≠ y) : (Value.int x) ≠ .int y := fun q => h (Value.int.inj q)
end New
end Jvm.RoadKit
namespace Jvm.Pilot.@@N@@
open Jvm Jvm.ClassFile Sem Op Lib Jvm.Free Jvm.Stand Jvm.LawKit Jvm.RoadKit Bundle Jvm.Pilot.@@N@@.Jvm.D
def own_allow (ad : Nat → Addr) (r : Addr) (b : Int32) : Int32 := if r = ad 1 then 1 else if r = ad 2 then (if b = 0 then 0 else 1) else 0
theorem d1_0 : decode prog_12_method_5_code 0 = .ok (.aload_n 0, 1) := by decide +kernel
theorem d1_1 : decode prog_12_method_5_code 1 = .ok (.getstatic 7, 3) := by decide +kernel
theorem d1_4 : decode prog_12_method_5_code 4 = .ok (.if_acmp .eq 14, 3) := by decide +kernel
theorem d1_7 : decode prog_12_method_5_code 7 = .ok (.aload_n 0, 1) := by decide +kernel
theorem d1_8 : decode prog_12_method_5_code 8 = .ok (.getstatic 10, 3) := by decide +kernel
theorem d1_11 : decode prog_12_method_5_code 11 = .ok (.if_acmp .ne 11, 3) := by decide +kernel
theorem d1_14 : decode prog_12_method_5_code 14 = .ok (.iload_n 1, 1) := by decide +kernel
theorem d1_15 : decode prog_12_method_5_code 15 = .ok (.ifCond .eq 7, 3) := by decide +kernel
theorem d1_18 : decode prog_12_method_5_code 18 = .ok (.iconst 1, 1) := by decide +kernel
theorem d1_19 : decode prog_12_method_5_code 19 = .ok (.goto 4, 3) := by decide +kernel
theorem d1_22 : decode prog_12_method_5_code 22 = .ok (.iconst 0, 1) := by decide +kernel
theorem d1_23 : decode prog_12_method_5_code 23 = .ok (.ireturn, 1) := by decide +kernel
theorem pn_0 : plainName "com/example/fault/fault/RetryRule" = true := by first | (simp [plainName, overriddenIn]; done) | decide +kernel
theorem ef_1 (m : MethodId) (r : Addr) (b : Int32) : entryFrame m #[(.ref r), (.int b)] 2 = mkF m 0 #[.val (.ref r), .val (.int b)] [] := by first | (simp [entryFrame, mkF, argsToLocals, Value.category]; done) | rfl
def Q1 (Z : State) (r : Addr) (b : Int32) (ad : Nat → Addr) (h0 : Heap) (n0 : Nat) (v : Option Value) (h : Heap) (L : List Loc) : Prop := v = some (.int (own_allow ad r b)) ∧ Fr n0 L ∧ h = h0
set_option maxRecDepth 65536 in
set_option maxHeartbeats 40000000 in
theorem rm1 (l : Launch) (Z : State) (a0 : Array Value) (hw : ∀ d ∈ tables_1, d.before a0 Z = true) (ws : List Jvm.Cond) (r : Addr) (b : Int32) (ad : Nat → Addr) (h0 : Heap) (n0 : Nat) (Z0 : n0 ≤ h0.size) (Sd0 : Sta Z h0 "com/example/fault/fault/RetryRule" "NEVER" "Lcom/example/fault/fault/RetryRule;" (.ref (ad 0))) (Sd1 : Sta Z h0 "com/example/fault/fault/RetryRule" "ALWAYS" "Lcom/example/fault/fault/RetryRule;" (.ref (ad 1))) (Sd2 : Sta Z h0 "com/example/fault/fault/RetryRule" "WITH_RETRY_AFTER" "Lcom/example/fault/fault/RetryRule;" (.ref (ad 2))) :
    MetFree l (⟨"com/example/fault/fault/RetryRule", "allows", "(Z)Z"⟩ : MethodName) (head1 (Jvm.Cond.code (⟨"com/example/fault/fault/RetryRule", "allows", "(Z)Z"⟩ : MethodName) prog_12_method_5_code 2 (some .boolean) :: ws) ({ frames := 0, cells := 0, slots := 0, locals := 0 } : Room)) (fun a U => a = #[(.ref r), (.int b)] ∧ Z.Warmed39 U.vm ∧ U.heap = h0) (fun _ _ _ _ _ => True) (fun _ U o U' => ∃ v L, o = .returned v ∧ Q1 Z r b ad h0 n0 v U'.heap L ∧ FrameEnd U o U' L ({ frames := 0, cells := 0, slots := 0, locals := 0 } : Room).cells ({ frames := 0, cells := 0, slots := 0, locals := 0 } : Room).slots) := by
  refine MetFree.of_bodySF (plainFor_of_name pn_0) hisR ?_
  intro p e s m args below meth c s₁ Bd hml0 hP hK
  obtain ⟨rfl, hZ, hh⟩ := hP
  have hx := Bd.exec
  have hby := Bd.bytes
  have hml : c.maxLocals = 2 := hml0
  have hown : s.vm.findClass "com/example/fault/fault/RetryRule" = some m.cls := findClass_of_methodNamed Bd.named
  have hnm := (name_of_methodNamed Bd.named Bd.method).1
  have hlk : meth.locks = false := Bd.notSynchronized
  have hrt := Bd.returns
  have X0 : Stand p l e ({ frames := 0, cells := 0, slots := 0, locals := 0 } : Room) s m #[(.ref r), (.int b)] below meth c s₁ [] 0 0 := Stand.of_body Bd
  have e0 : s₁.heap = h0 := by rw [← hh, Bd.state]; rfl
  have N0 := Fr.nil n0
  show own_Endz p.tables e below (own_EndQ s ({ frames := 0, cells := 0, slots := 0, locals := 0 } : Room).cells ({ frames := 0, cells := 0, slots := 0, locals := 0 } : Room).slots (Q1 Z r b ad h0 n0)) (s₁.setTop (entryFrame m #[(.ref r), (.int b)] 2))
  refine own_cast (ef_1 m r b) ?_
  refine own_go (b := s₁.setTop (mkF m 1 #[.val (.ref r), .val (.int b)] [(.ref r)])) (fun t k => XS.aloadN X0.here hx rfl (hb hby d1_0) rfl rfl k) ?_
  obtain ⟨T1, X1, e1, st1⟩ := getS2 X0 hx hZ hown (host := "") (Or.inl (hw _ (List.mem_of_getElem? (i := 9) rfl))) Via.refl e0 Sd1 (g := (mkF m 1 #[.val (.ref r), .val (.int b)] [(.ref r)])) rfl (hb hby d1_1)
  refine own_go (b := T1.setTop (mkF m 4 #[.val (.ref r), .val (.int b)] [(.ref (ad 1)), (.ref r)])) st1 ?_
  by_cases hc2 : r = (ad 1)
  · refine own_go (b := T1.setTop (mkF m 18 #[.val (.ref r), .val (.int b)] [])) (fun t k => Jvm.RoadKit.acmp (g := (mkF m 4 #[.val (.ref r), .val (.int b)] [(.ref (ad 1)), (.ref r)])) X1 hx rfl rfl rfl (pc0 := 4) (pc' := 18) (same := true) rfl (hb hby d1_4) rfl (decide_eq_true (congrArg Value.ref hc2)) (by decide) (by decide) k) ?_
    refine own_go (b := T1.setTop (mkF m 19 #[.val (.ref r), .val (.int b)] [(.int (1 : Int32))])) (fun t k => XS.iconst X1.here hx rfl (hb hby d1_18) k) ?_
    refine own_go (b := T1.setTop (mkF m 23 #[.val (.ref r), .val (.int b)] [(.int (1 : Int32))])) (fun t k => XS.goto X1.here hx rfl (pc0 := 19) (pc' := 23) rfl (hb hby d1_19) (by decide) (by decide) k) ?_
    exact own_retN X1 hx hlk (t := .boolean) hrt (by simp) (hb hby d1_23) (Nat.le_of_ble_eq_true rfl) (Nat.le_of_ble_eq_true rfl) (⟨by first | rfl | (simp [own_allow, nar, eq_true hc2]; done) | (simp [own_allow, nar, eq_true hc2]; rfl), N0, e1⟩)
  · refine own_go (b := T1.setTop (mkF m 7 #[.val (.ref r), .val (.int b)] [])) (fun t k => Jvm.RoadKit.acmp (g := (mkF m 4 #[.val (.ref r), .val (.int b)] [(.ref (ad 1)), (.ref r)])) X1 hx rfl rfl rfl (pc0 := 4) (pc' := 7) (same := false) rfl (hb hby d1_4) rfl (decide_eq_false fun q => hc2 (Value.ref.inj q)) (by decide) (by decide) k) ?_
    refine own_go (b := T1.setTop (mkF m 8 #[.val (.ref r), .val (.int b)] [(.ref r)])) (fun t k => XS.aloadN X1.here hx rfl (hb hby d1_7) rfl rfl k) ?_
    obtain ⟨T3, X3, e3, st3⟩ := getS2 X1 hx hZ hown (host := "") (Or.inl (hw _ (List.mem_of_getElem? (i := 11) rfl))) Via.refl e1 Sd2 (g := (mkF m 8 #[.val (.ref r), .val (.int b)] [(.ref r)])) rfl (hb hby d1_8)
    refine own_go (b := T3.setTop (mkF m 11 #[.val (.ref r), .val (.int b)] [(.ref (ad 2)), (.ref r)])) st3 ?_
    by_cases hc4 : r = (ad 2)
    · refine own_go (b := T3.setTop (mkF m 14 #[.val (.ref r), .val (.int b)] [])) (fun t k => Jvm.RoadKit.acmp (g := (mkF m 11 #[.val (.ref r), .val (.int b)] [(.ref (ad 2)), (.ref r)])) X3 hx rfl rfl rfl (pc0 := 11) (pc' := 14) (same := true) rfl (hb hby d1_11) rfl (decide_eq_true (congrArg Value.ref hc4)) (by decide) (by decide) k) ?_
      refine own_go (b := T3.setTop (mkF m 15 #[.val (.ref r), .val (.int b)] [(.int b)])) (fun t k => XS.iloadN X3.here hx rfl (hb hby d1_14) rfl  k) ?_
      by_cases hc5 : b = (0 : Int32)
      · refine own_go (b := T3.setTop (mkF m 22 #[.val (.ref r), .val (.int b)] [])) (fun t k => XS.ifYes X3.here hx rfl (pc0 := 15) (pc' := 22) rfl (hb hby d1_15) rfl ((if0 _ _).trans (teq hc5).1) (by decide) (by decide) k) ?_
        refine own_go (b := T3.setTop (mkF m 23 #[.val (.ref r), .val (.int b)] [(.int (0 : Int32))])) (fun t k => XS.iconst X3.here hx rfl (hb hby d1_22) k) ?_
        exact own_retN X3 hx hlk (t := .boolean) hrt (by simp) (hb hby d1_23) (Nat.le_of_ble_eq_true rfl) (Nat.le_of_ble_eq_true rfl) (⟨by first | rfl | (simp [own_allow, nar, eq_false hc2, eq_true hc4, eq_true hc5]; done) | (simp [own_allow, nar, eq_false hc2, eq_true hc4, eq_true hc5]; rfl), N0, e3⟩)
      · refine own_go (b := T3.setTop (mkF m 18 #[.val (.ref r), .val (.int b)] [])) (fun t k => XS.ifNo X3.here hx rfl (hb hby d1_15) rfl ((if0 _ _).trans (feq hc5).1) k) ?_
        refine own_go (b := T3.setTop (mkF m 19 #[.val (.ref r), .val (.int b)] [(.int (1 : Int32))])) (fun t k => XS.iconst X3.here hx rfl (hb hby d1_18) k) ?_
        refine own_go (b := T3.setTop (mkF m 23 #[.val (.ref r), .val (.int b)] [(.int (1 : Int32))])) (fun t k => XS.goto X3.here hx rfl (pc0 := 19) (pc' := 23) rfl (hb hby d1_19) (by decide) (by decide) k) ?_
        exact own_retN X3 hx hlk (t := .boolean) hrt (by simp) (hb hby d1_23) (Nat.le_of_ble_eq_true rfl) (Nat.le_of_ble_eq_true rfl) (⟨by first | rfl | (simp [own_allow, nar, eq_false hc2, eq_true hc4, eq_false hc5]; done) | (simp [own_allow, nar, eq_false hc2, eq_true hc4, eq_false hc5]; rfl), N0, e3⟩)
    · refine own_go (b := T3.setTop (mkF m 22 #[.val (.ref r), .val (.int b)] [])) (fun t k => Jvm.RoadKit.acmp (g := (mkF m 11 #[.val (.ref r), .val (.int b)] [(.ref (ad 2)), (.ref r)])) X3 hx rfl rfl rfl (pc0 := 11) (pc' := 22) (same := false) rfl (hb hby d1_11) rfl (decide_eq_false fun q => hc4 (Value.ref.inj q)) (by decide) (by decide) k) ?_
      refine own_go (b := T3.setTop (mkF m 23 #[.val (.ref r), .val (.int b)] [(.int (0 : Int32))])) (fun t k => XS.iconst X3.here hx rfl (hb hby d1_22) k) ?_
      exact own_retN X3 hx hlk (t := .boolean) hrt (by simp) (hb hby d1_23) (Nat.le_of_ble_eq_true rfl) (Nat.le_of_ble_eq_true rfl) (⟨by first | rfl | (simp [own_allow, nar, eq_false hc2, eq_false hc4]; done) | (simp [own_allow, nar, eq_false hc2, eq_false hc4]; rfl), N0, e3⟩)
theorem pn_1 : plainName "com/example/fault/fault/RetryRuleAllowsPinLaw" = true := by first | (simp [plainName, overriddenIn]; done) | decide +kernel
theorem pd_0 : parseMethodDescriptor "(Z)Z" = some ⟨[.boolean], some .boolean⟩ := by decide +kernel
theorem ef_0 (m : MethodId) (pr : Int32) (qr : Int32) : entryFrame m #[(.int pr), (.int qr)] maxLocals = mkF m 0 #[.val (.int pr), .val (.int qr), .unset, .unset, .unset, .unset] [] := by first | (simp [entryFrame, mkF, argsToLocals, Value.category, maxLocals]; done) | rfl
def Q0 (Z : State) (pr : Int32) (qr : Int32) (ad : Nat → Addr) (h0 : Heap) (n0 : Nat) (v : Option Value) (h : Heap) (L : List Loc) : Prop := v = some (.int 1) ∧ Fr n0 L
set_option maxRecDepth 65536 in
set_option maxHeartbeats 40000000 in
theorem rm0 (l : Launch) (Z : State) (a0 : Array Value) (hw : ∀ d ∈ tables_1, d.before a0 Z = true) (ws : List Jvm.Cond) (pr : Int32) (qr : Int32) (ad : Nat → Addr) (h0 : Heap) (n0 : Nat) (Z0 : n0 ≤ h0.size) (Sd0 : Sta Z h0 "com/example/fault/fault/RetryRule" "NEVER" "Lcom/example/fault/fault/RetryRule;" (.ref (ad 0))) (Sd1 : Sta Z h0 "com/example/fault/fault/RetryRule" "ALWAYS" "Lcom/example/fault/fault/RetryRule;" (.ref (ad 1))) (Sd2 : Sta Z h0 "com/example/fault/fault/RetryRule" "WITH_RETRY_AFTER" "Lcom/example/fault/fault/RetryRule;" (.ref (ad 2))) (Ed : ∀ i, i < 3 → Exa Z h0 (ad i) "com/example/fault/fault/RetryRule") (hinj : ∀ i j, i < 3 → j < 3 → (ad i = ad j ↔ i = j)) :
    MetFree l x (head1 (Jvm.Cond.code x code maxLocals ret :: ws) room_1) (fun a U => a = #[(.int pr), (.int qr)] ∧ Z.Warmed39 U.vm ∧ U.heap = h0) (fun _ _ _ _ _ => True) (fun _ U o U' => ∃ v L, o = .returned v ∧ Q0 Z pr qr ad h0 n0 v U'.heap L ∧ FrameEnd U o U' L room_1.cells room_1.slots) := by
  refine MetFree.of_bodySF (plainFor_of_name pn_1) hisR ?_
  intro p e s m args below meth c s₁ Bd hml0 hP hK
  obtain ⟨rfl, hZ, hh⟩ := hP
  have hx := Bd.exec
  have hby := Bd.bytes
  have hml : c.maxLocals = 6 := hml0
  have hown : s.vm.findClass "com/example/fault/fault/RetryRuleAllowsPinLaw" = some m.cls := findClass_of_methodNamed Bd.named
  have hnm := (name_of_methodNamed Bd.named Bd.method).1
  have hlk : meth.locks = false := Bd.notSynchronized
  have hrt := Bd.returns
  have X0 : Stand p l e room_1 s m #[(.int pr), (.int qr)] below meth c s₁ [] 0 0 := Stand.of_body Bd
  have e0 : s₁.heap = h0 := by rw [← hh, Bd.state]; rfl
  have N0 := Fr.nil n0
  show own_Endz p.tables e below (own_EndQ s room_1.cells room_1.slots (Q0 Z pr qr ad h0 n0)) (s₁.setTop (entryFrame m #[(.int pr), (.int qr)] maxLocals))
  refine own_cast (ef_0 m pr qr) ?_
  refine own_go (b := s₁.setTop (mkF m 1 #[.val (.int pr), .val (.int qr), .unset, .unset, .unset, .unset] [(.int pr)])) (fun t k => XS.iloadN X0.here hx rfl (hb hby at_0) rfl  k) ?_
  refine own_go (b := s₁.setTop (mkF m 3 #[.val (.int pr), .val (.int qr), .unset, .unset, .unset, .unset] [(.int (2147483647 : Int32)), (.int pr)])) (fun t k => X0.ldcInt hx hown (mvT hZ (hw _ (List.mem_of_getElem? (i := 0) rfl))) (g := (mkF m 1 #[.val (.int pr), .val (.int qr), .unset, .unset, .unset, .unset] [(.int pr)])) rfl (hb hby at_1) t k) ?_
  refine own_go (b := s₁.setTop (mkF m 4 #[.val (.int pr), .val (.int qr), .unset, .unset, .unset, .unset] [(.int (pr &&& (2147483647 : Int32)))])) (fun t k => XS.iand X0.here hx rfl (hb hby at_3) rfl k) ?_
  refine own_go (b := s₁.setTop (mkF m 5 #[.val (.int pr), .val (.int qr), .unset, .unset, .unset, .unset] [(.int (3 : Int32)), (.int (pr &&& (2147483647 : Int32)))])) (fun t k => XS.iconst X0.here hx rfl (hb hby at_4) k) ?_
  refine own_go (b := s₁.setTop (mkF m 6 #[.val (.int pr), .val (.int qr), .unset, .unset, .unset, .unset] [(.int ((pr &&& (2147483647 : Int32)) % (3 : Int32)))])) (fun t k => iremM X0 hx rfl (hb hby at_5) rfl (by decide) k) ?_
  refine own_go (b := s₁.setTop (mkF m 7 #[.val (.int pr), .val (.int qr), .val (.int ((pr &&& (2147483647 : Int32)) % (3 : Int32))), .unset, .unset, .unset] [])) (fun t k => XS.istoreN X0.here hx rfl (hb hby at_6) rfl (l' := #[.val (.int pr), .val (.int qr), .val (.int ((pr &&& (2147483647 : Int32)) % (3 : Int32))), .unset, .unset, .unset]) rfl k) ?_
  refine own_go (b := s₁.setTop (mkF m 8 #[.val (.int pr), .val (.int qr), .val (.int ((pr &&& (2147483647 : Int32)) % (3 : Int32))), .unset, .unset, .unset] [(.int qr)])) (fun t k => XS.iloadN X0.here hx rfl (hb hby at_7) rfl  k) ?_
  refine own_go (b := s₁.setTop (mkF m 9 #[.val (.int pr), .val (.int qr), .val (.int ((pr &&& (2147483647 : Int32)) % (3 : Int32))), .unset, .unset, .unset] [(.int (1 : Int32)), (.int qr)])) (fun t k => XS.iconst X0.here hx rfl (hb hby at_8) k) ?_
  refine own_go (b := s₁.setTop (mkF m 10 #[.val (.int pr), .val (.int qr), .val (.int ((pr &&& (2147483647 : Int32)) % (3 : Int32))), .unset, .unset, .unset] [(.int (qr &&& (1 : Int32)))])) (fun t k => XS.iand X0.here hx rfl (hb hby at_9) rfl k) ?_
  by_cases hc1 : (qr &&& (1 : Int32)) = (0 : Int32)
  · refine own_go (b := s₁.setTop (mkF m 17 #[.val (.int pr), .val (.int qr), .val (.int ((pr &&& (2147483647 : Int32)) % (3 : Int32))), .unset, .unset, .unset] [])) (fun t k => XS.ifYes X0.here hx rfl (pc0 := 10) (pc' := 17) rfl (hb hby at_10) rfl ((if0 _ _).trans (teq hc1).1) (by decide) (by decide) k) ?_
    refine own_go (b := s₁.setTop (mkF m 18 #[.val (.int pr), .val (.int qr), .val (.int ((pr &&& (2147483647 : Int32)) % (3 : Int32))), .unset, .unset, .unset] [(.int (0 : Int32))])) (fun t k => XS.iconst X0.here hx rfl (hb hby at_17) k) ?_
    refine own_go (b := s₁.setTop (mkF m 19 #[.val (.int pr), .val (.int qr), .val (.int ((pr &&& (2147483647 : Int32)) % (3 : Int32))), .val (.int (0 : Int32)), .unset, .unset] [])) (fun t k => XS.istoreN X0.here hx rfl (hb hby at_18) rfl (l' := #[.val (.int pr), .val (.int qr), .val (.int ((pr &&& (2147483647 : Int32)) % (3 : Int32))), .val (.int (0 : Int32)), .unset, .unset]) rfl k) ?_
    refine own_go (b := s₁.setTop (mkF m 20 #[.val (.int pr), .val (.int qr), .val (.int ((pr &&& (2147483647 : Int32)) % (3 : Int32))), .val (.int (0 : Int32)), .unset, .unset] [(.int ((pr &&& (2147483647 : Int32)) % (3 : Int32)))])) (fun t k => XS.iloadN X0.here hx rfl (hb hby at_19) rfl  k) ?_
    by_cases hc2 : ((pr &&& (2147483647 : Int32)) % (3 : Int32)) = (0 : Int32)
    · refine own_go (b := s₁.setTop (mkF m 23 #[.val (.int pr), .val (.int qr), .val (.int ((pr &&& (2147483647 : Int32)) % (3 : Int32))), .val (.int (0 : Int32)), .unset, .unset] [])) (fun t k => XS.ifNo X0.here hx rfl (hb hby at_20) rfl ((if0 _ _).trans (teq hc2).2) k) ?_
      obtain ⟨T3, X3, e3, st3⟩ := getS2 X0 hx hZ hown (host := "") (Or.inl (hw _ (List.mem_of_getElem? (i := 1) rfl))) Via.refl e0 Sd0 (g := (mkF m 23 #[.val (.int pr), .val (.int qr), .val (.int ((pr &&& (2147483647 : Int32)) % (3 : Int32))), .val (.int (0 : Int32)), .unset, .unset] [])) rfl (hb hby at_23)
      refine own_go (b := T3.setTop (mkF m 26 #[.val (.int pr), .val (.int qr), .val (.int ((pr &&& (2147483647 : Int32)) % (3 : Int32))), .val (.int (0 : Int32)), .unset, .unset] [(.ref (ad 0))])) st3 ?_
      refine own_go (b := T3.setTop (mkF m 28 #[.val (.int pr), .val (.int qr), .val (.int ((pr &&& (2147483647 : Int32)) % (3 : Int32))), .val (.int (0 : Int32)), .val (.ref (ad 0)), .unset] [])) (fun t k => XS.astore X3.here hx rfl (hb hby at_26) rfl rfl (l' := #[.val (.int pr), .val (.int qr), .val (.int ((pr &&& (2147483647 : Int32)) % (3 : Int32))), .val (.int (0 : Int32)), .val (.ref (ad 0)), .unset]) rfl k) ?_
      refine own_go (b := T3.setTop (mkF m 29 #[.val (.int pr), .val (.int qr), .val (.int ((pr &&& (2147483647 : Int32)) % (3 : Int32))), .val (.int (0 : Int32)), .val (.ref (ad 0)), .unset] [(.int (0 : Int32))])) (fun t k => XS.iconst X3.here hx rfl (hb hby at_28) k) ?_
      refine own_go (b := T3.setTop (mkF m 31 #[.val (.int pr), .val (.int qr), .val (.int ((pr &&& (2147483647 : Int32)) % (3 : Int32))), .val (.int (0 : Int32)), .val (.ref (ad 0)), .val (.int (0 : Int32))] [])) (fun t k => XS.istore X3.here hx rfl (hb hby at_29) rfl (l' := #[.val (.int pr), .val (.int qr), .val (.int ((pr &&& (2147483647 : Int32)) % (3 : Int32))), .val (.int (0 : Int32)), .val (.ref (ad 0)), .val (.int (0 : Int32))]) rfl k) ?_
      refine own_go (b := T3.setTop (mkF m 58 #[.val (.int pr), .val (.int qr), .val (.int ((pr &&& (2147483647 : Int32)) % (3 : Int32))), .val (.int (0 : Int32)), .val (.ref (ad 0)), .val (.int (0 : Int32))] [])) (fun t k => XS.goto X3.here hx rfl (pc0 := 31) (pc' := 58) rfl (hb hby at_31) (by decide) (by decide) k) ?_
      refine own_go (b := T3.setTop (mkF m 60 #[.val (.int pr), .val (.int qr), .val (.int ((pr &&& (2147483647 : Int32)) % (3 : Int32))), .val (.int (0 : Int32)), .val (.ref (ad 0)), .val (.int (0 : Int32))] [(.ref (ad 0))])) (fun t k => XS.aload X3.here hx rfl (hb hby at_58) rfl rfl k) ?_
      refine own_go (b := T3.setTop (mkF m 61 #[.val (.int pr), .val (.int qr), .val (.int ((pr &&& (2147483647 : Int32)) % (3 : Int32))), .val (.int (0 : Int32)), .val (.ref (ad 0)), .val (.int (0 : Int32))] [(.int (0 : Int32)), (.ref (ad 0))])) (fun t k => XS.iloadN X3.here hx rfl (hb hby at_60) rfl  k) ?_
      obtain ⟨cq4, kq4, q4a, q4b, q4c⟩ := isOf hZ e3 (Ed 0 (by decide))
      obtain ⟨_, _, ⟨T4, L4, k4, n4⟩, -, X4, ⟨Lc4, hQ4, l4, y4, z4⟩, st4⟩ := X3.virtualBack hx (y := (⟨"com/example/fault/fault/RetryRule", "allows", "(Z)Z"⟩ : MethodName)) (z := (⟨"com/example/fault/fault/RetryRule", "allows", "(Z)Z"⟩ : MethodName)) hown (mvT hZ (hw _ (List.mem_of_getElem? (i := 4) rfl))) (mvT hZ (hw _ (List.mem_of_getElem? (i := 5) rfl))) (notFace_of_selects (args := #[]) (mvT hZ (hw _ (List.mem_of_getElem? (i := 7) rfl)))) (mvT hZ (hw _ (List.mem_of_getElem? (i := 7) rfl))) (mvT hZ (hw _ (List.mem_of_getElem? (i := 6) rfl))) (by decide) (backOf (W := 0) (rm1 l Z a0 hw [] (ad 0) (0 : Int32) ad h0 n0 Z0 Sd0 Sd1 Sd2) hZ (hw _ (List.mem_of_getElem? (i := 8) rfl)) (hw _ (List.mem_of_getElem? (i := 2) rfl)) (by decide) (by decide)) q4a q4c (g := (mkF m 61 #[.val (.int pr), .val (.int qr), .val (.int ((pr &&& (2147483647 : Int32)) % (3 : Int32))), .val (.int (0 : Int32)), .val (.ref (ad 0)), .val (.int (0 : Int32))] [(.int (0 : Int32)), (.ref (ad 0))])) rfl (by rw [hml]; rfl) (Steps.refl _) (argsL := [(.int (0 : Int32))]) (rest := []) (lenOf pd_0 rfl) rfl (by show 2 * 0 + _ ≤ _; exact Nat.le_of_eq rfl) (hb hby at_61) (fun _ _ => ⟨rfl, e3, (by decide : 0 + 0 ≤ _), (by decide : 0 + 0 ≤ _)⟩)
      dsimp only [Pt.U, Pt.locs, Pt.cells, Pt.slots] at X4 l4 y4 z4 st4 hQ4
      subst l4 y4 z4
      obtain ⟨rfl, N4q, e4⟩ := hQ4
      have N4 := Fr.app N0 N4q
      refine own_tr (b := T4.setTop (mkF m 64 #[.val (.int pr), .val (.int qr), .val (.int ((pr &&& (2147483647 : Int32)) % (3 : Int32))), .val (.int (0 : Int32)), .val (.ref (ad 0)), .val (.int (0 : Int32))] [(.int (own_allow ad (ad 0) (0 : Int32)))])) st4 ?_
      refine own_go (b := T4.setTop (mkF m 66 #[.val (.int pr), .val (.int qr), .val (.int ((pr &&& (2147483647 : Int32)) % (3 : Int32))), .val (.int (0 : Int32)), .val (.ref (ad 0)), .val (.int (0 : Int32))] [(.int (0 : Int32)), (.int (own_allow ad (ad 0) (0 : Int32)))])) (fun t k => XS.iload X4.here hx rfl (hb hby at_64) rfl  k) ?_
      have hq66 : (own_allow ad (ad 0) (0 : Int32)) = (0 : Int32) := by simp [own_allow, hinj]
      refine own_go (b := T4.setTop (mkF m 69 #[.val (.int pr), .val (.int qr), .val (.int ((pr &&& (2147483647 : Int32)) % (3 : Int32))), .val (.int (0 : Int32)), .val (.ref (ad 0)), .val (.int (0 : Int32))] [])) (fun t k => XS.icmpNo X4.here hx rfl (hb hby at_66) rfl (teq hq66).2 k) ?_
      refine own_go (b := T4.setTop (mkF m 70 #[.val (.int pr), .val (.int qr), .val (.int ((pr &&& (2147483647 : Int32)) % (3 : Int32))), .val (.int (0 : Int32)), .val (.ref (ad 0)), .val (.int (0 : Int32))] [(.int (1 : Int32))])) (fun t k => XS.iconst X4.here hx rfl (hb hby at_69) k) ?_
      refine own_go (b := T4.setTop (mkF m 74 #[.val (.int pr), .val (.int qr), .val (.int ((pr &&& (2147483647 : Int32)) % (3 : Int32))), .val (.int (0 : Int32)), .val (.ref (ad 0)), .val (.int (0 : Int32))] [(.int (1 : Int32))])) (fun t k => XS.goto X4.here hx rfl (pc0 := 70) (pc' := 74) rfl (hb hby at_70) (by decide) (by decide) k) ?_
      exact own_retN X4 hx hlk (t := .boolean) hrt (by simp) (hb hby at_74) (Nat.le_of_ble_eq_true rfl) (Nat.le_of_ble_eq_true rfl) (⟨rfl, N4⟩)
    · refine own_go (b := s₁.setTop (mkF m 34 #[.val (.int pr), .val (.int qr), .val (.int ((pr &&& (2147483647 : Int32)) % (3 : Int32))), .val (.int (0 : Int32)), .unset, .unset] [])) (fun t k => XS.ifYes X0.here hx rfl (pc0 := 20) (pc' := 34) rfl (hb hby at_20) rfl ((if0 _ _).trans (feq hc2).2) (by decide) (by decide) k) ?_
      refine own_go (b := s₁.setTop (mkF m 35 #[.val (.int pr), .val (.int qr), .val (.int ((pr &&& (2147483647 : Int32)) % (3 : Int32))), .val (.int (0 : Int32)), .unset, .unset] [(.int ((pr &&& (2147483647 : Int32)) % (3 : Int32)))])) (fun t k => XS.iloadN X0.here hx rfl (hb hby at_34) rfl  k) ?_
      refine own_go (b := s₁.setTop (mkF m 36 #[.val (.int pr), .val (.int qr), .val (.int ((pr &&& (2147483647 : Int32)) % (3 : Int32))), .val (.int (0 : Int32)), .unset, .unset] [(.int (1 : Int32)), (.int ((pr &&& (2147483647 : Int32)) % (3 : Int32)))])) (fun t k => XS.iconst X0.here hx rfl (hb hby at_35) k) ?_
      by_cases hc5 : ((pr &&& (2147483647 : Int32)) % (3 : Int32)) = (1 : Int32)
      · refine own_go (b := s₁.setTop (mkF m 39 #[.val (.int pr), .val (.int qr), .val (.int ((pr &&& (2147483647 : Int32)) % (3 : Int32))), .val (.int (0 : Int32)), .unset, .unset] [])) (fun t k => XS.icmpNo X0.here hx rfl (hb hby at_36) rfl (teq hc5).2 k) ?_
        obtain ⟨T6, X6, e6, st6⟩ := getS2 X0 hx hZ hown (host := "") (Or.inl (hw _ (List.mem_of_getElem? (i := 14) rfl))) Via.refl e0 Sd1 (g := (mkF m 39 #[.val (.int pr), .val (.int qr), .val (.int ((pr &&& (2147483647 : Int32)) % (3 : Int32))), .val (.int (0 : Int32)), .unset, .unset] [])) rfl (hb hby at_39)
        refine own_go (b := T6.setTop (mkF m 42 #[.val (.int pr), .val (.int qr), .val (.int ((pr &&& (2147483647 : Int32)) % (3 : Int32))), .val (.int (0 : Int32)), .unset, .unset] [(.ref (ad 1))])) st6 ?_
        refine own_go (b := T6.setTop (mkF m 44 #[.val (.int pr), .val (.int qr), .val (.int ((pr &&& (2147483647 : Int32)) % (3 : Int32))), .val (.int (0 : Int32)), .val (.ref (ad 1)), .unset] [])) (fun t k => XS.astore X6.here hx rfl (hb hby at_42) rfl rfl (l' := #[.val (.int pr), .val (.int qr), .val (.int ((pr &&& (2147483647 : Int32)) % (3 : Int32))), .val (.int (0 : Int32)), .val (.ref (ad 1)), .unset]) rfl k) ?_
        refine own_go (b := T6.setTop (mkF m 45 #[.val (.int pr), .val (.int qr), .val (.int ((pr &&& (2147483647 : Int32)) % (3 : Int32))), .val (.int (0 : Int32)), .val (.ref (ad 1)), .unset] [(.int (1 : Int32))])) (fun t k => XS.iconst X6.here hx rfl (hb hby at_44) k) ?_
        refine own_go (b := T6.setTop (mkF m 47 #[.val (.int pr), .val (.int qr), .val (.int ((pr &&& (2147483647 : Int32)) % (3 : Int32))), .val (.int (0 : Int32)), .val (.ref (ad 1)), .val (.int (1 : Int32))] [])) (fun t k => XS.istore X6.here hx rfl (hb hby at_45) rfl (l' := #[.val (.int pr), .val (.int qr), .val (.int ((pr &&& (2147483647 : Int32)) % (3 : Int32))), .val (.int (0 : Int32)), .val (.ref (ad 1)), .val (.int (1 : Int32))]) rfl k) ?_
        refine own_go (b := T6.setTop (mkF m 58 #[.val (.int pr), .val (.int qr), .val (.int ((pr &&& (2147483647 : Int32)) % (3 : Int32))), .val (.int (0 : Int32)), .val (.ref (ad 1)), .val (.int (1 : Int32))] [])) (fun t k => XS.goto X6.here hx rfl (pc0 := 47) (pc' := 58) rfl (hb hby at_47) (by decide) (by decide) k) ?_
        refine own_go (b := T6.setTop (mkF m 60 #[.val (.int pr), .val (.int qr), .val (.int ((pr &&& (2147483647 : Int32)) % (3 : Int32))), .val (.int (0 : Int32)), .val (.ref (ad 1)), .val (.int (1 : Int32))] [(.ref (ad 1))])) (fun t k => XS.aload X6.here hx rfl (hb hby at_58) rfl rfl k) ?_
        refine own_go (b := T6.setTop (mkF m 61 #[.val (.int pr), .val (.int qr), .val (.int ((pr &&& (2147483647 : Int32)) % (3 : Int32))), .val (.int (0 : Int32)), .val (.ref (ad 1)), .val (.int (1 : Int32))] [(.int (0 : Int32)), (.ref (ad 1))])) (fun t k => XS.iloadN X6.here hx rfl (hb hby at_60) rfl  k) ?_
        obtain ⟨cq7, kq7, q7a, q7b, q7c⟩ := isOf hZ e6 (Ed 1 (by decide))
        obtain ⟨_, _, ⟨T7, L7, k7, n7⟩, -, X7, ⟨Lc7, hQ7, l7, y7, z7⟩, st7⟩ := X6.virtualBack hx (y := (⟨"com/example/fault/fault/RetryRule", "allows", "(Z)Z"⟩ : MethodName)) (z := (⟨"com/example/fault/fault/RetryRule", "allows", "(Z)Z"⟩ : MethodName)) hown (mvT hZ (hw _ (List.mem_of_getElem? (i := 4) rfl))) (mvT hZ (hw _ (List.mem_of_getElem? (i := 5) rfl))) (notFace_of_selects (args := #[]) (mvT hZ (hw _ (List.mem_of_getElem? (i := 7) rfl)))) (mvT hZ (hw _ (List.mem_of_getElem? (i := 7) rfl))) (mvT hZ (hw _ (List.mem_of_getElem? (i := 6) rfl))) (by decide) (backOf (W := 0) (rm1 l Z a0 hw [] (ad 1) (0 : Int32) ad h0 n0 Z0 Sd0 Sd1 Sd2) hZ (hw _ (List.mem_of_getElem? (i := 8) rfl)) (hw _ (List.mem_of_getElem? (i := 2) rfl)) (by decide) (by decide)) q7a q7c (g := (mkF m 61 #[.val (.int pr), .val (.int qr), .val (.int ((pr &&& (2147483647 : Int32)) % (3 : Int32))), .val (.int (0 : Int32)), .val (.ref (ad 1)), .val (.int (1 : Int32))] [(.int (0 : Int32)), (.ref (ad 1))])) rfl (by rw [hml]; rfl) (Steps.refl _) (argsL := [(.int (0 : Int32))]) (rest := []) (lenOf pd_0 rfl) rfl (by show 2 * 0 + _ ≤ _; exact Nat.le_of_eq rfl) (hb hby at_61) (fun _ _ => ⟨rfl, e6, (by decide : 0 + 0 ≤ _), (by decide : 0 + 0 ≤ _)⟩)
        dsimp only [Pt.U, Pt.locs, Pt.cells, Pt.slots] at X7 l7 y7 z7 st7 hQ7
        subst l7 y7 z7
        obtain ⟨rfl, N7q, e7⟩ := hQ7
        have N7 := Fr.app N0 N7q
        refine own_tr (b := T7.setTop (mkF m 64 #[.val (.int pr), .val (.int qr), .val (.int ((pr &&& (2147483647 : Int32)) % (3 : Int32))), .val (.int (0 : Int32)), .val (.ref (ad 1)), .val (.int (1 : Int32))] [(.int (own_allow ad (ad 1) (0 : Int32)))])) st7 ?_
        refine own_go (b := T7.setTop (mkF m 66 #[.val (.int pr), .val (.int qr), .val (.int ((pr &&& (2147483647 : Int32)) % (3 : Int32))), .val (.int (0 : Int32)), .val (.ref (ad 1)), .val (.int (1 : Int32))] [(.int (1 : Int32)), (.int (own_allow ad (ad 1) (0 : Int32)))])) (fun t k => XS.iload X7.here hx rfl (hb hby at_64) rfl  k) ?_
        have hq66 : (own_allow ad (ad 1) (0 : Int32)) = (1 : Int32) := by simp [own_allow, hinj]
        refine own_go (b := T7.setTop (mkF m 69 #[.val (.int pr), .val (.int qr), .val (.int ((pr &&& (2147483647 : Int32)) % (3 : Int32))), .val (.int (0 : Int32)), .val (.ref (ad 1)), .val (.int (1 : Int32))] [])) (fun t k => XS.icmpNo X7.here hx rfl (hb hby at_66) rfl (teq hq66).2 k) ?_
        refine own_go (b := T7.setTop (mkF m 70 #[.val (.int pr), .val (.int qr), .val (.int ((pr &&& (2147483647 : Int32)) % (3 : Int32))), .val (.int (0 : Int32)), .val (.ref (ad 1)), .val (.int (1 : Int32))] [(.int (1 : Int32))])) (fun t k => XS.iconst X7.here hx rfl (hb hby at_69) k) ?_
        refine own_go (b := T7.setTop (mkF m 74 #[.val (.int pr), .val (.int qr), .val (.int ((pr &&& (2147483647 : Int32)) % (3 : Int32))), .val (.int (0 : Int32)), .val (.ref (ad 1)), .val (.int (1 : Int32))] [(.int (1 : Int32))])) (fun t k => XS.goto X7.here hx rfl (pc0 := 70) (pc' := 74) rfl (hb hby at_70) (by decide) (by decide) k) ?_
        exact own_retN X7 hx hlk (t := .boolean) hrt (by simp) (hb hby at_74) (Nat.le_of_ble_eq_true rfl) (Nat.le_of_ble_eq_true rfl) (⟨rfl, N7⟩)
      · refine own_go (b := s₁.setTop (mkF m 50 #[.val (.int pr), .val (.int qr), .val (.int ((pr &&& (2147483647 : Int32)) % (3 : Int32))), .val (.int (0 : Int32)), .unset, .unset] [])) (fun t k => XS.icmpYes X0.here hx rfl (pc0 := 36) (pc' := 50) rfl (hb hby at_36) rfl (feq hc5).2 (by decide) (by decide) k) ?_
        obtain ⟨T8, X8, e8, st8⟩ := getS2 X0 hx hZ hown (host := "") (Or.inl (hw _ (List.mem_of_getElem? (i := 13) rfl))) Via.refl e0 Sd2 (g := (mkF m 50 #[.val (.int pr), .val (.int qr), .val (.int ((pr &&& (2147483647 : Int32)) % (3 : Int32))), .val (.int (0 : Int32)), .unset, .unset] [])) rfl (hb hby at_50)
        refine own_go (b := T8.setTop (mkF m 53 #[.val (.int pr), .val (.int qr), .val (.int ((pr &&& (2147483647 : Int32)) % (3 : Int32))), .val (.int (0 : Int32)), .unset, .unset] [(.ref (ad 2))])) st8 ?_
        refine own_go (b := T8.setTop (mkF m 55 #[.val (.int pr), .val (.int qr), .val (.int ((pr &&& (2147483647 : Int32)) % (3 : Int32))), .val (.int (0 : Int32)), .val (.ref (ad 2)), .unset] [])) (fun t k => XS.astore X8.here hx rfl (hb hby at_53) rfl rfl (l' := #[.val (.int pr), .val (.int qr), .val (.int ((pr &&& (2147483647 : Int32)) % (3 : Int32))), .val (.int (0 : Int32)), .val (.ref (ad 2)), .unset]) rfl k) ?_
        refine own_go (b := T8.setTop (mkF m 56 #[.val (.int pr), .val (.int qr), .val (.int ((pr &&& (2147483647 : Int32)) % (3 : Int32))), .val (.int (0 : Int32)), .val (.ref (ad 2)), .unset] [(.int (0 : Int32))])) (fun t k => XS.iloadN X8.here hx rfl (hb hby at_55) rfl  k) ?_
        refine own_go (b := T8.setTop (mkF m 58 #[.val (.int pr), .val (.int qr), .val (.int ((pr &&& (2147483647 : Int32)) % (3 : Int32))), .val (.int (0 : Int32)), .val (.ref (ad 2)), .val (.int (0 : Int32))] [])) (fun t k => XS.istore X8.here hx rfl (hb hby at_56) rfl (l' := #[.val (.int pr), .val (.int qr), .val (.int ((pr &&& (2147483647 : Int32)) % (3 : Int32))), .val (.int (0 : Int32)), .val (.ref (ad 2)), .val (.int (0 : Int32))]) rfl k) ?_
        refine own_go (b := T8.setTop (mkF m 60 #[.val (.int pr), .val (.int qr), .val (.int ((pr &&& (2147483647 : Int32)) % (3 : Int32))), .val (.int (0 : Int32)), .val (.ref (ad 2)), .val (.int (0 : Int32))] [(.ref (ad 2))])) (fun t k => XS.aload X8.here hx rfl (hb hby at_58) rfl rfl k) ?_
        refine own_go (b := T8.setTop (mkF m 61 #[.val (.int pr), .val (.int qr), .val (.int ((pr &&& (2147483647 : Int32)) % (3 : Int32))), .val (.int (0 : Int32)), .val (.ref (ad 2)), .val (.int (0 : Int32))] [(.int (0 : Int32)), (.ref (ad 2))])) (fun t k => XS.iloadN X8.here hx rfl (hb hby at_60) rfl  k) ?_
        obtain ⟨cq9, kq9, q9a, q9b, q9c⟩ := isOf hZ e8 (Ed 2 (by decide))
        obtain ⟨_, _, ⟨T9, L9, k9, n9⟩, -, X9, ⟨Lc9, hQ9, l9, y9, z9⟩, st9⟩ := X8.virtualBack hx (y := (⟨"com/example/fault/fault/RetryRule", "allows", "(Z)Z"⟩ : MethodName)) (z := (⟨"com/example/fault/fault/RetryRule", "allows", "(Z)Z"⟩ : MethodName)) hown (mvT hZ (hw _ (List.mem_of_getElem? (i := 4) rfl))) (mvT hZ (hw _ (List.mem_of_getElem? (i := 5) rfl))) (notFace_of_selects (args := #[]) (mvT hZ (hw _ (List.mem_of_getElem? (i := 7) rfl)))) (mvT hZ (hw _ (List.mem_of_getElem? (i := 7) rfl))) (mvT hZ (hw _ (List.mem_of_getElem? (i := 6) rfl))) (by decide) (backOf (W := 0) (rm1 l Z a0 hw [] (ad 2) (0 : Int32) ad h0 n0 Z0 Sd0 Sd1 Sd2) hZ (hw _ (List.mem_of_getElem? (i := 8) rfl)) (hw _ (List.mem_of_getElem? (i := 2) rfl)) (by decide) (by decide)) q9a q9c (g := (mkF m 61 #[.val (.int pr), .val (.int qr), .val (.int ((pr &&& (2147483647 : Int32)) % (3 : Int32))), .val (.int (0 : Int32)), .val (.ref (ad 2)), .val (.int (0 : Int32))] [(.int (0 : Int32)), (.ref (ad 2))])) rfl (by rw [hml]; rfl) (Steps.refl _) (argsL := [(.int (0 : Int32))]) (rest := []) (lenOf pd_0 rfl) rfl (by show 2 * 0 + _ ≤ _; exact Nat.le_of_eq rfl) (hb hby at_61) (fun _ _ => ⟨rfl, e8, (by decide : 0 + 0 ≤ _), (by decide : 0 + 0 ≤ _)⟩)
        dsimp only [Pt.U, Pt.locs, Pt.cells, Pt.slots] at X9 l9 y9 z9 st9 hQ9
        subst l9 y9 z9
        obtain ⟨rfl, N9q, e9⟩ := hQ9
        have N9 := Fr.app N0 N9q
        refine own_tr (b := T9.setTop (mkF m 64 #[.val (.int pr), .val (.int qr), .val (.int ((pr &&& (2147483647 : Int32)) % (3 : Int32))), .val (.int (0 : Int32)), .val (.ref (ad 2)), .val (.int (0 : Int32))] [(.int (own_allow ad (ad 2) (0 : Int32)))])) st9 ?_
        refine own_go (b := T9.setTop (mkF m 66 #[.val (.int pr), .val (.int qr), .val (.int ((pr &&& (2147483647 : Int32)) % (3 : Int32))), .val (.int (0 : Int32)), .val (.ref (ad 2)), .val (.int (0 : Int32))] [(.int (0 : Int32)), (.int (own_allow ad (ad 2) (0 : Int32)))])) (fun t k => XS.iload X9.here hx rfl (hb hby at_64) rfl  k) ?_
        have hq66 : (own_allow ad (ad 2) (0 : Int32)) = (0 : Int32) := by simp [own_allow, hinj]
        refine own_go (b := T9.setTop (mkF m 69 #[.val (.int pr), .val (.int qr), .val (.int ((pr &&& (2147483647 : Int32)) % (3 : Int32))), .val (.int (0 : Int32)), .val (.ref (ad 2)), .val (.int (0 : Int32))] [])) (fun t k => XS.icmpNo X9.here hx rfl (hb hby at_66) rfl (teq hq66).2 k) ?_
        refine own_go (b := T9.setTop (mkF m 70 #[.val (.int pr), .val (.int qr), .val (.int ((pr &&& (2147483647 : Int32)) % (3 : Int32))), .val (.int (0 : Int32)), .val (.ref (ad 2)), .val (.int (0 : Int32))] [(.int (1 : Int32))])) (fun t k => XS.iconst X9.here hx rfl (hb hby at_69) k) ?_
        refine own_go (b := T9.setTop (mkF m 74 #[.val (.int pr), .val (.int qr), .val (.int ((pr &&& (2147483647 : Int32)) % (3 : Int32))), .val (.int (0 : Int32)), .val (.ref (ad 2)), .val (.int (0 : Int32))] [(.int (1 : Int32))])) (fun t k => XS.goto X9.here hx rfl (pc0 := 70) (pc' := 74) rfl (hb hby at_70) (by decide) (by decide) k) ?_
        exact own_retN X9 hx hlk (t := .boolean) hrt (by simp) (hb hby at_74) (Nat.le_of_ble_eq_true rfl) (Nat.le_of_ble_eq_true rfl) (⟨rfl, N9⟩)
  · refine own_go (b := s₁.setTop (mkF m 13 #[.val (.int pr), .val (.int qr), .val (.int ((pr &&& (2147483647 : Int32)) % (3 : Int32))), .unset, .unset, .unset] [])) (fun t k => XS.ifNo X0.here hx rfl (hb hby at_10) rfl ((if0 _ _).trans (feq hc1).1) k) ?_
    refine own_go (b := s₁.setTop (mkF m 14 #[.val (.int pr), .val (.int qr), .val (.int ((pr &&& (2147483647 : Int32)) % (3 : Int32))), .unset, .unset, .unset] [(.int (1 : Int32))])) (fun t k => XS.iconst X0.here hx rfl (hb hby at_13) k) ?_
    refine own_go (b := s₁.setTop (mkF m 18 #[.val (.int pr), .val (.int qr), .val (.int ((pr &&& (2147483647 : Int32)) % (3 : Int32))), .unset, .unset, .unset] [(.int (1 : Int32))])) (fun t k => XS.goto X0.here hx rfl (pc0 := 14) (pc' := 18) rfl (hb hby at_14) (by decide) (by decide) k) ?_
    refine own_go (b := s₁.setTop (mkF m 19 #[.val (.int pr), .val (.int qr), .val (.int ((pr &&& (2147483647 : Int32)) % (3 : Int32))), .val (.int (1 : Int32)), .unset, .unset] [])) (fun t k => XS.istoreN X0.here hx rfl (hb hby at_18) rfl (l' := #[.val (.int pr), .val (.int qr), .val (.int ((pr &&& (2147483647 : Int32)) % (3 : Int32))), .val (.int (1 : Int32)), .unset, .unset]) rfl k) ?_
    refine own_go (b := s₁.setTop (mkF m 20 #[.val (.int pr), .val (.int qr), .val (.int ((pr &&& (2147483647 : Int32)) % (3 : Int32))), .val (.int (1 : Int32)), .unset, .unset] [(.int ((pr &&& (2147483647 : Int32)) % (3 : Int32)))])) (fun t k => XS.iloadN X0.here hx rfl (hb hby at_19) rfl  k) ?_
    by_cases hc10 : ((pr &&& (2147483647 : Int32)) % (3 : Int32)) = (0 : Int32)
    · refine own_go (b := s₁.setTop (mkF m 23 #[.val (.int pr), .val (.int qr), .val (.int ((pr &&& (2147483647 : Int32)) % (3 : Int32))), .val (.int (1 : Int32)), .unset, .unset] [])) (fun t k => XS.ifNo X0.here hx rfl (hb hby at_20) rfl ((if0 _ _).trans (teq hc10).2) k) ?_
      obtain ⟨T11, X11, e11, st11⟩ := getS2 X0 hx hZ hown (host := "") (Or.inl (hw _ (List.mem_of_getElem? (i := 1) rfl))) Via.refl e0 Sd0 (g := (mkF m 23 #[.val (.int pr), .val (.int qr), .val (.int ((pr &&& (2147483647 : Int32)) % (3 : Int32))), .val (.int (1 : Int32)), .unset, .unset] [])) rfl (hb hby at_23)
      refine own_go (b := T11.setTop (mkF m 26 #[.val (.int pr), .val (.int qr), .val (.int ((pr &&& (2147483647 : Int32)) % (3 : Int32))), .val (.int (1 : Int32)), .unset, .unset] [(.ref (ad 0))])) st11 ?_
      refine own_go (b := T11.setTop (mkF m 28 #[.val (.int pr), .val (.int qr), .val (.int ((pr &&& (2147483647 : Int32)) % (3 : Int32))), .val (.int (1 : Int32)), .val (.ref (ad 0)), .unset] [])) (fun t k => XS.astore X11.here hx rfl (hb hby at_26) rfl rfl (l' := #[.val (.int pr), .val (.int qr), .val (.int ((pr &&& (2147483647 : Int32)) % (3 : Int32))), .val (.int (1 : Int32)), .val (.ref (ad 0)), .unset]) rfl k) ?_
      refine own_go (b := T11.setTop (mkF m 29 #[.val (.int pr), .val (.int qr), .val (.int ((pr &&& (2147483647 : Int32)) % (3 : Int32))), .val (.int (1 : Int32)), .val (.ref (ad 0)), .unset] [(.int (0 : Int32))])) (fun t k => XS.iconst X11.here hx rfl (hb hby at_28) k) ?_
      refine own_go (b := T11.setTop (mkF m 31 #[.val (.int pr), .val (.int qr), .val (.int ((pr &&& (2147483647 : Int32)) % (3 : Int32))), .val (.int (1 : Int32)), .val (.ref (ad 0)), .val (.int (0 : Int32))] [])) (fun t k => XS.istore X11.here hx rfl (hb hby at_29) rfl (l' := #[.val (.int pr), .val (.int qr), .val (.int ((pr &&& (2147483647 : Int32)) % (3 : Int32))), .val (.int (1 : Int32)), .val (.ref (ad 0)), .val (.int (0 : Int32))]) rfl k) ?_
      refine own_go (b := T11.setTop (mkF m 58 #[.val (.int pr), .val (.int qr), .val (.int ((pr &&& (2147483647 : Int32)) % (3 : Int32))), .val (.int (1 : Int32)), .val (.ref (ad 0)), .val (.int (0 : Int32))] [])) (fun t k => XS.goto X11.here hx rfl (pc0 := 31) (pc' := 58) rfl (hb hby at_31) (by decide) (by decide) k) ?_
      refine own_go (b := T11.setTop (mkF m 60 #[.val (.int pr), .val (.int qr), .val (.int ((pr &&& (2147483647 : Int32)) % (3 : Int32))), .val (.int (1 : Int32)), .val (.ref (ad 0)), .val (.int (0 : Int32))] [(.ref (ad 0))])) (fun t k => XS.aload X11.here hx rfl (hb hby at_58) rfl rfl k) ?_
      refine own_go (b := T11.setTop (mkF m 61 #[.val (.int pr), .val (.int qr), .val (.int ((pr &&& (2147483647 : Int32)) % (3 : Int32))), .val (.int (1 : Int32)), .val (.ref (ad 0)), .val (.int (0 : Int32))] [(.int (1 : Int32)), (.ref (ad 0))])) (fun t k => XS.iloadN X11.here hx rfl (hb hby at_60) rfl  k) ?_
      obtain ⟨cq12, kq12, q12a, q12b, q12c⟩ := isOf hZ e11 (Ed 0 (by decide))
      obtain ⟨_, _, ⟨T12, L12, k12, n12⟩, -, X12, ⟨Lc12, hQ12, l12, y12, z12⟩, st12⟩ := X11.virtualBack hx (y := (⟨"com/example/fault/fault/RetryRule", "allows", "(Z)Z"⟩ : MethodName)) (z := (⟨"com/example/fault/fault/RetryRule", "allows", "(Z)Z"⟩ : MethodName)) hown (mvT hZ (hw _ (List.mem_of_getElem? (i := 4) rfl))) (mvT hZ (hw _ (List.mem_of_getElem? (i := 5) rfl))) (notFace_of_selects (args := #[]) (mvT hZ (hw _ (List.mem_of_getElem? (i := 7) rfl)))) (mvT hZ (hw _ (List.mem_of_getElem? (i := 7) rfl))) (mvT hZ (hw _ (List.mem_of_getElem? (i := 6) rfl))) (by decide) (backOf (W := 0) (rm1 l Z a0 hw [] (ad 0) (1 : Int32) ad h0 n0 Z0 Sd0 Sd1 Sd2) hZ (hw _ (List.mem_of_getElem? (i := 8) rfl)) (hw _ (List.mem_of_getElem? (i := 2) rfl)) (by decide) (by decide)) q12a q12c (g := (mkF m 61 #[.val (.int pr), .val (.int qr), .val (.int ((pr &&& (2147483647 : Int32)) % (3 : Int32))), .val (.int (1 : Int32)), .val (.ref (ad 0)), .val (.int (0 : Int32))] [(.int (1 : Int32)), (.ref (ad 0))])) rfl (by rw [hml]; rfl) (Steps.refl _) (argsL := [(.int (1 : Int32))]) (rest := []) (lenOf pd_0 rfl) rfl (by show 2 * 0 + _ ≤ _; exact Nat.le_of_eq rfl) (hb hby at_61) (fun _ _ => ⟨rfl, e11, (by decide : 0 + 0 ≤ _), (by decide : 0 + 0 ≤ _)⟩)
      dsimp only [Pt.U, Pt.locs, Pt.cells, Pt.slots] at X12 l12 y12 z12 st12 hQ12
      subst l12 y12 z12
      obtain ⟨rfl, N12q, e12⟩ := hQ12
      have N12 := Fr.app N0 N12q
      refine own_tr (b := T12.setTop (mkF m 64 #[.val (.int pr), .val (.int qr), .val (.int ((pr &&& (2147483647 : Int32)) % (3 : Int32))), .val (.int (1 : Int32)), .val (.ref (ad 0)), .val (.int (0 : Int32))] [(.int (own_allow ad (ad 0) (1 : Int32)))])) st12 ?_
      refine own_go (b := T12.setTop (mkF m 66 #[.val (.int pr), .val (.int qr), .val (.int ((pr &&& (2147483647 : Int32)) % (3 : Int32))), .val (.int (1 : Int32)), .val (.ref (ad 0)), .val (.int (0 : Int32))] [(.int (0 : Int32)), (.int (own_allow ad (ad 0) (1 : Int32)))])) (fun t k => XS.iload X12.here hx rfl (hb hby at_64) rfl  k) ?_
      have hq66 : (own_allow ad (ad 0) (1 : Int32)) = (0 : Int32) := by simp [own_allow, hinj]
      refine own_go (b := T12.setTop (mkF m 69 #[.val (.int pr), .val (.int qr), .val (.int ((pr &&& (2147483647 : Int32)) % (3 : Int32))), .val (.int (1 : Int32)), .val (.ref (ad 0)), .val (.int (0 : Int32))] [])) (fun t k => XS.icmpNo X12.here hx rfl (hb hby at_66) rfl (teq hq66).2 k) ?_
      refine own_go (b := T12.setTop (mkF m 70 #[.val (.int pr), .val (.int qr), .val (.int ((pr &&& (2147483647 : Int32)) % (3 : Int32))), .val (.int (1 : Int32)), .val (.ref (ad 0)), .val (.int (0 : Int32))] [(.int (1 : Int32))])) (fun t k => XS.iconst X12.here hx rfl (hb hby at_69) k) ?_
      refine own_go (b := T12.setTop (mkF m 74 #[.val (.int pr), .val (.int qr), .val (.int ((pr &&& (2147483647 : Int32)) % (3 : Int32))), .val (.int (1 : Int32)), .val (.ref (ad 0)), .val (.int (0 : Int32))] [(.int (1 : Int32))])) (fun t k => XS.goto X12.here hx rfl (pc0 := 70) (pc' := 74) rfl (hb hby at_70) (by decide) (by decide) k) ?_
      exact own_retN X12 hx hlk (t := .boolean) hrt (by simp) (hb hby at_74) (Nat.le_of_ble_eq_true rfl) (Nat.le_of_ble_eq_true rfl) (⟨rfl, N12⟩)
    · refine own_go (b := s₁.setTop (mkF m 34 #[.val (.int pr), .val (.int qr), .val (.int ((pr &&& (2147483647 : Int32)) % (3 : Int32))), .val (.int (1 : Int32)), .unset, .unset] [])) (fun t k => XS.ifYes X0.here hx rfl (pc0 := 20) (pc' := 34) rfl (hb hby at_20) rfl ((if0 _ _).trans (feq hc10).2) (by decide) (by decide) k) ?_
      refine own_go (b := s₁.setTop (mkF m 35 #[.val (.int pr), .val (.int qr), .val (.int ((pr &&& (2147483647 : Int32)) % (3 : Int32))), .val (.int (1 : Int32)), .unset, .unset] [(.int ((pr &&& (2147483647 : Int32)) % (3 : Int32)))])) (fun t k => XS.iloadN X0.here hx rfl (hb hby at_34) rfl  k) ?_
      refine own_go (b := s₁.setTop (mkF m 36 #[.val (.int pr), .val (.int qr), .val (.int ((pr &&& (2147483647 : Int32)) % (3 : Int32))), .val (.int (1 : Int32)), .unset, .unset] [(.int (1 : Int32)), (.int ((pr &&& (2147483647 : Int32)) % (3 : Int32)))])) (fun t k => XS.iconst X0.here hx rfl (hb hby at_35) k) ?_
      by_cases hc13 : ((pr &&& (2147483647 : Int32)) % (3 : Int32)) = (1 : Int32)
      · refine own_go (b := s₁.setTop (mkF m 39 #[.val (.int pr), .val (.int qr), .val (.int ((pr &&& (2147483647 : Int32)) % (3 : Int32))), .val (.int (1 : Int32)), .unset, .unset] [])) (fun t k => XS.icmpNo X0.here hx rfl (hb hby at_36) rfl (teq hc13).2 k) ?_
        obtain ⟨T14, X14, e14, st14⟩ := getS2 X0 hx hZ hown (host := "") (Or.inl (hw _ (List.mem_of_getElem? (i := 14) rfl))) Via.refl e0 Sd1 (g := (mkF m 39 #[.val (.int pr), .val (.int qr), .val (.int ((pr &&& (2147483647 : Int32)) % (3 : Int32))), .val (.int (1 : Int32)), .unset, .unset] [])) rfl (hb hby at_39)
        refine own_go (b := T14.setTop (mkF m 42 #[.val (.int pr), .val (.int qr), .val (.int ((pr &&& (2147483647 : Int32)) % (3 : Int32))), .val (.int (1 : Int32)), .unset, .unset] [(.ref (ad 1))])) st14 ?_
        refine own_go (b := T14.setTop (mkF m 44 #[.val (.int pr), .val (.int qr), .val (.int ((pr &&& (2147483647 : Int32)) % (3 : Int32))), .val (.int (1 : Int32)), .val (.ref (ad 1)), .unset] [])) (fun t k => XS.astore X14.here hx rfl (hb hby at_42) rfl rfl (l' := #[.val (.int pr), .val (.int qr), .val (.int ((pr &&& (2147483647 : Int32)) % (3 : Int32))), .val (.int (1 : Int32)), .val (.ref (ad 1)), .unset]) rfl k) ?_
        refine own_go (b := T14.setTop (mkF m 45 #[.val (.int pr), .val (.int qr), .val (.int ((pr &&& (2147483647 : Int32)) % (3 : Int32))), .val (.int (1 : Int32)), .val (.ref (ad 1)), .unset] [(.int (1 : Int32))])) (fun t k => XS.iconst X14.here hx rfl (hb hby at_44) k) ?_
        refine own_go (b := T14.setTop (mkF m 47 #[.val (.int pr), .val (.int qr), .val (.int ((pr &&& (2147483647 : Int32)) % (3 : Int32))), .val (.int (1 : Int32)), .val (.ref (ad 1)), .val (.int (1 : Int32))] [])) (fun t k => XS.istore X14.here hx rfl (hb hby at_45) rfl (l' := #[.val (.int pr), .val (.int qr), .val (.int ((pr &&& (2147483647 : Int32)) % (3 : Int32))), .val (.int (1 : Int32)), .val (.ref (ad 1)), .val (.int (1 : Int32))]) rfl k) ?_
        refine own_go (b := T14.setTop (mkF m 58 #[.val (.int pr), .val (.int qr), .val (.int ((pr &&& (2147483647 : Int32)) % (3 : Int32))), .val (.int (1 : Int32)), .val (.ref (ad 1)), .val (.int (1 : Int32))] [])) (fun t k => XS.goto X14.here hx rfl (pc0 := 47) (pc' := 58) rfl (hb hby at_47) (by decide) (by decide) k) ?_
        refine own_go (b := T14.setTop (mkF m 60 #[.val (.int pr), .val (.int qr), .val (.int ((pr &&& (2147483647 : Int32)) % (3 : Int32))), .val (.int (1 : Int32)), .val (.ref (ad 1)), .val (.int (1 : Int32))] [(.ref (ad 1))])) (fun t k => XS.aload X14.here hx rfl (hb hby at_58) rfl rfl k) ?_
        refine own_go (b := T14.setTop (mkF m 61 #[.val (.int pr), .val (.int qr), .val (.int ((pr &&& (2147483647 : Int32)) % (3 : Int32))), .val (.int (1 : Int32)), .val (.ref (ad 1)), .val (.int (1 : Int32))] [(.int (1 : Int32)), (.ref (ad 1))])) (fun t k => XS.iloadN X14.here hx rfl (hb hby at_60) rfl  k) ?_
        obtain ⟨cq15, kq15, q15a, q15b, q15c⟩ := isOf hZ e14 (Ed 1 (by decide))
        obtain ⟨_, _, ⟨T15, L15, k15, n15⟩, -, X15, ⟨Lc15, hQ15, l15, y15, z15⟩, st15⟩ := X14.virtualBack hx (y := (⟨"com/example/fault/fault/RetryRule", "allows", "(Z)Z"⟩ : MethodName)) (z := (⟨"com/example/fault/fault/RetryRule", "allows", "(Z)Z"⟩ : MethodName)) hown (mvT hZ (hw _ (List.mem_of_getElem? (i := 4) rfl))) (mvT hZ (hw _ (List.mem_of_getElem? (i := 5) rfl))) (notFace_of_selects (args := #[]) (mvT hZ (hw _ (List.mem_of_getElem? (i := 7) rfl)))) (mvT hZ (hw _ (List.mem_of_getElem? (i := 7) rfl))) (mvT hZ (hw _ (List.mem_of_getElem? (i := 6) rfl))) (by decide) (backOf (W := 0) (rm1 l Z a0 hw [] (ad 1) (1 : Int32) ad h0 n0 Z0 Sd0 Sd1 Sd2) hZ (hw _ (List.mem_of_getElem? (i := 8) rfl)) (hw _ (List.mem_of_getElem? (i := 2) rfl)) (by decide) (by decide)) q15a q15c (g := (mkF m 61 #[.val (.int pr), .val (.int qr), .val (.int ((pr &&& (2147483647 : Int32)) % (3 : Int32))), .val (.int (1 : Int32)), .val (.ref (ad 1)), .val (.int (1 : Int32))] [(.int (1 : Int32)), (.ref (ad 1))])) rfl (by rw [hml]; rfl) (Steps.refl _) (argsL := [(.int (1 : Int32))]) (rest := []) (lenOf pd_0 rfl) rfl (by show 2 * 0 + _ ≤ _; exact Nat.le_of_eq rfl) (hb hby at_61) (fun _ _ => ⟨rfl, e14, (by decide : 0 + 0 ≤ _), (by decide : 0 + 0 ≤ _)⟩)
        dsimp only [Pt.U, Pt.locs, Pt.cells, Pt.slots] at X15 l15 y15 z15 st15 hQ15
        subst l15 y15 z15
        obtain ⟨rfl, N15q, e15⟩ := hQ15
        have N15 := Fr.app N0 N15q
        refine own_tr (b := T15.setTop (mkF m 64 #[.val (.int pr), .val (.int qr), .val (.int ((pr &&& (2147483647 : Int32)) % (3 : Int32))), .val (.int (1 : Int32)), .val (.ref (ad 1)), .val (.int (1 : Int32))] [(.int (own_allow ad (ad 1) (1 : Int32)))])) st15 ?_
        refine own_go (b := T15.setTop (mkF m 66 #[.val (.int pr), .val (.int qr), .val (.int ((pr &&& (2147483647 : Int32)) % (3 : Int32))), .val (.int (1 : Int32)), .val (.ref (ad 1)), .val (.int (1 : Int32))] [(.int (1 : Int32)), (.int (own_allow ad (ad 1) (1 : Int32)))])) (fun t k => XS.iload X15.here hx rfl (hb hby at_64) rfl  k) ?_
        have hq66 : (own_allow ad (ad 1) (1 : Int32)) = (1 : Int32) := by simp [own_allow, hinj]
        refine own_go (b := T15.setTop (mkF m 69 #[.val (.int pr), .val (.int qr), .val (.int ((pr &&& (2147483647 : Int32)) % (3 : Int32))), .val (.int (1 : Int32)), .val (.ref (ad 1)), .val (.int (1 : Int32))] [])) (fun t k => XS.icmpNo X15.here hx rfl (hb hby at_66) rfl (teq hq66).2 k) ?_
        refine own_go (b := T15.setTop (mkF m 70 #[.val (.int pr), .val (.int qr), .val (.int ((pr &&& (2147483647 : Int32)) % (3 : Int32))), .val (.int (1 : Int32)), .val (.ref (ad 1)), .val (.int (1 : Int32))] [(.int (1 : Int32))])) (fun t k => XS.iconst X15.here hx rfl (hb hby at_69) k) ?_
        refine own_go (b := T15.setTop (mkF m 74 #[.val (.int pr), .val (.int qr), .val (.int ((pr &&& (2147483647 : Int32)) % (3 : Int32))), .val (.int (1 : Int32)), .val (.ref (ad 1)), .val (.int (1 : Int32))] [(.int (1 : Int32))])) (fun t k => XS.goto X15.here hx rfl (pc0 := 70) (pc' := 74) rfl (hb hby at_70) (by decide) (by decide) k) ?_
        exact own_retN X15 hx hlk (t := .boolean) hrt (by simp) (hb hby at_74) (Nat.le_of_ble_eq_true rfl) (Nat.le_of_ble_eq_true rfl) (⟨rfl, N15⟩)
      · refine own_go (b := s₁.setTop (mkF m 50 #[.val (.int pr), .val (.int qr), .val (.int ((pr &&& (2147483647 : Int32)) % (3 : Int32))), .val (.int (1 : Int32)), .unset, .unset] [])) (fun t k => XS.icmpYes X0.here hx rfl (pc0 := 36) (pc' := 50) rfl (hb hby at_36) rfl (feq hc13).2 (by decide) (by decide) k) ?_
        obtain ⟨T16, X16, e16, st16⟩ := getS2 X0 hx hZ hown (host := "") (Or.inl (hw _ (List.mem_of_getElem? (i := 13) rfl))) Via.refl e0 Sd2 (g := (mkF m 50 #[.val (.int pr), .val (.int qr), .val (.int ((pr &&& (2147483647 : Int32)) % (3 : Int32))), .val (.int (1 : Int32)), .unset, .unset] [])) rfl (hb hby at_50)
        refine own_go (b := T16.setTop (mkF m 53 #[.val (.int pr), .val (.int qr), .val (.int ((pr &&& (2147483647 : Int32)) % (3 : Int32))), .val (.int (1 : Int32)), .unset, .unset] [(.ref (ad 2))])) st16 ?_
        refine own_go (b := T16.setTop (mkF m 55 #[.val (.int pr), .val (.int qr), .val (.int ((pr &&& (2147483647 : Int32)) % (3 : Int32))), .val (.int (1 : Int32)), .val (.ref (ad 2)), .unset] [])) (fun t k => XS.astore X16.here hx rfl (hb hby at_53) rfl rfl (l' := #[.val (.int pr), .val (.int qr), .val (.int ((pr &&& (2147483647 : Int32)) % (3 : Int32))), .val (.int (1 : Int32)), .val (.ref (ad 2)), .unset]) rfl k) ?_
        refine own_go (b := T16.setTop (mkF m 56 #[.val (.int pr), .val (.int qr), .val (.int ((pr &&& (2147483647 : Int32)) % (3 : Int32))), .val (.int (1 : Int32)), .val (.ref (ad 2)), .unset] [(.int (1 : Int32))])) (fun t k => XS.iloadN X16.here hx rfl (hb hby at_55) rfl  k) ?_
        refine own_go (b := T16.setTop (mkF m 58 #[.val (.int pr), .val (.int qr), .val (.int ((pr &&& (2147483647 : Int32)) % (3 : Int32))), .val (.int (1 : Int32)), .val (.ref (ad 2)), .val (.int (1 : Int32))] [])) (fun t k => XS.istore X16.here hx rfl (hb hby at_56) rfl (l' := #[.val (.int pr), .val (.int qr), .val (.int ((pr &&& (2147483647 : Int32)) % (3 : Int32))), .val (.int (1 : Int32)), .val (.ref (ad 2)), .val (.int (1 : Int32))]) rfl k) ?_
        refine own_go (b := T16.setTop (mkF m 60 #[.val (.int pr), .val (.int qr), .val (.int ((pr &&& (2147483647 : Int32)) % (3 : Int32))), .val (.int (1 : Int32)), .val (.ref (ad 2)), .val (.int (1 : Int32))] [(.ref (ad 2))])) (fun t k => XS.aload X16.here hx rfl (hb hby at_58) rfl rfl k) ?_
        refine own_go (b := T16.setTop (mkF m 61 #[.val (.int pr), .val (.int qr), .val (.int ((pr &&& (2147483647 : Int32)) % (3 : Int32))), .val (.int (1 : Int32)), .val (.ref (ad 2)), .val (.int (1 : Int32))] [(.int (1 : Int32)), (.ref (ad 2))])) (fun t k => XS.iloadN X16.here hx rfl (hb hby at_60) rfl  k) ?_
        obtain ⟨cq17, kq17, q17a, q17b, q17c⟩ := isOf hZ e16 (Ed 2 (by decide))
        obtain ⟨_, _, ⟨T17, L17, k17, n17⟩, -, X17, ⟨Lc17, hQ17, l17, y17, z17⟩, st17⟩ := X16.virtualBack hx (y := (⟨"com/example/fault/fault/RetryRule", "allows", "(Z)Z"⟩ : MethodName)) (z := (⟨"com/example/fault/fault/RetryRule", "allows", "(Z)Z"⟩ : MethodName)) hown (mvT hZ (hw _ (List.mem_of_getElem? (i := 4) rfl))) (mvT hZ (hw _ (List.mem_of_getElem? (i := 5) rfl))) (notFace_of_selects (args := #[]) (mvT hZ (hw _ (List.mem_of_getElem? (i := 7) rfl)))) (mvT hZ (hw _ (List.mem_of_getElem? (i := 7) rfl))) (mvT hZ (hw _ (List.mem_of_getElem? (i := 6) rfl))) (by decide) (backOf (W := 0) (rm1 l Z a0 hw [] (ad 2) (1 : Int32) ad h0 n0 Z0 Sd0 Sd1 Sd2) hZ (hw _ (List.mem_of_getElem? (i := 8) rfl)) (hw _ (List.mem_of_getElem? (i := 2) rfl)) (by decide) (by decide)) q17a q17c (g := (mkF m 61 #[.val (.int pr), .val (.int qr), .val (.int ((pr &&& (2147483647 : Int32)) % (3 : Int32))), .val (.int (1 : Int32)), .val (.ref (ad 2)), .val (.int (1 : Int32))] [(.int (1 : Int32)), (.ref (ad 2))])) rfl (by rw [hml]; rfl) (Steps.refl _) (argsL := [(.int (1 : Int32))]) (rest := []) (lenOf pd_0 rfl) rfl (by show 2 * 0 + _ ≤ _; exact Nat.le_of_eq rfl) (hb hby at_61) (fun _ _ => ⟨rfl, e16, (by decide : 0 + 0 ≤ _), (by decide : 0 + 0 ≤ _)⟩)
        dsimp only [Pt.U, Pt.locs, Pt.cells, Pt.slots] at X17 l17 y17 z17 st17 hQ17
        subst l17 y17 z17
        obtain ⟨rfl, N17q, e17⟩ := hQ17
        have N17 := Fr.app N0 N17q
        refine own_tr (b := T17.setTop (mkF m 64 #[.val (.int pr), .val (.int qr), .val (.int ((pr &&& (2147483647 : Int32)) % (3 : Int32))), .val (.int (1 : Int32)), .val (.ref (ad 2)), .val (.int (1 : Int32))] [(.int (own_allow ad (ad 2) (1 : Int32)))])) st17 ?_
        refine own_go (b := T17.setTop (mkF m 66 #[.val (.int pr), .val (.int qr), .val (.int ((pr &&& (2147483647 : Int32)) % (3 : Int32))), .val (.int (1 : Int32)), .val (.ref (ad 2)), .val (.int (1 : Int32))] [(.int (1 : Int32)), (.int (own_allow ad (ad 2) (1 : Int32)))])) (fun t k => XS.iload X17.here hx rfl (hb hby at_64) rfl  k) ?_
        have hq66 : (own_allow ad (ad 2) (1 : Int32)) = (1 : Int32) := by simp [own_allow, hinj]
        refine own_go (b := T17.setTop (mkF m 69 #[.val (.int pr), .val (.int qr), .val (.int ((pr &&& (2147483647 : Int32)) % (3 : Int32))), .val (.int (1 : Int32)), .val (.ref (ad 2)), .val (.int (1 : Int32))] [])) (fun t k => XS.icmpNo X17.here hx rfl (hb hby at_66) rfl (teq hq66).2 k) ?_
        refine own_go (b := T17.setTop (mkF m 70 #[.val (.int pr), .val (.int qr), .val (.int ((pr &&& (2147483647 : Int32)) % (3 : Int32))), .val (.int (1 : Int32)), .val (.ref (ad 2)), .val (.int (1 : Int32))] [(.int (1 : Int32))])) (fun t k => XS.iconst X17.here hx rfl (hb hby at_69) k) ?_
        refine own_go (b := T17.setTop (mkF m 74 #[.val (.int pr), .val (.int qr), .val (.int ((pr &&& (2147483647 : Int32)) % (3 : Int32))), .val (.int (1 : Int32)), .val (.ref (ad 2)), .val (.int (1 : Int32))] [(.int (1 : Int32))])) (fun t k => XS.goto X17.here hx rfl (pc0 := 70) (pc' := 74) rfl (hb hby at_70) (by decide) (by decide) k) ?_
        exact own_retN X17 hx hlk (t := .boolean) hrt (by simp) (hb hby at_74) (Nat.le_of_ble_eq_true rfl) (Nat.le_of_ble_eq_true rfl) (⟨rfl, N17⟩)
set_option maxRecDepth 65536 in
set_option maxHeartbeats 40000000 in
theorem comes_1 {Post : Tables → Env → Array Value → State → Outcome → State → Prop} (hpost : ∀ tb e args s v u, (limb_1_1.after args s (.returned v) u = true ∧ limb_1_2.after args s (.returned v) u = true ∧ True) → FrameEnd s (.returned v) u (Jvm.fieldLocs frame_1_writes args s ++ Jvm.arrayLocs frame_1_arrays args s ++ Jvm.staticLocs frame_1_statics s) 0 0 → Post tb e args s (.returned v) u) :
    ArmFor flags0 classFile x code maxLocals ret World_1 tables_1 room_1 Calls_1 rest_1 Pre_1 Post := by
  intro l hfl _ _ p e ha hc hk s m args below hf hA hF happ hP
  obtain ⟨hcalls, hrest, hpre⟩ := hP
  obtain ⟨-, -, -, hnamed, -, -, -, hat⟩ := (Spec.applies_iff hf).mp happ
  obtain ⟨hg, hn⟩ := and_e (Cond.before_iff.mp (show (Jvm.Cond.and given_1 narrow_1).before args s = true from hpre))
  obtain ⟨g1, g2⟩ := and_e hg
  obtain ⟨g3, g4⟩ := and_e g2
  obtain ⟨g5, g6⟩ := and_e hn
  obtain ⟨g7, g8⟩ := and_e g6
  obtain ⟨g9, g10⟩ := and_e g8
  obtain ⟨g11, g12⟩ := and_e g10
  obtain ⟨g13, g14⟩ := and_e g12
  obtain ⟨w0, w1, rfl⟩ : ∃ w0 w1 : Value, args = #[w0, w1] := by
    have hs : args.size = 2 := by simpa [Cond.value, given_1] using g1
    obtain ⟨L⟩ := args
    match L, hs with
    | [w0, w1], _ => exact ⟨w0, w1, rfl⟩
  have hw := fun d (hd : d ∈ tables_1) => atoms_spec (ws := Jvm.Cond.code x code maxLocals ret :: tables_1) hat d (List.mem_cons_of_mem _ hd)
  have hfit : Fit s := fun {y c} hc i hi => by
    obtain ⟨ha, rfl⟩ := Array.getElem?_eq_some_iff.mp hc
    have q := List.all_eq_true.mp ((Array.all_eq_true_iff_forall_mem.mp hF) _ (Array.getElem_mem ha)) i (List.mem_range.mpr hi)
    simpa [Array.getElem?_eq_getElem hi] using q
  obtain ⟨i0, ei0⟩ := is_v g3
  obtain rfl : w0 = (.int i0) := Option.some.inj ei0
  obtain ⟨i1, ei1⟩ := is_v g4
  obtain rfl : w1 = (.int i1) := Option.some.inj ei1
  obtain ⟨a_NEVER, ev_NEVER⟩ := exa_v g5
  have S_NEVER := Sta.start ev_NEVER (Or.inr ⟨(hw _ (List.mem_of_getElem? (i := 2) rfl)), (hw _ (List.mem_of_getElem? (i := 3) rfl))⟩)
  have E_NEVER := Exa.start ev_NEVER g5
  obtain ⟨a_ALWAYS, ev_ALWAYS⟩ := exa_v g7
  have S_ALWAYS := Sta.start ev_ALWAYS (Or.inr ⟨(hw _ (List.mem_of_getElem? (i := 2) rfl)), (hw _ (List.mem_of_getElem? (i := 10) rfl))⟩)
  have E_ALWAYS := Exa.start ev_ALWAYS g7
  obtain ⟨a_WITH_RETRY_AFTER, ev_WITH_RETRY_AFTER⟩ := exa_v g13
  have S_WITH_RETRY_AFTER := Sta.start ev_WITH_RETRY_AFTER (Or.inr ⟨(hw _ (List.mem_of_getElem? (i := 2) rfl)), (hw _ (List.mem_of_getElem? (i := 12) rfl))⟩)
  have E_WITH_RETRY_AFTER := Exa.start ev_WITH_RETRY_AFTER g13
  have O_NEVER_ordinal := own_fld ev_NEVER g9
  have O_ALWAYS_ordinal := own_fld ev_ALWAYS g11
  have O_WITH_RETRY_AFTER_ordinal := own_fld ev_WITH_RETRY_AFTER g14
  obtain ⟨ad, had⟩ : ∃ ad : Nat → Addr, ad = fun k => [a_NEVER, a_ALWAYS, a_WITH_RETRY_AFTER].getD k 0 := ⟨_, rfl⟩
  have had0 : ad 0 = a_NEVER := by rw [had]; rfl
  have had1 : ad 1 = a_ALWAYS := by rw [had]; rfl
  have had2 : ad 2 = a_WITH_RETRY_AFTER := by rw [had]; rfl
  rw [← had0] at S_NEVER E_NEVER
  rw [← had1] at S_ALWAYS E_ALWAYS
  rw [← had2] at S_WITH_RETRY_AFTER E_WITH_RETRY_AFTER
  rw [← had0] at O_NEVER_ordinal
  rw [← had1] at O_ALWAYS_ordinal
  rw [← had2] at O_WITH_RETRY_AFTER_ordinal
  have hF0 : ∀ i, i < 3 → Fld s s.heap (ad i) "java/lang/Enum" "ordinal" "I" (.int i.toInt32) := by
    intro j hj
    match j, hj with
    | 0, _ => exact O_NEVER_ordinal
    | 1, _ => exact O_ALWAYS_ordinal
    | 2, _ => exact O_WITH_RETRY_AFTER_ordinal
    | j + 3, h => omega
  have hinj := own_enum (n := 3) (by decide) hF0
  have hE : ∀ j, j < 3 → Exa s s.heap (ad j) "com/example/fault/fault/RetryRule" := by
    intro j hj
    match j, hj with
    | 0, _ => exact E_NEVER
    | 1, _ => exact E_ALWAYS
    | 2, _ => exact E_WITH_RETRY_AFTER
    | j + 3, h => omega
  obtain ⟨n, o, h1, h2, h3, _, L, rfl, ⟨rfl, N⟩, hq⟩ := rm0 l s _ hw tables_1 i0 i1 ad s.heap s.heap.size (Nat.le_refl _) S_NEVER S_ALWAYS S_WITH_RETRY_AFTER hE hinj p e ha hc hk s m _ below hf ((Spec.applies_iff_loose hf).mp happ).1 ⟨rfl, State.Warmed39.refl s, rfl⟩ trivial
  refine ⟨n, _, h1, h2, h3, hpost _ _ _ _ _ _ ⟨Cond.after_iff.mpr rfl, Cond.after_iff.mpr (eq_i res_at (Term.int_eval (1)) rfl), trivial⟩ ⟨hq.1, hq.2.1, (hq.2.2.sift fun y hy => Or.inr (N y hy)).mono (by decide) (by decide)⟩⟩
theorem main_1_1 : Claimed_1_1 := comes_1 fun _ _ _ _ _ _ h hF => ⟨h.1, hF⟩
theorem main_1_2 : Claimed_1_2 := comes_1 fun _ _ _ _ _ _ h hF => ⟨h.2.1, hF⟩
end Jvm.Pilot.@@N@@
namespace Jvm.Pilot.@@N@@
open Jvm Jvm.ClassFile Sem Op Lib Jvm.Free Jvm.Stand Jvm.Pilot.@@N@@.Jvm.D
/-! MADE BY PROGRAM (witnessworld.py) out of the Statement's table words and the real class files: 12 classes; the members and pool entries that the words name. The judged class is class 1, her method 1. -/
namespace start1
open Jvm.ClassFile
def u (s : String) : CpInfo := .utf8 (stringToUtf16 s)
/-- a pool by its gaps: so many unusable entries, then the entry; so many at the end -/
def gap : Nat → List CpInfo → List CpInfo
  | 0, r => r
  | n + 1, r => .unusable :: gap n r
def poolList (es : List (Nat × CpInfo)) (last : Nat) : List CpInfo := es.foldr (fun e r => gap e.1 (e.2 :: r)) (gap last [])
def pool (es : List (Nat × CpInfo)) (last : Nat) : Array CpInfo := ⟨poolList es last⟩
def fileOf (pool : Array CpInfo) (this : Nat) (attrs : Array Attribute := #[]) (ms : Array MethodInfo := #[]) (fl : Nat := 33) (sup : Nat := 0) (ifs : Array Nat := #[]) (fds : Array FieldInfo := #[]) : ClassFile where
  minorVersion := 0
  majorVersion := 65
  constantPool := pool
  accessFlags := fl
  thisClass := this
  superClass := sup
  interfaces := ifs
  fields := fds
  methods := ms
  attributes := attrs
def plain (name : String) (sup : Option ClassId) : Class where
  name := name
  kind := .ordinary
  loader := none
  accessFlags := 33
  super := sup
  interfaces := #[]
  cf := none
  fields := #[]
  methods := #[]
  instanceTypes := #[]
  staticTypes := #[]
  resolved := #[]
  callSites := []
  init := .initialized
  statics := none
  mirror := none

def pool0 : Array CpInfo := pool [(5, u "<init>"), (0, u "()V"), (1, .class_ 10), (1, u "java/lang/Object")] 113

def k0m0 : Method := { name := "<init>", desc := "()V", sig := { parameters := [], returnType := none }, accessFlags := 1, code := none }
/-- java/lang/Object -/
def k0 : Class := { plain "java/lang/Object" none with
  accessFlags := 33
  interfaces := #[]
  cf := some (fileOf pool0 8 #[] #[{ accessFlags := 1, nameIndex := 5, descriptorIndex := 6, attributes := #[] }] 33 0 #[] #[])
  fields := #[]
  methods := #[k0m0]
  instanceTypes := #[]
  staticTypes := #[]
  resolved := Array.replicate 124 none
  statics := none }

def pool1 : Array CpInfo := pool [(2, .class_ 4), (1, u "java/lang/Object"), (0, u "<init>"), (0, u "()V"), (0, .integer 2147483647), (0, .fieldref 9 10), (0, .class_ 11), (0, .nameAndType 12 13), (0, u "com/example/fault/fault/RetryRule"), (0, u "NEVER"), (0, u "Lcom/example/fault/fault/RetryRule;"), (0, .fieldref 9 15), (0, .nameAndType 16 13), (0, u "ALWAYS"), (0, .fieldref 9 18), (0, .nameAndType 19 13), (0, u "WITH_RETRY_AFTER"), (0, .methodref 9 21), (0, .nameAndType 22 23), (0, u "allows"), (0, u "(Z)Z"), (0, .class_ 25), (0, u "com/example/fault/fault/RetryRuleAllowsPinLaw"), (2, u "law"), (0, u "(II)Z")] 3

def k1m0 : Method := { name := "<init>", desc := "()V", sig := { parameters := [], returnType := none }, accessFlags := 2, code := none }
def k1c1 : Code := { maxStack := 2, maxLocals := 6, code := code, exceptionTable := #[], attributes := #[] }
def k1m1 : Method := { name := "law", desc := "(II)Z", sig := { parameters := [.int, .int], returnType := some .boolean }, accessFlags := 9, code := some k1c1 }
/-- com/example/fault/fault/RetryRuleAllowsPinLaw -/
def k1 : Class := { plain "com/example/fault/fault/RetryRuleAllowsPinLaw" (some 0) with
  accessFlags := 49
  interfaces := #[]
  cf := some (fileOf pool1 24 #[] #[{ accessFlags := 2, nameIndex := 5, descriptorIndex := 6, attributes := #[] }, { accessFlags := 9, nameIndex := 28, descriptorIndex := 29, attributes := #[] }] 49 2 #[] #[])
  fields := #[]
  methods := #[k1m0, k1m1]
  instanceTypes := #[]
  staticTypes := #[]
  resolved := Array.replicate 33 none
  statics := none }

def pool2 : Array CpInfo := pool [(1, .class_ 2), (0, u "java/lang/constant/Constable"), (0, .class_ 4), (0, u "java/lang/Object")] 6

/-- java/lang/constant/Constable -/
def k2 : Class := { plain "java/lang/constant/Constable" (some 0) with
  accessFlags := 1537
  interfaces := #[]
  cf := some (fileOf pool2 1 #[] #[] 1537 3 #[] #[])
  fields := #[]
  methods := #[]
  instanceTypes := #[]
  staticTypes := #[]
  resolved := Array.replicate 11 none
  statics := none }

def pool3 : Array CpInfo := pool [(1, .class_ 2), (0, u "java/lang/Comparable"), (0, .class_ 4), (0, u "java/lang/Object")] 7

/-- java/lang/Comparable -/
def k3 : Class := { plain "java/lang/Comparable" (some 0) with
  accessFlags := 1537
  interfaces := #[]
  cf := some (fileOf pool3 1 #[] #[] 1537 3 #[] #[])
  fields := #[]
  methods := #[]
  instanceTypes := #[]
  staticTypes := #[]
  resolved := Array.replicate 12 none
  statics := none }

def pool4 : Array CpInfo := pool [(1, .class_ 2), (0, u "java/io/Serializable"), (0, .class_ 4), (0, u "java/lang/Object")] 2

/-- java/io/Serializable -/
def k4 : Class := { plain "java/io/Serializable" (some 0) with
  accessFlags := 1537
  interfaces := #[]
  cf := some (fileOf pool4 1 #[] #[] 1537 3 #[] #[])
  fields := #[]
  methods := #[]
  instanceTypes := #[]
  staticTypes := #[]
  resolved := Array.replicate 7 none
  statics := none }

def pool5 : Array CpInfo := pool [(2, .class_ 4), (1, u "java/lang/Enum"), (0, u "name"), (0, u "Ljava/lang/String;"), (2, u "ordinal"), (0, u "I"), (1, .class_ 14), (1, u "java/lang/Object"), (4, u "hash"), (86, .class_ 108), (1, u "java/lang/Enum$EnumDesc"), (2, .class_ 112), (0, u "java/lang/constant/Constable"), (0, .class_ 114), (0, u "java/lang/Comparable"), (0, .class_ 116), (0, u "java/io/Serializable")] 87

/-- java/lang/Enum -/
def k5 : Class := { plain "java/lang/Enum" (some 0) with
  accessFlags := 1057
  interfaces := #[2, 3, 4]
  cf := some (fileOf pool5 2 #[.nestMembers #[106]] #[] 1057 12 #[111, 113, 115] #[{ accessFlags := 18, nameIndex := 5, descriptorIndex := 6, attributes := #[] }, { accessFlags := 18, nameIndex := 9, descriptorIndex := 10, attributes := #[] }, { accessFlags := 2, nameIndex := 19, descriptorIndex := 10, attributes := #[] }])
  fields := #[{ name := "name", type := (.object "java/lang/String"), accessFlags := 18, slot := 0, constantValue := 0 }, { name := "ordinal", type := .int, accessFlags := 18, slot := 1, constantValue := 0 }, { name := "hash", type := .int, accessFlags := 2, slot := 2, constantValue := 0 }]
  methods := #[]
  instanceTypes := #[(.object "java/lang/String"), .int, .int]
  staticTypes := #[]
  resolved := Array.replicate 204 none
  statics := none }

def pool6 : Array CpInfo := pool [(1, .class_ 2), (0, u "com/example/fault/fault/RetryRule"), (2, u "NEVER"), (0, u "Lcom/example/fault/fault/RetryRule;"), (0, .fieldref 1 8), (0, .nameAndType 9 6), (0, u "ALWAYS"), (0, .fieldref 1 11), (0, .nameAndType 12 6), (0, u "WITH_RETRY_AFTER"), (2, u "$VALUES"), (0, u "[Lcom/example/fault/fault/RetryRule;"), (6, .class_ 25), (1, u "java/lang/Enum"), (8, u "NEVER_RETRIED"), (0, u "Ljava/util/Set;"), (13, u "ALWAYS_RETRIED"), (25, u "allows"), (0, u "(Z)Z")] 4

def k6c0 : Code := { maxStack := 2, maxLocals := 2, code := prog_12_method_5_code, exceptionTable := #[], attributes := #[] }
def k6m0 : Method := { name := "allows", desc := "(Z)Z", sig := { parameters := [.boolean], returnType := some .boolean }, accessFlags := 1, code := some k6c0 }
/-- com/example/fault/fault/RetryRule -/
def k6 : Class := { plain "com/example/fault/fault/RetryRule" (some 5) with
  accessFlags := 16433
  interfaces := #[]
  cf := some (fileOf pool6 1 #[] #[{ accessFlags := 1, nameIndex := 75, descriptorIndex := 76, attributes := #[] }] 16433 23 #[] #[{ accessFlags := 16409, nameIndex := 5, descriptorIndex := 6, attributes := #[] }, { accessFlags := 16409, nameIndex := 9, descriptorIndex := 6, attributes := #[] }, { accessFlags := 16409, nameIndex := 12, descriptorIndex := 6, attributes := #[] }, { accessFlags := 26, nameIndex := 34, descriptorIndex := 35, attributes := #[] }, { accessFlags := 26, nameIndex := 49, descriptorIndex := 35, attributes := #[] }, { accessFlags := 4122, nameIndex := 15, descriptorIndex := 16, attributes := #[] }])
  fields := #[{ name := "NEVER", type := (.object "com/example/fault/fault/RetryRule"), accessFlags := 16409, slot := 0, constantValue := 0 }, { name := "ALWAYS", type := (.object "com/example/fault/fault/RetryRule"), accessFlags := 16409, slot := 1, constantValue := 0 }, { name := "WITH_RETRY_AFTER", type := (.object "com/example/fault/fault/RetryRule"), accessFlags := 16409, slot := 2, constantValue := 0 }, { name := "NEVER_RETRIED", type := (.object "java/util/Set"), accessFlags := 26, slot := 3, constantValue := 0 }, { name := "ALWAYS_RETRIED", type := (.object "java/util/Set"), accessFlags := 26, slot := 4, constantValue := 0 }, { name := "$VALUES", type := (.array (.object "com/example/fault/fault/RetryRule")), accessFlags := 4122, slot := 5, constantValue := 0 }]
  methods := #[k6m0]
  instanceTypes := #[(.object "java/lang/String"), .int, .int]
  staticTypes := #[(.object "com/example/fault/fault/RetryRule"), (.object "com/example/fault/fault/RetryRule"), (.object "com/example/fault/fault/RetryRule"), (.object "java/util/Set"), (.object "java/util/Set"), (.array (.object "com/example/fault/fault/RetryRule"))]
  resolved := Array.replicate 81 none
  statics := some 0 }

def pool7 : Array CpInfo := pool [(1, u "java/lang/Cloneable"), (0, .class_ 1), (0, u "java/lang/Object"), (0, .class_ 3)] 3

/-- java/lang/Cloneable -/
def k7 : Class := { plain "java/lang/Cloneable" (some 0) with
  accessFlags := 1537
  interfaces := #[]
  cf := some (fileOf pool7 2 #[] #[] 1537 4 #[] #[])
  fields := #[]
  methods := #[]
  instanceTypes := #[]
  staticTypes := #[]
  resolved := Array.replicate 8 none
  statics := none }

/-- the primitive byte -/
def k8 : Class := { plain "byte" none with kind := .primitive 'B', accessFlags := 0x411 }
/-- [B -/
def k9 : Class := { plain "[B" (some 0) with kind := .array 8 .byte, interfaces := #[7, 4], accessFlags := 1041 }

/-- the primitive int -/
def k10 : Class := { plain "int" none with kind := .primitive 'I', accessFlags := 0x411 }
/-- [I -/
def k11 : Class := { plain "[I" (some 0) with kind := .array 10 .int, interfaces := #[7, 4], accessFlags := 1041 }

def heap : Heap := #[{ cls := 6, slots := #[.ref 1, .ref 2, .ref 3, .null, .null, .null], vm := .statics 6 },
  { cls := 6, slots := #[.null, .int 0, .int 0], vm := .none },
  { cls := 6, slots := #[.null, .int 1, .int 0], vm := .none },
  { cls := 6, slots := #[.null, .int 2, .int 0], vm := .none }]
def classes : Array Class := #[k0, k1, k2, k3, k4, k5, k6, k7, k8, k9, k10, k11]
def interned : List (Array UInt16 × Addr) := []
def slotsUsed : Nat := 15
def theMethod : MethodId := ⟨1, 1⟩
def args0 : Array Value := #[.int 5, .int 1]
def aboutOver (below : List Frame) : State where
  vm := { classes := classes, interned := interned.toArray }
  heap := heap
  slotsUsed := slotsUsed
  threads := #[{ frames := .invoking theMethod args0 :: below }]
def below0 : List Frame := [.native { method := ⟨0, 0⟩, args := #[] }]
def about1 : State := aboutOver below0
def p0 : Program := .bare "" "" ""
def e0 : Env := launch0.env 0 0 0
theorem w_frames : about1.frames = Frame.invoking theMethod args0 :: below0 := rfl
set_option maxRecDepth 65536 in
theorem w_args : argsFit about1.vm theMethod args0 = true := by decide +kernel
set_option maxRecDepth 65536 in
theorem w_heap : heapFits about1 = true := by decide +kernel
set_option maxRecDepth 65536 in
theorem w_runnable : about1.curStatus? = some .runnable := by decide +kernel
set_option maxRecDepth 65536 in
theorem w_alone : about1.alone = true := by decide +kernel
set_option maxRecDepth 65536 in
theorem w_named : about1.methodNamed? x = some theMethod := by decide +kernel
set_option maxRecDepth 65536 in
theorem w_hears : about1.hears theMethod below0 = true := by decide +kernel
set_option maxRecDepth 65536 in
theorem w_ripe : about1.ripe theMethod args0 below0 = true := by decide +kernel
theorem w_running : about1.status = .running := rfl
set_option maxRecDepth 65536 in
theorem w_room : about1.hasRoom e0.platform room_1 = true :=
  launch0.hasRoom_least _ room_1 (by decide +kernel) (by decide +kernel) (by decide +kernel) (by decide +kernel) (by decide +kernel) (by decide +kernel)
theorem allAtoms_all (ts : List Jvm.Cond) (a : Array Jvm.Value) (st : Jvm.State) : (allAtoms ts).before a st = ts.all (fun c => c.before a st) := by
  induction ts with
  | nil => rfl
  | cons c t ih =>
    show (Jvm.Cond.and c (allAtoms t)).before a st = _
    rw [Jvm.Cond.before_and, ih, List.all_cons]
def words1 : List Jvm.Cond := Jvm.Cond.code x code maxLocals ret :: tables_1
/-- a 'code' word, met by the world's own term for the bytes: nothing is compared byte by byte -/
theorem code_word {y : MethodName} {bytes : ByteArray} {mx : Nat} {rt : Option FieldType} {a : Array Value} {s : State} {m : MethodId} {meth : Method} {c : Code} (h1 : s.methodNamed? y = some m) (h2 : s.vm.method? m = some meth) (h3 : meth.code = some c) (h4 : c.code = bytes)
    (h5 : (c.maxLocals == mx && c.exceptionTable.isEmpty && decide (c.maxStack ≤ mostOperands) && decide (meth.sig.returnType = rt) && !meth.locks && decide (parseMethodDescriptor y.desc = some meth.sig)) = true) : (Jvm.Cond.code y bytes mx rt).before a s = true := by
  simp only [Bool.and_eq_true, beq_iff_eq, Bool.not_eq_true', decide_eq_true_eq] at h5
  obtain ⟨⟨⟨⟨⟨g1, g2⟩, g3⟩, g4⟩, g5⟩, g6⟩ := h5
  simp [Cond.before, Cond.holds, Cond.value, h1, h2, h3, h4, g1, g2, g3, g4, g5, g6]
def isCode : Jvm.Cond → Bool
  | .code _ _ _ _ => true
  | _ => false
theorem all_split {L : List Jvm.Cond} {P : Jvm.Cond → Bool} (h1 : L.all (fun c => isCode c || P c) = true) (h2 : ∀ c ∈ L.filter isCode, P c = true) : L.all P = true := by
  refine List.all_eq_true.mpr fun c hc => ?_
  have h := List.all_eq_true.mp h1 c hc
  rcases Bool.eq_false_or_eq_true (isCode c) with hi | hi
  · exact h2 c (List.mem_filter.mpr ⟨hc, hi⟩)
  · simpa [hi] using h
set_option maxRecDepth 65536 in
theorem w_c0 : (Jvm.Cond.code x code maxLocals ret).before args0 about1 = true := code_word (m := ⟨1, 1⟩) (meth := k1m1) (c := k1c1) (by decide +kernel) rfl rfl rfl (by decide +kernel)
set_option maxRecDepth 65536 in
theorem w_c1 : (Jvm.Cond.code ({ cls := "com/example/fault/fault/RetryRule", name := "allows", desc := "(Z)Z" } : Jvm.MethodName) prog_12_method_5_code (2 : Nat) (Option.some Jvm.ClassFile.FieldType.boolean)).before args0 about1 = true := code_word (m := ⟨6, 0⟩) (meth := k6m0) (c := k6c0) (by decide +kernel) rfl rfl rfl (by decide +kernel)
def codes1 : List Jvm.Cond := [Jvm.Cond.code x code maxLocals ret, Jvm.Cond.code ({ cls := "com/example/fault/fault/RetryRule", name := "allows", desc := "(Z)Z" } : Jvm.MethodName) prog_12_method_5_code (2 : Nat) (Option.some Jvm.ClassFile.FieldType.boolean)]
set_option maxRecDepth 65536 in
theorem codes_eq : words1.filter isCode = codes1 := rfl
theorem w_codes : ∀ c ∈ words1.filter isCode, c.before args0 about1 = true := by
  rw [codes_eq]
  intro c hc
  simp only [codes1, List.mem_cons, List.not_mem_nil, or_false] at hc
  rcases hc with rfl | rfl
  · exact w_c0
  · exact w_c1
set_option maxRecDepth 65536 in
theorem w_t1 : words1.all (fun c => isCode c || c.before args0 about1) = true := by decide +kernel
theorem w_tables : (allAtoms (Jvm.Cond.code x code maxLocals ret :: tables_1)).before args0 about1 = true := by
  rw [allAtoms_all]
  show words1.all (fun c => c.before args0 about1) = true
  refine all_split ?_ w_codes
  rw [w_t1]
set_option maxRecDepth 65536 in
theorem w_case : (Jvm.Cond.and given_1 narrow_1).before args0 about1 = true := by decide +kernel
theorem w_applies : (headSpec (Jvm.Cond.code x code maxLocals ret :: tables_1) room_1).applies x e0.platform about1 = true :=
  (Spec.applies_iff w_frames).mpr ⟨w_running, w_runnable, w_alone, w_named, w_hears, w_ripe, w_room, w_tables⟩
theorem atStart : AtStart classFile x code maxLocals ret World_1 tables_1 room_1 Calls_1 rest_1 Pre_1 launch0 p0 e0 about1 theMethod args0 below0 :=
  ⟨lists_1, trivial, launch0.admits_env _ _ _, launch0.least_env, fairChoices_fair.cas, fairChoices_fair.clock, w_frames, w_args, w_heap, w_applies, trivial, trivial, w_case⟩
end start1
theorem witness_1 : WitnessClaimed_1 := ⟨start1.p0, start1.e0, start1.about1, start1.theMethod, start1.args0, start1.below0, start1.atStart⟩
end Jvm.Pilot.@@N@@
