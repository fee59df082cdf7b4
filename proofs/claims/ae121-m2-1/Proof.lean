import JvmDerived
import JvmDerived.Pilot.@@N@@Statement
import JvmDerived.Pilot.@@N@@Code
set_option linter.unusedVariables false
set_option linter.unusedSimpArgs false
namespace Jvm.RoadKit
open Sem ClassFile Op Lib Jvm.Stand Jvm.Free Jvm.LawKit
section New
variable {p : Program} {l : Launch} {e : Env} {R : Room} {s : State} {m : MethodId} {args : Array Value} {below : List Frame} {meth : Method} {c : Code} {T : State} {locs : List Loc} {cells slots : Nat}
theorem retI (X : Stand p l e R s m args below meth c T locs cells slots) (hx : p.tables.exec = Jvm.exec) {pc : Nat} {Ls : Array Slot} {z : Int32} {rest : List Value} (hret : meth.sig.returnType = some .int) (hd : decode c.code pc = .ok (.ireturn, 1)) {fs : List Frame}
    (hl : ∀ (f : JFrame) (acts : List Action), f.method = m → f.locked = none → f.entered = [] → (doReturn e (T.setTop f) acts (some (.int z))).1 = T.setFrames fs) : Steps p.tables e below (T.setTop (mkF m pc Ls (.int z :: rest))) (T.setFrames fs) := by
  have hm' : T.vm.method? m = some meth := X.method'
  have hn : narrow .int (.int z) = .int z := rfl
  show Steps p.tables e below (T.setTop { method := m, pc := pc, locals := Ls, stack := _ :: rest, locked := none }) _
  jvm_step X.here [X.here.top, hx, hd, hm', hret, hn]
  first | (intro acts; rw [hl _ acts rfl rfl rfl]) | rw [hl _ _ rfl rfl rfl]
  exact Steps.refl _
/-- from the state a the run ends, within its caller's frames, in an outcome of which P holds -/
def own_Endz (tb : Tables) (e : Env) (below : List Frame) (P : Outcome → State → Prop) (a : State) : Prop := ∃ s₂ o, Steps tb e below a s₂ ∧ s₂.status = .running ∧ Ended s₂ below o ∧ P o s₂
abbrev own_EndQ (s : State) (k n : Nat) (Q : Option Value → Heap → List Loc → Prop) : Outcome → State → Prop := fun o U' => ∃ v L, o = .returned v ∧ Q v U'.heap L ∧ FrameEnd s o U' L k n
theorem own_go {tb : Tables} {P : Outcome → State → Prop} {a b : State} (h : ∀ t, Steps tb e below b t → Steps tb e below a t) (k : own_Endz tb e below P b) : own_Endz tb e below P a := by
  obtain ⟨s2, o, h1, r⟩ := k
  exact ⟨s2, o, h _ h1, r⟩
theorem own_tr {tb : Tables} {P : Outcome → State → Prop} {a b : State} (h : Steps tb e below a b) (k : own_Endz tb e below P b) : own_Endz tb e below P a := by
  obtain ⟨s2, o, h1, r⟩ := k
  exact ⟨s2, o, h.trans h1, r⟩
theorem own_cast {tb : Tables} {P : Outcome → State → Prop} {g g' : JFrame} (q : g = g') (k : own_Endz tb e below P (T.setTop g')) : own_Endz tb e below P (T.setTop g) := q ▸ k
theorem own_retN (X : Stand p l e R s m args below meth c T locs cells slots) (hx : p.tables.exec = Jvm.exec) (hlk : meth.locks = false) {pc : Nat} {Ls : Array Slot} {z : Int32} {t : FieldType} {rest : List Value} (hret : meth.sig.returnType = some t) (ht : t = .boolean ∨ t = .byte ∨ t = .char ∨ t = .short)
    (hd : decode c.code pc = .ok (.ireturn, 1)) {k n : Nat} {Q : Option Value → Heap → List Loc → Prop} (hk : cells ≤ k) (hn : slots ≤ n) (q : Q (some (.int (nar t z))) T.heap locs) : own_Endz p.tables e below (own_EndQ s k n Q) (T.setTop (mkF m pc Ls (.int z :: rest))) := by
  obtain ⟨fs, hr, hrun, hended, hW, hsame⟩ := X.leave (v := some (.int (nar t z))) (fun h => by rw [hret] at h; cases h) hlk
  exact ⟨_, _, retN X hx hret ht hd hr, hrun, hended, _, _, rfl, q, ⟨_, rfl⟩, hW, hsame.mono hk hn⟩
theorem own_retI (X : Stand p l e R s m args below meth c T locs cells slots) (hx : p.tables.exec = Jvm.exec) (hlk : meth.locks = false) {pc : Nat} {Ls : Array Slot} {z : Int32} {rest : List Value} (hret : meth.sig.returnType = some .int)
    (hd : decode c.code pc = .ok (.ireturn, 1)) {k n : Nat} {Q : Option Value → Heap → List Loc → Prop} (hk : cells ≤ k) (hn : slots ≤ n) (q : Q (some (.int z)) T.heap locs) : own_Endz p.tables e below (own_EndQ s k n Q) (T.setTop (mkF m pc Ls (.int z :: rest))) := by
  obtain ⟨fs, hr, hrun, hended, hW, hsame⟩ := X.leave (v := some (.int z)) (fun h => by rw [hret] at h; cases h) hlk
  exact ⟨_, _, retI X hx hret hd hr, hrun, hended, _, _, rfl, q, ⟨_, rfl⟩, hW, hsame.mono hk hn⟩
theorem own_retA (X : Stand p l e R s m args below meth c T locs cells slots) (hx : p.tables.exec = Jvm.exec) (hlk : meth.locks = false) {pc : Nat} {Ls : Array Slot} {w : Value} {t : FieldType} {rest : List Value} (hret : meth.sig.returnType = some t) (ht : t.isReference = true) (hw : w.isRef = true)
    (hd : decode c.code pc = .ok (.areturn, 1)) {k n : Nat} {Q : Option Value → Heap → List Loc → Prop} (hk : cells ≤ k) (hn : slots ≤ n) (q : Q (some w) T.heap locs) : own_Endz p.tables e below (own_EndQ s k n Q) (T.setTop (mkF m pc Ls (w :: rest))) := by
  obtain ⟨fs, hr, hrun, hended, hW, hsame⟩ := X.leave (v := some w) (fun h => by rw [hret] at h; cases h) hlk
  have hnw : narrow t w = w := by cases t <;> first | (cases ht; done) | rfl
  exact ⟨_, _, retOut X hx hret hnw (Or.inr (Or.inr (Or.inr (Or.inr ⟨rfl, ht, hw⟩)))) hd hr, hrun, hended, _, _, rfl, q, ⟨_, rfl⟩, hW, hsame.mono hk hn⟩
theorem own_retV (X : Stand p l e R s m args below meth c T locs cells slots) (hx : p.tables.exec = Jvm.exec) (hlk : meth.locks = false) {pc : Nat} {Ls : Array Slot} (hret : meth.sig.returnType = none)
    (hd : decode c.code pc = .ok (.return_, 1)) {k n : Nat} {Q : Option Value → Heap → List Loc → Prop} (hk : cells ≤ k) (hn : slots ≤ n) (q : Q none T.heap locs) : own_Endz p.tables e below (own_EndQ s k n Q) (T.setTop (mkF m pc Ls [])) := by
  obtain ⟨fs, hr, hrun, hended, hW, hsame⟩ := X.leave (v := none) (fun _ => rfl) hlk
  exact ⟨_, _, X.returnOut hx hret hd hr, hrun, hended, _, _, rfl, q, ⟨_, rfl⟩, hW, hsame.mono hk hn⟩
theorem own_ev {t u : Term} {k : Int32} {args : Array Value} (h : (Cond.eq t (.int k)).value args s none s [] = some true) : t.eval args s none [] s = some (.int k) := by
  simp only [Cond.value, Term.eval] at h
  split at h <;> simp_all
theorem own_fld {t : Term} {C n d : String} {k : Int32} {x : Addr} {args : Array Value} (ht : t.eval args s none [] s = some (.ref x)) (h : (Cond.eq (.field t C n d) (.int k)).value args s none s [] = some true) : Fld s s.heap x C n d (.int k) :=
  Fld.start ((fld_at ht).symm.trans (own_ev (u := t) h))
theorem own_enum {Z : State} {h : Heap} {C f d : String} {ad : Nat → Addr} {n : Nat} (hn : n ≤ 2 ^ 31) (F : ∀ i, i < n → Fld Z h (ad i) C f d (.int i.toInt32)) (i j : Nat) (hi : i < n) (hj : j < n) : ad i = ad j ↔ i = j := by
  refine ⟨fun q => Classical.byContradiction fun ne => (F i hi).ne (F j hj) (fun v => ne ?_) q, fun q => q ▸ rfl⟩
  have q1 := congrArg Int32.toInt (Value.int.inj v)
  rw [len_toInt (by omega), len_toInt (by omega)] at q1
  omega
theorem own_cat {v : Value} (h : v.isRef = true) : v.category = 1 := by cases v <;> first | rfl | (cases h)
theorem own_evR {t u : Term} {a : Addr} {args : Array Value} (hu : u.eval args s none [] s = some (.ref a)) (h : (Cond.eq t u).value args s none s [] = some true) : t.eval args s none [] s = some (.ref a) := by
  simp only [Cond.value, hu] at h
  split at h <;> simp_all
theorem own_len {t : Term} {x : Addr} {cl : Cell} {k : Int32} {args : Array Value} (ht : t.eval args s none [] s = some (.ref x)) (hc : s.heap[x]? = some cl) (h : (Cond.eq (.length t) (.int k)).value args s none s [] = some true) : cl.slots.size.toInt32 = k ∧ cl.slots.size < 2 ^ 31 := by
  have e := own_ev (u := t) h
  obtain ⟨x', cl', e1, e2, e3⟩ := Term.length_spec e
  cases ht.symm.trans e1
  have e4 : cl' = cl := by
    simp only [State.arrayAt?, Option.bind_eq_bind, hc, Option.bind_some] at e2
    obtain ⟨k1, -, e2⟩ := Option.bind_eq_some_iff.mp e2
    split at e2
    · cases e2
    · split at e2
      · exact (Option.some.inj e2).symm
      · cases e2
  subst e4
  refine ⟨(Value.int.inj e3).symm, Classical.byContradiction fun hn => ?_⟩
  simp [Term.eval, ht, e2] at e
  exact hn e.1
theorem own_elem {t u : Term} {x a : Addr} {cl : Cell} {k : Int32} {args : Array Value} (ht : t.eval args s none [] s = some (.ref x)) (hc : s.heap[x]? = some cl) (hu : u.eval args s none [] s = some (.ref a)) (h : (Cond.eq (.elem t (.int k)) u).value args s none s [] = some true) : cl.slots[k.toNatClampNeg]? = some (.ref a) := by
  have e := own_evR hu h
  exact (elem_in e ht (Term.int_eval k) hc).2
theorem own_i {x y : Int32} (h : x ≠ y) : (Value.int x) ≠ .int y := fun q => h (Value.int.inj q)
end New
end Jvm.RoadKit
namespace Jvm.Pilot.@@N@@
open Jvm Jvm.ClassFile Sem Op Lib Jvm.Free Jvm.Stand Jvm.LawKit Jvm.RoadKit Bundle Jvm.Pilot.@@N@@.Jvm.D
def own_rt (ad : Nat → Addr) (r : Addr) : Addr := if r = ad 4 then ad 3 else r
theorem d1_0 : decode prog_9_method_10_code 0 = .ok (.aload_n 0, 1) := by decide +kernel
theorem d1_1 : decode prog_9_method_10_code 1 = .ok (.getstatic 16, 3) := by decide +kernel
theorem d1_4 : decode prog_9_method_10_code 4 = .ok (.if_acmp .ne 9, 3) := by decide +kernel
theorem d1_7 : decode prog_9_method_10_code 7 = .ok (.getstatic 13, 3) := by decide +kernel
theorem d1_10 : decode prog_9_method_10_code 10 = .ok (.goto 4, 3) := by decide +kernel
theorem d1_13 : decode prog_9_method_10_code 13 = .ok (.aload_n 0, 1) := by decide +kernel
theorem d1_14 : decode prog_9_method_10_code 14 = .ok (.areturn, 1) := by decide +kernel
theorem pn_0 : plainName "com/example/viewgrant/viewgrant/ObjectType" = true := by first | (simp [plainName, overriddenIn]; done) | decide +kernel
theorem ef_1 (m : MethodId) (r : Addr) : entryFrame m #[(.ref r)] 1 = mkF m 0 #[.val (.ref r)] [] := by first | (simp [entryFrame, mkF, argsToLocals, Value.category]; done) | rfl
def Q1 (Z : State) (r : Addr) (ad : Nat → Addr) (h0 : Heap) (n0 : Nat) (v : Option Value) (h : Heap) (L : List Loc) : Prop := v = some (.ref (own_rt ad r)) ∧ Fr n0 L ∧ h = h0
set_option maxRecDepth 65536 in
set_option maxHeartbeats 40000000 in
theorem rm1 (l : Launch) (Z : State) (a0 : Array Value) (hw : ∀ d ∈ tables_1, d.before a0 Z = true) (ws : List Jvm.Cond) (r : Addr) (ad : Nat → Addr) (h0 : Heap) (n0 : Nat) (Z0 : n0 ≤ h0.size) (Sd3 : Sta Z h0 "com/example/viewgrant/viewgrant/ObjectType" "VIEW" "Lcom/example/viewgrant/viewgrant/ObjectType;" (.ref (ad 3))) (Sd4 : Sta Z h0 "com/example/viewgrant/viewgrant/ObjectType" "VIEWS" "Lcom/example/viewgrant/viewgrant/ObjectType;" (.ref (ad 4))) :
    MetFree l (⟨"com/example/viewgrant/viewgrant/ObjectType", "recordType", "()Lcom/example/viewgrant/viewgrant/ObjectType;"⟩ : MethodName) (head1 (Jvm.Cond.code (⟨"com/example/viewgrant/viewgrant/ObjectType", "recordType", "()Lcom/example/viewgrant/viewgrant/ObjectType;"⟩ : MethodName) prog_9_method_10_code 1 (some (.object "com/example/viewgrant/viewgrant/ObjectType")) :: ws) ({ frames := 0, cells := 0, slots := 0, locals := 0 } : Room)) (fun a U => a = #[(.ref r)] ∧ Z.Warmed39 U.vm ∧ U.heap = h0) (fun _ _ _ _ _ => True) (fun _ U o U' => ∃ v L, o = .returned v ∧ Q1 Z r ad h0 n0 v U'.heap L ∧ FrameEnd U o U' L ({ frames := 0, cells := 0, slots := 0, locals := 0 } : Room).cells ({ frames := 0, cells := 0, slots := 0, locals := 0 } : Room).slots) := by
  refine MetFree.of_bodySF (plainFor_of_name pn_0) hisR ?_
  intro p e s m args below meth c s₁ Bd hml0 hP hK
  obtain ⟨rfl, hZ, hh⟩ := hP
  have hx := Bd.exec
  have hby := Bd.bytes
  have hml : c.maxLocals = 1 := hml0
  have hown : s.vm.findClass "com/example/viewgrant/viewgrant/ObjectType" = some m.cls := findClass_of_methodNamed Bd.named
  have hnm := (name_of_methodNamed Bd.named Bd.method).1
  have hlk : meth.locks = false := Bd.notSynchronized
  have hrt := Bd.returns
  have X0 : Stand p l e ({ frames := 0, cells := 0, slots := 0, locals := 0 } : Room) s m #[(.ref r)] below meth c s₁ [] 0 0 := Stand.of_body Bd
  have e0 : s₁.heap = h0 := by rw [← hh, Bd.state]; rfl
  have N0 := Fr.nil n0
  show own_Endz p.tables e below (own_EndQ s ({ frames := 0, cells := 0, slots := 0, locals := 0 } : Room).cells ({ frames := 0, cells := 0, slots := 0, locals := 0 } : Room).slots (Q1 Z r ad h0 n0)) (s₁.setTop (entryFrame m #[(.ref r)] 1))
  refine own_cast (ef_1 m r) ?_
  refine own_go (b := s₁.setTop (mkF m 1 #[.val (.ref r)] [(.ref r)])) (fun t k => XS.aloadN X0.here hx rfl (hb hby d1_0) rfl rfl k) ?_
  obtain ⟨T1, X1, e1, st1⟩ := getS2 X0 hx hZ hown (host := "") (Or.inl (hw _ (List.mem_of_getElem? (i := 22) rfl))) Via.refl e0 Sd4 (g := (mkF m 1 #[.val (.ref r)] [(.ref r)])) rfl (hb hby d1_1)
  refine own_go (b := T1.setTop (mkF m 4 #[.val (.ref r)] [(.ref (ad 4)), (.ref r)])) st1 ?_
  by_cases hc2 : r = (ad 4)
  · refine own_go (b := T1.setTop (mkF m 7 #[.val (.ref r)] [])) (fun t k => Jvm.RoadKit.acmp (g := (mkF m 4 #[.val (.ref r)] [(.ref (ad 4)), (.ref r)])) X1 hx rfl rfl rfl (pc0 := 4) (pc' := 7) (same := true) rfl (hb hby d1_4) rfl (decide_eq_true (congrArg Value.ref hc2)) (by decide) (by decide) k) ?_
    obtain ⟨T3, X3, e3, st3⟩ := getS2 X1 hx hZ hown (host := "") (Or.inl (hw _ (List.mem_of_getElem? (i := 23) rfl))) Via.refl e1 Sd3 (g := (mkF m 7 #[.val (.ref r)] [])) rfl (hb hby d1_7)
    refine own_go (b := T3.setTop (mkF m 10 #[.val (.ref r)] [(.ref (ad 3))])) st3 ?_
    refine own_go (b := T3.setTop (mkF m 14 #[.val (.ref r)] [(.ref (ad 3))])) (fun t k => XS.goto X3.here hx rfl (pc0 := 10) (pc' := 14) rfl (hb hby d1_10) (by decide) (by decide) k) ?_
    exact own_retA X3 hx hlk hrt rfl rfl (hb hby d1_14) (Nat.le_of_ble_eq_true rfl) (Nat.le_of_ble_eq_true rfl) (⟨by first | rfl | (simp [own_rt, eq_true hc2]; done) | (simp [own_rt, eq_true hc2]; rfl), N0, e3⟩)
  · refine own_go (b := T1.setTop (mkF m 13 #[.val (.ref r)] [])) (fun t k => Jvm.RoadKit.acmp (g := (mkF m 4 #[.val (.ref r)] [(.ref (ad 4)), (.ref r)])) X1 hx rfl rfl rfl (pc0 := 4) (pc' := 13) (same := false) rfl (hb hby d1_4) rfl (decide_eq_false fun q => hc2 (Value.ref.inj q)) (by decide) (by decide) k) ?_
    refine own_go (b := T1.setTop (mkF m 14 #[.val (.ref r)] [(.ref r)])) (fun t k => XS.aloadN X1.here hx rfl (hb hby d1_13) rfl rfl k) ?_
    exact own_retA X1 hx hlk hrt rfl rfl (hb hby d1_14) (Nat.le_of_ble_eq_true rfl) (Nat.le_of_ble_eq_true rfl) (⟨by first | rfl | (simp [own_rt, eq_false hc2]; done) | (simp [own_rt, eq_false hc2]; rfl), N0, e1⟩)
theorem own_range (k : Int32) : ∃ j : Nat, j < 6 ∧ (k &&& 2147483647) % 6 = j.toInt32 := by
  have h1 := c_mask k 2147483647 31 (by decide) (by decide)
  have h2 := (c_irem (k &&& 2147483647) 6 6 (by decide)).1 (by omega)
  refine ⟨((k &&& 2147483647) % 6).toInt.toNat, by omega, ?_⟩
  rw [← Int32.toInt_inj, len_toInt (by omega)]
  omega
theorem pn_1 : plainName "com/example/viewgrant/viewgrant/ObjectTypeRecordTypePinLaw" = true := by first | (simp [plainName, overriddenIn]; done) | decide +kernel
theorem pd_0 : parseMethodDescriptor "()Lcom/example/viewgrant/viewgrant/ObjectType;" = some ⟨[], some (.object "com/example/viewgrant/viewgrant/ObjectType")⟩ := by decide +kernel
theorem ef_0 (m : MethodId) (pr : Int32) : entryFrame m #[(.int pr)] maxLocals = mkF m 0 #[.val (.int pr), .unset, .unset, .unset, .unset, .unset] [] := by first | (simp [entryFrame, mkF, argsToLocals, Value.category, maxLocals]; done) | rfl
def Q0 (Z : State) (pr : Int32) (ad : Nat → Addr) (h0 : Heap) (n0 : Nat) (v : Option Value) (h : Heap) (L : List Loc) : Prop := v = some (.int 1) ∧ Fr n0 L
set_option maxRecDepth 65536 in
set_option maxHeartbeats 40000000 in
theorem rm0 (l : Launch) (Z : State) (a0 : Array Value) (hw : ∀ d ∈ tables_1, d.before a0 Z = true) (ws : List Jvm.Cond) (pr : Int32) (ad : Nat → Addr) (h0 : Heap) (n0 : Nat) (Z0 : n0 ≤ h0.size) (Sd0 : Sta Z Z.heap "com/example/viewgrant/viewgrant/ObjectType" "FILE" "Lcom/example/viewgrant/viewgrant/ObjectType;" (.ref (ad 0))) (Sd1 : Sta Z Z.heap "com/example/viewgrant/viewgrant/ObjectType" "CHANGEREQUEST" "Lcom/example/viewgrant/viewgrant/ObjectType;" (.ref (ad 1))) (Sd2 : Sta Z Z.heap "com/example/viewgrant/viewgrant/ObjectType" "FOLDER" "Lcom/example/viewgrant/viewgrant/ObjectType;" (.ref (ad 2))) (Sd3 : Sta Z Z.heap "com/example/viewgrant/viewgrant/ObjectType" "VIEW" "Lcom/example/viewgrant/viewgrant/ObjectType;" (.ref (ad 3))) (Sd4 : Sta Z Z.heap "com/example/viewgrant/viewgrant/ObjectType" "VIEWS" "Lcom/example/viewgrant/viewgrant/ObjectType;" (.ref (ad 4))) (Sd5 : Sta Z Z.heap "com/example/viewgrant/viewgrant/ObjectType" "PROJECT" "Lcom/example/viewgrant/viewgrant/ObjectType;" (.ref (ad 5))) (Ed : ∀ i, i < 6 → Exa Z Z.heap (ad i) "com/example/viewgrant/viewgrant/ObjectType") (hinj : ∀ i j, i < 6 → j < 6 → (ad i = ad j ↔ i = j)) (Od : Old Z n0 h0) :
    MetFree l x (head1 (Jvm.Cond.code x code maxLocals ret :: ws) room_1) (fun a U => a = #[(.int pr)] ∧ Z.Warmed39 U.vm ∧ U.heap = h0) (fun _ _ _ _ _ => True) (fun _ U o U' => ∃ v L, o = .returned v ∧ Q0 Z pr ad h0 n0 v U'.heap L ∧ FrameEnd U o U' L room_1.cells room_1.slots) := by
  refine MetFree.of_bodySF (plainFor_of_name pn_1) hisR ?_
  intro p e s m args below meth c s₁ Bd hml0 hP hK
  obtain ⟨rfl, hZ, hh⟩ := hP
  have hx := Bd.exec
  have hby := Bd.bytes
  have hml : c.maxLocals = 6 := hml0
  have hown : s.vm.findClass "com/example/viewgrant/viewgrant/ObjectTypeRecordTypePinLaw" = some m.cls := findClass_of_methodNamed Bd.named
  have hnm := (name_of_methodNamed Bd.named Bd.method).1
  have hlk : meth.locks = false := Bd.notSynchronized
  have hrt := Bd.returns
  have X0 : Stand p l e room_1 s m #[(.int pr)] below meth c s₁ [] 0 0 := Stand.of_body Bd
  have e0 : s₁.heap = h0 := by rw [← hh, Bd.state]; rfl
  have N0 := Fr.nil n0
  show own_Endz p.tables e below (own_EndQ s room_1.cells room_1.slots (Q0 Z pr ad h0 n0)) (s₁.setTop (entryFrame m #[(.int pr)] maxLocals))
  refine own_cast (ef_0 m pr) ?_
  refine own_go (b := s₁.setTop (mkF m 2 #[.val (.int pr), .unset, .unset, .unset, .unset, .unset] [(.int (6 : Int32))])) (fun t k => XS.bipush X0.here hx rfl (hb hby at_0) k) ?_
  obtain ⟨T1, h1, k1, X1, e1, E1, A1, O1, st1⟩ := newR X0 hx hZ hown (hw _ (List.mem_of_getElem? (i := 0) rfl)) (hw _ (List.mem_of_getElem? (i := 1) rfl)) e0 (g := (mkF m 2 #[.val (.int pr), .unset, .unset, .unset, .unset, .unset] [(.int (6 : Int32))])) rfl (hb hby at_2) rfl (by decide) (cap := 6) (by decide) (by decide) (by decide) (by decide)
  obtain ⟨b1, g1⟩ : ∃ z, z = h0.size := ⟨_, rfl⟩
  rw [← g1] at A1 st1
  have g_b1 : n0 ≤ b1 := Nat.le_trans Z0 (Nat.le_of_eq g1.symm)
  have Zs1 : n0 ≤ h1.size := Nat.le_trans Z0 E1.1
  have Ol1 := Od.ext E1
  have V_b1 : Arv Z h1 b1 k1 (.object "com/example/viewgrant/viewgrant/ObjectType") (6 : Int32) [.null, .null, .null, .null, .null, .null] .null := (Arv.new A1 (by decide)).pad (pad_rep [] .null 6)
  refine own_go (b := T1.setTop (mkF m 5 #[.val (.int pr), .unset, .unset, .unset, .unset, .unset] [(.ref b1)])) st1 ?_
  refine own_go (b := T1.setTop (mkF m 6 #[.val (.int pr), .unset, .unset, .unset, .unset, .unset] [(.ref b1), (.ref b1)])) (fun t k => XS.dup X1.here hx rfl (hb hby at_5) rfl rfl k) ?_
  refine own_go (b := T1.setTop (mkF m 7 #[.val (.int pr), .unset, .unset, .unset, .unset, .unset] [(.int (0 : Int32)), (.ref b1), (.ref b1)])) (fun t k => XS.iconst X1.here hx rfl (hb hby at_6) k) ?_
  obtain ⟨T2, X2, e2, st2⟩ := getS2 X1 hx hZ hown (host := "") (Or.inl (hw _ (List.mem_of_getElem? (i := 2) rfl))) Via.refl e1 (Sd0.ext Ol1.2) (g := (mkF m 7 #[.val (.int pr), .unset, .unset, .unset, .unset, .unset] [(.int (0 : Int32)), (.ref b1), (.ref b1)])) rfl (hb hby at_7)
  refine own_go (b := T2.setTop (mkF m 10 #[.val (.int pr), .unset, .unset, .unset, .unset, .unset] [(.ref (ad 0)), (.int (0 : Int32)), (.ref b1), (.ref b1)])) st2 ?_
  obtain ⟨cl3, Ar3, qc3, Sz3, Ng3, Hs3, Ft3⟩ := V_b1
  have hin3 : ¬ ((0 : Int32) < 0 ∨ cl3.slots.size ≤ ((0 : Int32)).toNatClampNeg) := inb_of Sz3 ⟨by decide, by decide⟩
  obtain ⟨T4, h4, X4, e4, W4, st4⟩ := stR X2 hx hZ e2 Ar3 (j := (0 : Int32)) hin3 rfl (Sto.ofV Ar3 qc3 O1 (Ins.self ((Ed 0 (by decide)).ext Ol1.2))) (g := (mkF m 10 #[.val (.int pr), .unset, .unset, .unset, .unset, .unset] [(.ref (ad 0)), (.int (0 : Int32)), (.ref b1), (.ref b1)])) rfl rfl (hb hby at_10)
  have V_b1_4 : Arv Z h4 b1 k1 (.object "com/example/viewgrant/viewgrant/ObjectType") (6 : Int32) [(.ref (ad 0)), .null, .null, .null, .null, .null] .null := Arv.set Ar3 qc3 Sz3 Ng3 Hs3 Ft3 rfl W4 0 rfl (Nat.le_of_ble_eq_true rfl)
  have Zs4 : n0 ≤ h4.size := Nat.le_trans Zs1 (Keep.of_wr W4).1
  have N4 := Fr.snoc X4 N0 g_b1
  have Ol4 := Ol1.wr W4 g_b1
  refine own_go (b := T4.setTop (mkF m 11 #[.val (.int pr), .unset, .unset, .unset, .unset, .unset] [(.ref b1)])) st4 ?_
  refine own_go (b := T4.setTop (mkF m 12 #[.val (.int pr), .unset, .unset, .unset, .unset, .unset] [(.ref b1), (.ref b1)])) (fun t k => XS.dup X4.here hx rfl (hb hby at_11) rfl rfl k) ?_
  refine own_go (b := T4.setTop (mkF m 13 #[.val (.int pr), .unset, .unset, .unset, .unset, .unset] [(.int (1 : Int32)), (.ref b1), (.ref b1)])) (fun t k => XS.iconst X4.here hx rfl (hb hby at_12) k) ?_
  obtain ⟨T5, X5, e5, st5⟩ := getS2 X4 hx hZ hown (host := "") (Or.inl (hw _ (List.mem_of_getElem? (i := 6) rfl))) Via.refl e4 (Sd1.ext Ol4.2) (g := (mkF m 13 #[.val (.int pr), .unset, .unset, .unset, .unset, .unset] [(.int (1 : Int32)), (.ref b1), (.ref b1)])) rfl (hb hby at_13)
  refine own_go (b := T5.setTop (mkF m 16 #[.val (.int pr), .unset, .unset, .unset, .unset, .unset] [(.ref (ad 1)), (.int (1 : Int32)), (.ref b1), (.ref b1)])) st5 ?_
  obtain ⟨cl6, Ar6, qc6, Sz6, Ng6, Hs6, Ft6⟩ := V_b1_4
  have hin6 : ¬ ((1 : Int32) < 0 ∨ cl6.slots.size ≤ ((1 : Int32)).toNatClampNeg) := inb_of Sz6 ⟨by decide, by decide⟩
  obtain ⟨T7, h7, X7, e7, W7, st7⟩ := stR X5 hx hZ e5 Ar6 (j := (1 : Int32)) hin6 rfl (Sto.ofV Ar6 qc6 O1 (Ins.self ((Ed 1 (by decide)).ext Ol4.2))) (g := (mkF m 16 #[.val (.int pr), .unset, .unset, .unset, .unset, .unset] [(.ref (ad 1)), (.int (1 : Int32)), (.ref b1), (.ref b1)])) rfl rfl (hb hby at_16)
  have V_b1_7 : Arv Z h7 b1 k1 (.object "com/example/viewgrant/viewgrant/ObjectType") (6 : Int32) [(.ref (ad 0)), (.ref (ad 1)), .null, .null, .null, .null] .null := Arv.set Ar6 qc6 Sz6 Ng6 Hs6 Ft6 rfl W7 1 rfl (Nat.le_of_ble_eq_true rfl)
  have Zs7 : n0 ≤ h7.size := Nat.le_trans Zs4 (Keep.of_wr W7).1
  have N7 := Fr.snoc X7 N4 g_b1
  have Ol7 := Ol4.wr W7 g_b1
  refine own_go (b := T7.setTop (mkF m 17 #[.val (.int pr), .unset, .unset, .unset, .unset, .unset] [(.ref b1)])) st7 ?_
  refine own_go (b := T7.setTop (mkF m 18 #[.val (.int pr), .unset, .unset, .unset, .unset, .unset] [(.ref b1), (.ref b1)])) (fun t k => XS.dup X7.here hx rfl (hb hby at_17) rfl rfl k) ?_
  refine own_go (b := T7.setTop (mkF m 19 #[.val (.int pr), .unset, .unset, .unset, .unset, .unset] [(.int (2 : Int32)), (.ref b1), (.ref b1)])) (fun t k => XS.iconst X7.here hx rfl (hb hby at_18) k) ?_
  obtain ⟨T8, X8, e8, st8⟩ := getS2 X7 hx hZ hown (host := "") (Or.inl (hw _ (List.mem_of_getElem? (i := 8) rfl))) Via.refl e7 (Sd2.ext Ol7.2) (g := (mkF m 19 #[.val (.int pr), .unset, .unset, .unset, .unset, .unset] [(.int (2 : Int32)), (.ref b1), (.ref b1)])) rfl (hb hby at_19)
  refine own_go (b := T8.setTop (mkF m 22 #[.val (.int pr), .unset, .unset, .unset, .unset, .unset] [(.ref (ad 2)), (.int (2 : Int32)), (.ref b1), (.ref b1)])) st8 ?_
  obtain ⟨cl9, Ar9, qc9, Sz9, Ng9, Hs9, Ft9⟩ := V_b1_7
  have hin9 : ¬ ((2 : Int32) < 0 ∨ cl9.slots.size ≤ ((2 : Int32)).toNatClampNeg) := inb_of Sz9 ⟨by decide, by decide⟩
  obtain ⟨T10, h10, X10, e10, W10, st10⟩ := stR X8 hx hZ e8 Ar9 (j := (2 : Int32)) hin9 rfl (Sto.ofV Ar9 qc9 O1 (Ins.self ((Ed 2 (by decide)).ext Ol7.2))) (g := (mkF m 22 #[.val (.int pr), .unset, .unset, .unset, .unset, .unset] [(.ref (ad 2)), (.int (2 : Int32)), (.ref b1), (.ref b1)])) rfl rfl (hb hby at_22)
  have V_b1_10 : Arv Z h10 b1 k1 (.object "com/example/viewgrant/viewgrant/ObjectType") (6 : Int32) [(.ref (ad 0)), (.ref (ad 1)), (.ref (ad 2)), .null, .null, .null] .null := Arv.set Ar9 qc9 Sz9 Ng9 Hs9 Ft9 rfl W10 2 rfl (Nat.le_of_ble_eq_true rfl)
  have Zs10 : n0 ≤ h10.size := Nat.le_trans Zs7 (Keep.of_wr W10).1
  have N10 := Fr.snoc X10 N7 g_b1
  have Ol10 := Ol7.wr W10 g_b1
  refine own_go (b := T10.setTop (mkF m 23 #[.val (.int pr), .unset, .unset, .unset, .unset, .unset] [(.ref b1)])) st10 ?_
  refine own_go (b := T10.setTop (mkF m 24 #[.val (.int pr), .unset, .unset, .unset, .unset, .unset] [(.ref b1), (.ref b1)])) (fun t k => XS.dup X10.here hx rfl (hb hby at_23) rfl rfl k) ?_
  refine own_go (b := T10.setTop (mkF m 25 #[.val (.int pr), .unset, .unset, .unset, .unset, .unset] [(.int (3 : Int32)), (.ref b1), (.ref b1)])) (fun t k => XS.iconst X10.here hx rfl (hb hby at_24) k) ?_
  obtain ⟨T11, X11, e11, st11⟩ := getS2 X10 hx hZ hown (host := "") (Or.inl (hw _ (List.mem_of_getElem? (i := 10) rfl))) Via.refl e10 (Sd3.ext Ol10.2) (g := (mkF m 25 #[.val (.int pr), .unset, .unset, .unset, .unset, .unset] [(.int (3 : Int32)), (.ref b1), (.ref b1)])) rfl (hb hby at_25)
  refine own_go (b := T11.setTop (mkF m 28 #[.val (.int pr), .unset, .unset, .unset, .unset, .unset] [(.ref (ad 3)), (.int (3 : Int32)), (.ref b1), (.ref b1)])) st11 ?_
  obtain ⟨cl12, Ar12, qc12, Sz12, Ng12, Hs12, Ft12⟩ := V_b1_10
  have hin12 : ¬ ((3 : Int32) < 0 ∨ cl12.slots.size ≤ ((3 : Int32)).toNatClampNeg) := inb_of Sz12 ⟨by decide, by decide⟩
  obtain ⟨T13, h13, X13, e13, W13, st13⟩ := stR X11 hx hZ e11 Ar12 (j := (3 : Int32)) hin12 rfl (Sto.ofV Ar12 qc12 O1 (Ins.self ((Ed 3 (by decide)).ext Ol10.2))) (g := (mkF m 28 #[.val (.int pr), .unset, .unset, .unset, .unset, .unset] [(.ref (ad 3)), (.int (3 : Int32)), (.ref b1), (.ref b1)])) rfl rfl (hb hby at_28)
  have V_b1_13 : Arv Z h13 b1 k1 (.object "com/example/viewgrant/viewgrant/ObjectType") (6 : Int32) [(.ref (ad 0)), (.ref (ad 1)), (.ref (ad 2)), (.ref (ad 3)), .null, .null] .null := Arv.set Ar12 qc12 Sz12 Ng12 Hs12 Ft12 rfl W13 3 rfl (Nat.le_of_ble_eq_true rfl)
  have Zs13 : n0 ≤ h13.size := Nat.le_trans Zs10 (Keep.of_wr W13).1
  have N13 := Fr.snoc X13 N10 g_b1
  have Ol13 := Ol10.wr W13 g_b1
  refine own_go (b := T13.setTop (mkF m 29 #[.val (.int pr), .unset, .unset, .unset, .unset, .unset] [(.ref b1)])) st13 ?_
  refine own_go (b := T13.setTop (mkF m 30 #[.val (.int pr), .unset, .unset, .unset, .unset, .unset] [(.ref b1), (.ref b1)])) (fun t k => XS.dup X13.here hx rfl (hb hby at_29) rfl rfl k) ?_
  refine own_go (b := T13.setTop (mkF m 31 #[.val (.int pr), .unset, .unset, .unset, .unset, .unset] [(.int (4 : Int32)), (.ref b1), (.ref b1)])) (fun t k => XS.iconst X13.here hx rfl (hb hby at_30) k) ?_
  obtain ⟨T14, X14, e14, st14⟩ := getS2 X13 hx hZ hown (host := "") (Or.inl (hw _ (List.mem_of_getElem? (i := 12) rfl))) Via.refl e13 (Sd4.ext Ol13.2) (g := (mkF m 31 #[.val (.int pr), .unset, .unset, .unset, .unset, .unset] [(.int (4 : Int32)), (.ref b1), (.ref b1)])) rfl (hb hby at_31)
  refine own_go (b := T14.setTop (mkF m 34 #[.val (.int pr), .unset, .unset, .unset, .unset, .unset] [(.ref (ad 4)), (.int (4 : Int32)), (.ref b1), (.ref b1)])) st14 ?_
  obtain ⟨cl15, Ar15, qc15, Sz15, Ng15, Hs15, Ft15⟩ := V_b1_13
  have hin15 : ¬ ((4 : Int32) < 0 ∨ cl15.slots.size ≤ ((4 : Int32)).toNatClampNeg) := inb_of Sz15 ⟨by decide, by decide⟩
  obtain ⟨T16, h16, X16, e16, W16, st16⟩ := stR X14 hx hZ e14 Ar15 (j := (4 : Int32)) hin15 rfl (Sto.ofV Ar15 qc15 O1 (Ins.self ((Ed 4 (by decide)).ext Ol13.2))) (g := (mkF m 34 #[.val (.int pr), .unset, .unset, .unset, .unset, .unset] [(.ref (ad 4)), (.int (4 : Int32)), (.ref b1), (.ref b1)])) rfl rfl (hb hby at_34)
  have V_b1_16 : Arv Z h16 b1 k1 (.object "com/example/viewgrant/viewgrant/ObjectType") (6 : Int32) [(.ref (ad 0)), (.ref (ad 1)), (.ref (ad 2)), (.ref (ad 3)), (.ref (ad 4)), .null] .null := Arv.set Ar15 qc15 Sz15 Ng15 Hs15 Ft15 rfl W16 4 rfl (Nat.le_of_ble_eq_true rfl)
  have Zs16 : n0 ≤ h16.size := Nat.le_trans Zs13 (Keep.of_wr W16).1
  have N16 := Fr.snoc X16 N13 g_b1
  have Ol16 := Ol13.wr W16 g_b1
  refine own_go (b := T16.setTop (mkF m 35 #[.val (.int pr), .unset, .unset, .unset, .unset, .unset] [(.ref b1)])) st16 ?_
  refine own_go (b := T16.setTop (mkF m 36 #[.val (.int pr), .unset, .unset, .unset, .unset, .unset] [(.ref b1), (.ref b1)])) (fun t k => XS.dup X16.here hx rfl (hb hby at_35) rfl rfl k) ?_
  refine own_go (b := T16.setTop (mkF m 37 #[.val (.int pr), .unset, .unset, .unset, .unset, .unset] [(.int (5 : Int32)), (.ref b1), (.ref b1)])) (fun t k => XS.iconst X16.here hx rfl (hb hby at_36) k) ?_
  obtain ⟨T17, X17, e17, st17⟩ := getS2 X16 hx hZ hown (host := "") (Or.inl (hw _ (List.mem_of_getElem? (i := 14) rfl))) Via.refl e16 (Sd5.ext Ol16.2) (g := (mkF m 37 #[.val (.int pr), .unset, .unset, .unset, .unset, .unset] [(.int (5 : Int32)), (.ref b1), (.ref b1)])) rfl (hb hby at_37)
  refine own_go (b := T17.setTop (mkF m 40 #[.val (.int pr), .unset, .unset, .unset, .unset, .unset] [(.ref (ad 5)), (.int (5 : Int32)), (.ref b1), (.ref b1)])) st17 ?_
  obtain ⟨cl18, Ar18, qc18, Sz18, Ng18, Hs18, Ft18⟩ := V_b1_16
  have hin18 : ¬ ((5 : Int32) < 0 ∨ cl18.slots.size ≤ ((5 : Int32)).toNatClampNeg) := inb_of Sz18 ⟨by decide, by decide⟩
  obtain ⟨T19, h19, X19, e19, W19, st19⟩ := stR X17 hx hZ e17 Ar18 (j := (5 : Int32)) hin18 rfl (Sto.ofV Ar18 qc18 O1 (Ins.self ((Ed 5 (by decide)).ext Ol16.2))) (g := (mkF m 40 #[.val (.int pr), .unset, .unset, .unset, .unset, .unset] [(.ref (ad 5)), (.int (5 : Int32)), (.ref b1), (.ref b1)])) rfl rfl (hb hby at_40)
  have V_b1_19 : Arv Z h19 b1 k1 (.object "com/example/viewgrant/viewgrant/ObjectType") (6 : Int32) [(.ref (ad 0)), (.ref (ad 1)), (.ref (ad 2)), (.ref (ad 3)), (.ref (ad 4)), (.ref (ad 5))] .null := Arv.set Ar18 qc18 Sz18 Ng18 Hs18 Ft18 rfl W19 5 rfl (Nat.le_of_ble_eq_true rfl)
  have Zs19 : n0 ≤ h19.size := Nat.le_trans Zs16 (Keep.of_wr W19).1
  have N19 := Fr.snoc X19 N16 g_b1
  have Ol19 := Ol16.wr W19 g_b1
  refine own_go (b := T19.setTop (mkF m 41 #[.val (.int pr), .unset, .unset, .unset, .unset, .unset] [(.ref b1)])) st19 ?_
  refine own_go (b := T19.setTop (mkF m 42 #[.val (.int pr), .val (.ref b1), .unset, .unset, .unset, .unset] [])) (fun t k => XS.astoreN X19.here hx rfl (hb hby at_41) rfl rfl (l' := #[.val (.int pr), .val (.ref b1), .unset, .unset, .unset, .unset]) rfl k) ?_
  refine own_go (b := T19.setTop (mkF m 44 #[.val (.int pr), .val (.ref b1), .unset, .unset, .unset, .unset] [(.int (6 : Int32))])) (fun t k => XS.bipush X19.here hx rfl (hb hby at_42) k) ?_
  obtain ⟨T20, h20, k20, X20, e20, E20, A20, O20, st20⟩ := newR X19 hx hZ hown (hw _ (List.mem_of_getElem? (i := 0) rfl)) (hw _ (List.mem_of_getElem? (i := 1) rfl)) e19 (g := (mkF m 44 #[.val (.int pr), .val (.ref b1), .unset, .unset, .unset, .unset] [(.int (6 : Int32))])) rfl (hb hby at_44) rfl (by decide) (cap := 6) (by decide) (by decide) (by decide) (by decide)
  obtain ⟨b20, g20⟩ : ∃ z, z = h19.size := ⟨_, rfl⟩
  rw [← g20] at A20 st20
  have g_b20 : n0 ≤ b20 := Nat.le_trans Zs19 (Nat.le_of_eq g20.symm)
  have Zs20 : n0 ≤ h20.size := Nat.le_trans Zs19 E20.1
  have Ol20 := Ol19.ext E20
  have V_b20 : Arv Z h20 b20 k20 (.object "com/example/viewgrant/viewgrant/ObjectType") (6 : Int32) [.null, .null, .null, .null, .null, .null] .null := (Arv.new A20 (by decide)).pad (pad_rep [] .null 6)
  refine own_go (b := T20.setTop (mkF m 47 #[.val (.int pr), .val (.ref b1), .unset, .unset, .unset, .unset] [(.ref b20)])) st20 ?_
  refine own_go (b := T20.setTop (mkF m 48 #[.val (.int pr), .val (.ref b1), .unset, .unset, .unset, .unset] [(.ref b20), (.ref b20)])) (fun t k => XS.dup X20.here hx rfl (hb hby at_47) rfl rfl k) ?_
  refine own_go (b := T20.setTop (mkF m 49 #[.val (.int pr), .val (.ref b1), .unset, .unset, .unset, .unset] [(.int (0 : Int32)), (.ref b20), (.ref b20)])) (fun t k => XS.iconst X20.here hx rfl (hb hby at_48) k) ?_
  obtain ⟨T21, X21, e21, st21⟩ := getS2 X20 hx hZ hown (host := "") (Or.inl (hw _ (List.mem_of_getElem? (i := 2) rfl))) Via.refl e20 (Sd0.ext Ol20.2) (g := (mkF m 49 #[.val (.int pr), .val (.ref b1), .unset, .unset, .unset, .unset] [(.int (0 : Int32)), (.ref b20), (.ref b20)])) rfl (hb hby at_49)
  refine own_go (b := T21.setTop (mkF m 52 #[.val (.int pr), .val (.ref b1), .unset, .unset, .unset, .unset] [(.ref (ad 0)), (.int (0 : Int32)), (.ref b20), (.ref b20)])) st21 ?_
  obtain ⟨cl22, Ar22, qc22, Sz22, Ng22, Hs22, Ft22⟩ := V_b20
  have hin22 : ¬ ((0 : Int32) < 0 ∨ cl22.slots.size ≤ ((0 : Int32)).toNatClampNeg) := inb_of Sz22 ⟨by decide, by decide⟩
  obtain ⟨T23, h23, X23, e23, W23, st23⟩ := stR X21 hx hZ e21 Ar22 (j := (0 : Int32)) hin22 rfl (Sto.ofV Ar22 qc22 O20 (Ins.self ((Ed 0 (by decide)).ext Ol20.2))) (g := (mkF m 52 #[.val (.int pr), .val (.ref b1), .unset, .unset, .unset, .unset] [(.ref (ad 0)), (.int (0 : Int32)), (.ref b20), (.ref b20)])) rfl rfl (hb hby at_52)
  have V_b20_23 : Arv Z h23 b20 k20 (.object "com/example/viewgrant/viewgrant/ObjectType") (6 : Int32) [(.ref (ad 0)), .null, .null, .null, .null, .null] .null := Arv.set Ar22 qc22 Sz22 Ng22 Hs22 Ft22 rfl W23 0 rfl (Nat.le_of_ble_eq_true rfl)
  have Zs23 : n0 ≤ h23.size := Nat.le_trans Zs20 (Keep.of_wr W23).1
  have N23 := Fr.snoc X23 N19 g_b20
  have Ol23 := Ol20.wr W23 g_b20
  refine own_go (b := T23.setTop (mkF m 53 #[.val (.int pr), .val (.ref b1), .unset, .unset, .unset, .unset] [(.ref b20)])) st23 ?_
  refine own_go (b := T23.setTop (mkF m 54 #[.val (.int pr), .val (.ref b1), .unset, .unset, .unset, .unset] [(.ref b20), (.ref b20)])) (fun t k => XS.dup X23.here hx rfl (hb hby at_53) rfl rfl k) ?_
  refine own_go (b := T23.setTop (mkF m 55 #[.val (.int pr), .val (.ref b1), .unset, .unset, .unset, .unset] [(.int (1 : Int32)), (.ref b20), (.ref b20)])) (fun t k => XS.iconst X23.here hx rfl (hb hby at_54) k) ?_
  obtain ⟨T24, X24, e24, st24⟩ := getS2 X23 hx hZ hown (host := "") (Or.inl (hw _ (List.mem_of_getElem? (i := 6) rfl))) Via.refl e23 (Sd1.ext Ol23.2) (g := (mkF m 55 #[.val (.int pr), .val (.ref b1), .unset, .unset, .unset, .unset] [(.int (1 : Int32)), (.ref b20), (.ref b20)])) rfl (hb hby at_55)
  refine own_go (b := T24.setTop (mkF m 58 #[.val (.int pr), .val (.ref b1), .unset, .unset, .unset, .unset] [(.ref (ad 1)), (.int (1 : Int32)), (.ref b20), (.ref b20)])) st24 ?_
  obtain ⟨cl25, Ar25, qc25, Sz25, Ng25, Hs25, Ft25⟩ := V_b20_23
  have hin25 : ¬ ((1 : Int32) < 0 ∨ cl25.slots.size ≤ ((1 : Int32)).toNatClampNeg) := inb_of Sz25 ⟨by decide, by decide⟩
  obtain ⟨T26, h26, X26, e26, W26, st26⟩ := stR X24 hx hZ e24 Ar25 (j := (1 : Int32)) hin25 rfl (Sto.ofV Ar25 qc25 O20 (Ins.self ((Ed 1 (by decide)).ext Ol23.2))) (g := (mkF m 58 #[.val (.int pr), .val (.ref b1), .unset, .unset, .unset, .unset] [(.ref (ad 1)), (.int (1 : Int32)), (.ref b20), (.ref b20)])) rfl rfl (hb hby at_58)
  have V_b20_26 : Arv Z h26 b20 k20 (.object "com/example/viewgrant/viewgrant/ObjectType") (6 : Int32) [(.ref (ad 0)), (.ref (ad 1)), .null, .null, .null, .null] .null := Arv.set Ar25 qc25 Sz25 Ng25 Hs25 Ft25 rfl W26 1 rfl (Nat.le_of_ble_eq_true rfl)
  have Zs26 : n0 ≤ h26.size := Nat.le_trans Zs23 (Keep.of_wr W26).1
  have N26 := Fr.snoc X26 N23 g_b20
  have Ol26 := Ol23.wr W26 g_b20
  refine own_go (b := T26.setTop (mkF m 59 #[.val (.int pr), .val (.ref b1), .unset, .unset, .unset, .unset] [(.ref b20)])) st26 ?_
  refine own_go (b := T26.setTop (mkF m 60 #[.val (.int pr), .val (.ref b1), .unset, .unset, .unset, .unset] [(.ref b20), (.ref b20)])) (fun t k => XS.dup X26.here hx rfl (hb hby at_59) rfl rfl k) ?_
  refine own_go (b := T26.setTop (mkF m 61 #[.val (.int pr), .val (.ref b1), .unset, .unset, .unset, .unset] [(.int (2 : Int32)), (.ref b20), (.ref b20)])) (fun t k => XS.iconst X26.here hx rfl (hb hby at_60) k) ?_
  obtain ⟨T27, X27, e27, st27⟩ := getS2 X26 hx hZ hown (host := "") (Or.inl (hw _ (List.mem_of_getElem? (i := 8) rfl))) Via.refl e26 (Sd2.ext Ol26.2) (g := (mkF m 61 #[.val (.int pr), .val (.ref b1), .unset, .unset, .unset, .unset] [(.int (2 : Int32)), (.ref b20), (.ref b20)])) rfl (hb hby at_61)
  refine own_go (b := T27.setTop (mkF m 64 #[.val (.int pr), .val (.ref b1), .unset, .unset, .unset, .unset] [(.ref (ad 2)), (.int (2 : Int32)), (.ref b20), (.ref b20)])) st27 ?_
  obtain ⟨cl28, Ar28, qc28, Sz28, Ng28, Hs28, Ft28⟩ := V_b20_26
  have hin28 : ¬ ((2 : Int32) < 0 ∨ cl28.slots.size ≤ ((2 : Int32)).toNatClampNeg) := inb_of Sz28 ⟨by decide, by decide⟩
  obtain ⟨T29, h29, X29, e29, W29, st29⟩ := stR X27 hx hZ e27 Ar28 (j := (2 : Int32)) hin28 rfl (Sto.ofV Ar28 qc28 O20 (Ins.self ((Ed 2 (by decide)).ext Ol26.2))) (g := (mkF m 64 #[.val (.int pr), .val (.ref b1), .unset, .unset, .unset, .unset] [(.ref (ad 2)), (.int (2 : Int32)), (.ref b20), (.ref b20)])) rfl rfl (hb hby at_64)
  have V_b20_29 : Arv Z h29 b20 k20 (.object "com/example/viewgrant/viewgrant/ObjectType") (6 : Int32) [(.ref (ad 0)), (.ref (ad 1)), (.ref (ad 2)), .null, .null, .null] .null := Arv.set Ar28 qc28 Sz28 Ng28 Hs28 Ft28 rfl W29 2 rfl (Nat.le_of_ble_eq_true rfl)
  have Zs29 : n0 ≤ h29.size := Nat.le_trans Zs26 (Keep.of_wr W29).1
  have N29 := Fr.snoc X29 N26 g_b20
  have Ol29 := Ol26.wr W29 g_b20
  refine own_go (b := T29.setTop (mkF m 65 #[.val (.int pr), .val (.ref b1), .unset, .unset, .unset, .unset] [(.ref b20)])) st29 ?_
  refine own_go (b := T29.setTop (mkF m 66 #[.val (.int pr), .val (.ref b1), .unset, .unset, .unset, .unset] [(.ref b20), (.ref b20)])) (fun t k => XS.dup X29.here hx rfl (hb hby at_65) rfl rfl k) ?_
  refine own_go (b := T29.setTop (mkF m 67 #[.val (.int pr), .val (.ref b1), .unset, .unset, .unset, .unset] [(.int (3 : Int32)), (.ref b20), (.ref b20)])) (fun t k => XS.iconst X29.here hx rfl (hb hby at_66) k) ?_
  obtain ⟨T30, X30, e30, st30⟩ := getS2 X29 hx hZ hown (host := "") (Or.inl (hw _ (List.mem_of_getElem? (i := 10) rfl))) Via.refl e29 (Sd3.ext Ol29.2) (g := (mkF m 67 #[.val (.int pr), .val (.ref b1), .unset, .unset, .unset, .unset] [(.int (3 : Int32)), (.ref b20), (.ref b20)])) rfl (hb hby at_67)
  refine own_go (b := T30.setTop (mkF m 70 #[.val (.int pr), .val (.ref b1), .unset, .unset, .unset, .unset] [(.ref (ad 3)), (.int (3 : Int32)), (.ref b20), (.ref b20)])) st30 ?_
  obtain ⟨cl31, Ar31, qc31, Sz31, Ng31, Hs31, Ft31⟩ := V_b20_29
  have hin31 : ¬ ((3 : Int32) < 0 ∨ cl31.slots.size ≤ ((3 : Int32)).toNatClampNeg) := inb_of Sz31 ⟨by decide, by decide⟩
  obtain ⟨T32, h32, X32, e32, W32, st32⟩ := stR X30 hx hZ e30 Ar31 (j := (3 : Int32)) hin31 rfl (Sto.ofV Ar31 qc31 O20 (Ins.self ((Ed 3 (by decide)).ext Ol29.2))) (g := (mkF m 70 #[.val (.int pr), .val (.ref b1), .unset, .unset, .unset, .unset] [(.ref (ad 3)), (.int (3 : Int32)), (.ref b20), (.ref b20)])) rfl rfl (hb hby at_70)
  have V_b20_32 : Arv Z h32 b20 k20 (.object "com/example/viewgrant/viewgrant/ObjectType") (6 : Int32) [(.ref (ad 0)), (.ref (ad 1)), (.ref (ad 2)), (.ref (ad 3)), .null, .null] .null := Arv.set Ar31 qc31 Sz31 Ng31 Hs31 Ft31 rfl W32 3 rfl (Nat.le_of_ble_eq_true rfl)
  have Zs32 : n0 ≤ h32.size := Nat.le_trans Zs29 (Keep.of_wr W32).1
  have N32 := Fr.snoc X32 N29 g_b20
  have Ol32 := Ol29.wr W32 g_b20
  refine own_go (b := T32.setTop (mkF m 71 #[.val (.int pr), .val (.ref b1), .unset, .unset, .unset, .unset] [(.ref b20)])) st32 ?_
  refine own_go (b := T32.setTop (mkF m 72 #[.val (.int pr), .val (.ref b1), .unset, .unset, .unset, .unset] [(.ref b20), (.ref b20)])) (fun t k => XS.dup X32.here hx rfl (hb hby at_71) rfl rfl k) ?_
  refine own_go (b := T32.setTop (mkF m 73 #[.val (.int pr), .val (.ref b1), .unset, .unset, .unset, .unset] [(.int (4 : Int32)), (.ref b20), (.ref b20)])) (fun t k => XS.iconst X32.here hx rfl (hb hby at_72) k) ?_
  obtain ⟨T33, X33, e33, st33⟩ := getS2 X32 hx hZ hown (host := "") (Or.inl (hw _ (List.mem_of_getElem? (i := 10) rfl))) Via.refl e32 (Sd3.ext Ol32.2) (g := (mkF m 73 #[.val (.int pr), .val (.ref b1), .unset, .unset, .unset, .unset] [(.int (4 : Int32)), (.ref b20), (.ref b20)])) rfl (hb hby at_73)
  refine own_go (b := T33.setTop (mkF m 76 #[.val (.int pr), .val (.ref b1), .unset, .unset, .unset, .unset] [(.ref (ad 3)), (.int (4 : Int32)), (.ref b20), (.ref b20)])) st33 ?_
  obtain ⟨cl34, Ar34, qc34, Sz34, Ng34, Hs34, Ft34⟩ := V_b20_32
  have hin34 : ¬ ((4 : Int32) < 0 ∨ cl34.slots.size ≤ ((4 : Int32)).toNatClampNeg) := inb_of Sz34 ⟨by decide, by decide⟩
  obtain ⟨T35, h35, X35, e35, W35, st35⟩ := stR X33 hx hZ e33 Ar34 (j := (4 : Int32)) hin34 rfl (Sto.ofV Ar34 qc34 O20 (Ins.self ((Ed 3 (by decide)).ext Ol32.2))) (g := (mkF m 76 #[.val (.int pr), .val (.ref b1), .unset, .unset, .unset, .unset] [(.ref (ad 3)), (.int (4 : Int32)), (.ref b20), (.ref b20)])) rfl rfl (hb hby at_76)
  have V_b20_35 : Arv Z h35 b20 k20 (.object "com/example/viewgrant/viewgrant/ObjectType") (6 : Int32) [(.ref (ad 0)), (.ref (ad 1)), (.ref (ad 2)), (.ref (ad 3)), (.ref (ad 3)), .null] .null := Arv.set Ar34 qc34 Sz34 Ng34 Hs34 Ft34 rfl W35 4 rfl (Nat.le_of_ble_eq_true rfl)
  have Zs35 : n0 ≤ h35.size := Nat.le_trans Zs32 (Keep.of_wr W35).1
  have N35 := Fr.snoc X35 N32 g_b20
  have Ol35 := Ol32.wr W35 g_b20
  refine own_go (b := T35.setTop (mkF m 77 #[.val (.int pr), .val (.ref b1), .unset, .unset, .unset, .unset] [(.ref b20)])) st35 ?_
  refine own_go (b := T35.setTop (mkF m 78 #[.val (.int pr), .val (.ref b1), .unset, .unset, .unset, .unset] [(.ref b20), (.ref b20)])) (fun t k => XS.dup X35.here hx rfl (hb hby at_77) rfl rfl k) ?_
  refine own_go (b := T35.setTop (mkF m 79 #[.val (.int pr), .val (.ref b1), .unset, .unset, .unset, .unset] [(.int (5 : Int32)), (.ref b20), (.ref b20)])) (fun t k => XS.iconst X35.here hx rfl (hb hby at_78) k) ?_
  obtain ⟨T36, X36, e36, st36⟩ := getS2 X35 hx hZ hown (host := "") (Or.inl (hw _ (List.mem_of_getElem? (i := 14) rfl))) Via.refl e35 (Sd5.ext Ol35.2) (g := (mkF m 79 #[.val (.int pr), .val (.ref b1), .unset, .unset, .unset, .unset] [(.int (5 : Int32)), (.ref b20), (.ref b20)])) rfl (hb hby at_79)
  refine own_go (b := T36.setTop (mkF m 82 #[.val (.int pr), .val (.ref b1), .unset, .unset, .unset, .unset] [(.ref (ad 5)), (.int (5 : Int32)), (.ref b20), (.ref b20)])) st36 ?_
  obtain ⟨cl37, Ar37, qc37, Sz37, Ng37, Hs37, Ft37⟩ := V_b20_35
  have hin37 : ¬ ((5 : Int32) < 0 ∨ cl37.slots.size ≤ ((5 : Int32)).toNatClampNeg) := inb_of Sz37 ⟨by decide, by decide⟩
  obtain ⟨T38, h38, X38, e38, W38, st38⟩ := stR X36 hx hZ e36 Ar37 (j := (5 : Int32)) hin37 rfl (Sto.ofV Ar37 qc37 O20 (Ins.self ((Ed 5 (by decide)).ext Ol35.2))) (g := (mkF m 82 #[.val (.int pr), .val (.ref b1), .unset, .unset, .unset, .unset] [(.ref (ad 5)), (.int (5 : Int32)), (.ref b20), (.ref b20)])) rfl rfl (hb hby at_82)
  have V_b20_38 : Arv Z h38 b20 k20 (.object "com/example/viewgrant/viewgrant/ObjectType") (6 : Int32) [(.ref (ad 0)), (.ref (ad 1)), (.ref (ad 2)), (.ref (ad 3)), (.ref (ad 3)), (.ref (ad 5))] .null := Arv.set Ar37 qc37 Sz37 Ng37 Hs37 Ft37 rfl W38 5 rfl (Nat.le_of_ble_eq_true rfl)
  have Zs38 : n0 ≤ h38.size := Nat.le_trans Zs35 (Keep.of_wr W38).1
  have N38 := Fr.snoc X38 N35 g_b20
  have Ol38 := Ol35.wr W38 g_b20
  refine own_go (b := T38.setTop (mkF m 83 #[.val (.int pr), .val (.ref b1), .unset, .unset, .unset, .unset] [(.ref b20)])) st38 ?_
  refine own_go (b := T38.setTop (mkF m 84 #[.val (.int pr), .val (.ref b1), .val (.ref b20), .unset, .unset, .unset] [])) (fun t k => XS.astoreN X38.here hx rfl (hb hby at_83) rfl rfl (l' := #[.val (.int pr), .val (.ref b1), .val (.ref b20), .unset, .unset, .unset]) rfl k) ?_
  refine own_go (b := T38.setTop (mkF m 85 #[.val (.int pr), .val (.ref b1), .val (.ref b20), .unset, .unset, .unset] [(.int pr)])) (fun t k => XS.iloadN X38.here hx rfl (hb hby at_84) rfl  k) ?_
  refine own_go (b := T38.setTop (mkF m 87 #[.val (.int pr), .val (.ref b1), .val (.ref b20), .unset, .unset, .unset] [(.int (2147483647 : Int32)), (.int pr)])) (fun t k => X38.ldcInt hx hown (mvT hZ (hw _ (List.mem_of_getElem? (i := 16) rfl))) (g := (mkF m 85 #[.val (.int pr), .val (.ref b1), .val (.ref b20), .unset, .unset, .unset] [(.int pr)])) rfl (hb hby at_85) t k) ?_
  refine own_go (b := T38.setTop (mkF m 88 #[.val (.int pr), .val (.ref b1), .val (.ref b20), .unset, .unset, .unset] [(.int (pr &&& (2147483647 : Int32)))])) (fun t k => XS.iand X38.here hx rfl (hb hby at_87) rfl k) ?_
  refine own_go (b := T38.setTop (mkF m 90 #[.val (.int pr), .val (.ref b1), .val (.ref b20), .unset, .unset, .unset] [(.int (6 : Int32)), (.int (pr &&& (2147483647 : Int32)))])) (fun t k => XS.bipush X38.here hx rfl (hb hby at_88) k) ?_
  refine own_go (b := T38.setTop (mkF m 91 #[.val (.int pr), .val (.ref b1), .val (.ref b20), .unset, .unset, .unset] [(.int ((pr &&& (2147483647 : Int32)) % (6 : Int32)))])) (fun t k => iremM X38 hx rfl (hb hby at_90) rfl (by decide) k) ?_
  refine own_go (b := T38.setTop (mkF m 92 #[.val (.int pr), .val (.ref b1), .val (.ref b20), .val (.int ((pr &&& (2147483647 : Int32)) % (6 : Int32))), .unset, .unset] [])) (fun t k => XS.istoreN X38.here hx rfl (hb hby at_91) rfl (l' := #[.val (.int pr), .val (.ref b1), .val (.ref b20), .val (.int ((pr &&& (2147483647 : Int32)) % (6 : Int32))), .unset, .unset]) rfl k) ?_
  obtain ⟨js39, hj39, hX39⟩ := own_range pr
  match js39, hj39, hX39 with
  | 0, _, hX39 =>
    replace hX39 : ((pr &&& (2147483647 : Int32)) % (6 : Int32)) = (0 : Int32) := hX39
    rw [hX39]
    refine own_go (b := T38.setTop (mkF m 93 #[.val (.int pr), .val (.ref b1), .val (.ref b20), .val (.int (0 : Int32)), .unset, .unset] [(.ref b1)])) (fun t k => XS.aloadN X38.here hx rfl (hb hby at_92) rfl rfl k) ?_
    refine own_go (b := T38.setTop (mkF m 94 #[.val (.int pr), .val (.ref b1), .val (.ref b20), .val (.int (0 : Int32)), .unset, .unset] [(.int (0 : Int32)), (.ref b1)])) (fun t k => XS.iloadN X38.here hx rfl (hb hby at_93) rfl  k) ?_
    obtain ⟨cl40, Ar40, qc40, Sz40, Ng40, Hs40, Ft40⟩ := (((((((V_b1_19.ext E20).other W23 (Nat.ne_of_lt (Nat.lt_of_lt_of_le (V_b1_19).lt (Nat.le_of_eq g20.symm)))).other W26 (Nat.ne_of_lt (Nat.lt_of_lt_of_le (V_b1_19).lt (Nat.le_of_eq g20.symm)))).other W29 (Nat.ne_of_lt (Nat.lt_of_lt_of_le (V_b1_19).lt (Nat.le_of_eq g20.symm)))).other W32 (Nat.ne_of_lt (Nat.lt_of_lt_of_le (V_b1_19).lt (Nat.le_of_eq g20.symm)))).other W35 (Nat.ne_of_lt (Nat.lt_of_lt_of_le (V_b1_19).lt (Nat.le_of_eq g20.symm)))).other W38 (Nat.ne_of_lt (Nat.lt_of_lt_of_le (V_b1_19).lt (Nat.le_of_eq g20.symm))))
    have hin40 : ¬ ((0 : Int32) < 0 ∨ cl40.slots.size ≤ ((0 : Int32)).toNatClampNeg) := inb_of Sz40 ⟨by decide, by decide⟩
    refine own_go (b := T38.setTop (mkF m 95 #[.val (.int pr), .val (.ref b1), .val (.ref b20), .val (.int (0 : Int32)), .unset, .unset] [(.ref (ad 0))])) (fun t k => X38.aaload hx (j := (0 : Int32)) (v := (.ref (ad 0))) (by rw [e38]; exact Ar40.1) (State.isArrayOf_alike hZ.alike Ar40.2.1) rfl Ar40.2.2 hin40 (Hs40.at hin40 rfl) (g := (mkF m 94 #[.val (.int pr), .val (.ref b1), .val (.ref b20), .val (.int (0 : Int32)), .unset, .unset] [(.int (0 : Int32)), (.ref b1)])) rfl rfl (hb hby at_94) t k) ?_
    refine own_go (b := T38.setTop (mkF m 97 #[.val (.int pr), .val (.ref b1), .val (.ref b20), .val (.int (0 : Int32)), .val (.ref (ad 0)), .unset] [])) (fun t k => XS.astore X38.here hx rfl (hb hby at_95) rfl rfl (l' := #[.val (.int pr), .val (.ref b1), .val (.ref b20), .val (.int (0 : Int32)), .val (.ref (ad 0)), .unset]) rfl k) ?_
    refine own_go (b := T38.setTop (mkF m 99 #[.val (.int pr), .val (.ref b1), .val (.ref b20), .val (.int (0 : Int32)), .val (.ref (ad 0)), .unset] [(.ref (ad 0))])) (fun t k => XS.aload X38.here hx rfl (hb hby at_97) rfl rfl k) ?_
    obtain ⟨cq41, kq41, q41a, q41b, q41c⟩ := isOf hZ e38 ((Ed 0 (by decide)).ext Ol38.2)
    obtain ⟨_, _, ⟨T41, L41, k41, n41⟩, -, X41, ⟨Lc41, hQ41, l41, y41, z41⟩, st41⟩ := X38.virtualBack hx (y := (⟨"com/example/viewgrant/viewgrant/ObjectType", "recordType", "()Lcom/example/viewgrant/viewgrant/ObjectType;"⟩ : MethodName)) (z := (⟨"com/example/viewgrant/viewgrant/ObjectType", "recordType", "()Lcom/example/viewgrant/viewgrant/ObjectType;"⟩ : MethodName)) hown (mvT hZ (hw _ (List.mem_of_getElem? (i := 17) rfl))) (mvT hZ (hw _ (List.mem_of_getElem? (i := 18) rfl))) (notFace_of_selects (args := #[]) (mvT hZ (hw _ (List.mem_of_getElem? (i := 20) rfl)))) (mvT hZ (hw _ (List.mem_of_getElem? (i := 20) rfl))) (mvT hZ (hw _ (List.mem_of_getElem? (i := 19) rfl))) (by decide) (backOf (W := 0) (rm1 l Z a0 hw [] (ad 0) ad h38 n0 Zs38 (Sd3.ext Ol38.2) (Sd4.ext Ol38.2)) hZ (hw _ (List.mem_of_getElem? (i := 21) rfl)) (hw _ (List.mem_of_getElem? (i := 3) rfl)) (by decide) (by decide)) q41a q41c (g := (mkF m 99 #[.val (.int pr), .val (.ref b1), .val (.ref b20), .val (.int (0 : Int32)), .val (.ref (ad 0)), .unset] [(.ref (ad 0))])) rfl (by rw [hml]; rfl) (Steps.refl _) (argsL := []) (rest := []) (lenOf pd_0 rfl) rfl (by show 2 * 0 + _ ≤ _; exact Nat.le_of_eq rfl) (hb hby at_99) (fun _ _ => ⟨rfl, e38, (by decide : 2 + 0 ≤ _), (by decide : 12 + 0 ≤ _)⟩)
    dsimp only [Pt.U, Pt.locs, Pt.cells, Pt.slots] at X41 l41 y41 z41 st41 hQ41
    subst l41 y41 z41
    obtain ⟨rfl, N41q, e41⟩ := hQ41
    have N41 := Fr.app N38 N41q
    refine own_tr (b := T41.setTop (mkF m 102 #[.val (.int pr), .val (.ref b1), .val (.ref b20), .val (.int (0 : Int32)), .val (.ref (ad 0)), .unset] [(.ref (own_rt ad (ad 0)))])) st41 ?_
    rw [show own_rt ad (ad 0) = ad 0 from by simp [own_rt, hinj]]
    refine own_go (b := T41.setTop (mkF m 104 #[.val (.int pr), .val (.ref b1), .val (.ref b20), .val (.int (0 : Int32)), .val (.ref (ad 0)), .val (.ref (ad 0))] [])) (fun t k => XS.astore X41.here hx rfl (hb hby at_102) rfl rfl (l' := #[.val (.int pr), .val (.ref b1), .val (.ref b20), .val (.int (0 : Int32)), .val (.ref (ad 0)), .val (.ref (ad 0))]) rfl k) ?_
    refine own_go (b := T41.setTop (mkF m 106 #[.val (.int pr), .val (.ref b1), .val (.ref b20), .val (.int (0 : Int32)), .val (.ref (ad 0)), .val (.ref (ad 0))] [(.ref (ad 0))])) (fun t k => XS.aload X41.here hx rfl (hb hby at_104) rfl rfl k) ?_
    refine own_go (b := T41.setTop (mkF m 107 #[.val (.int pr), .val (.ref b1), .val (.ref b20), .val (.int (0 : Int32)), .val (.ref (ad 0)), .val (.ref (ad 0))] [(.ref b20), (.ref (ad 0))])) (fun t k => XS.aloadN X41.here hx rfl (hb hby at_106) rfl rfl k) ?_
    refine own_go (b := T41.setTop (mkF m 108 #[.val (.int pr), .val (.ref b1), .val (.ref b20), .val (.int (0 : Int32)), .val (.ref (ad 0)), .val (.ref (ad 0))] [(.int (0 : Int32)), (.ref b20), (.ref (ad 0))])) (fun t k => XS.iloadN X41.here hx rfl (hb hby at_107) rfl  k) ?_
    obtain ⟨cl42, Ar42, qc42, Sz42, Ng42, Hs42, Ft42⟩ := V_b20_38
    have hin42 : ¬ ((0 : Int32) < 0 ∨ cl42.slots.size ≤ ((0 : Int32)).toNatClampNeg) := inb_of Sz42 ⟨by decide, by decide⟩
    refine own_go (b := T41.setTop (mkF m 109 #[.val (.int pr), .val (.ref b1), .val (.ref b20), .val (.int (0 : Int32)), .val (.ref (ad 0)), .val (.ref (ad 0))] [(.ref (ad 0)), (.ref (ad 0))])) (fun t k => X41.aaload hx (j := (0 : Int32)) (v := (.ref (ad 0))) (by rw [e41]; exact Ar42.1) (State.isArrayOf_alike hZ.alike Ar42.2.1) rfl Ar42.2.2 hin42 (Hs42.at hin42 rfl) (g := (mkF m 108 #[.val (.int pr), .val (.ref b1), .val (.ref b20), .val (.int (0 : Int32)), .val (.ref (ad 0)), .val (.ref (ad 0))] [(.int (0 : Int32)), (.ref b20), (.ref (ad 0))])) rfl rfl (hb hby at_108) t k) ?_
    refine own_go (b := T41.setTop (mkF m 112 #[.val (.int pr), .val (.ref b1), .val (.ref b20), .val (.int (0 : Int32)), .val (.ref (ad 0)), .val (.ref (ad 0))] [])) (fun t k => Jvm.RoadKit.acmp (g := (mkF m 109 #[.val (.int pr), .val (.ref b1), .val (.ref b20), .val (.int (0 : Int32)), .val (.ref (ad 0)), .val (.ref (ad 0))] [(.ref (ad 0)), (.ref (ad 0))])) X41 hx rfl rfl rfl (pc0 := 109) (pc' := 112) (same := true) rfl (hb hby at_109) rfl (decide_eq_true rfl) (by decide) (by decide) k) ?_
    refine own_go (b := T41.setTop (mkF m 114 #[.val (.int pr), .val (.ref b1), .val (.ref b20), .val (.int (0 : Int32)), .val (.ref (ad 0)), .val (.ref (ad 0))] [(.ref (ad 0))])) (fun t k => XS.aload X41.here hx rfl (hb hby at_112) rfl rfl k) ?_
    obtain ⟨cq43, kq43, q43a, q43b, q43c⟩ := isOf hZ e41 ((Ed 0 (by decide)).ext Ol38.2)
    obtain ⟨_, _, ⟨T43, L43, k43, n43⟩, -, X43, ⟨Lc43, hQ43, l43, y43, z43⟩, st43⟩ := X41.virtualBack hx (y := (⟨"com/example/viewgrant/viewgrant/ObjectType", "recordType", "()Lcom/example/viewgrant/viewgrant/ObjectType;"⟩ : MethodName)) (z := (⟨"com/example/viewgrant/viewgrant/ObjectType", "recordType", "()Lcom/example/viewgrant/viewgrant/ObjectType;"⟩ : MethodName)) hown (mvT hZ (hw _ (List.mem_of_getElem? (i := 17) rfl))) (mvT hZ (hw _ (List.mem_of_getElem? (i := 18) rfl))) (notFace_of_selects (args := #[]) (mvT hZ (hw _ (List.mem_of_getElem? (i := 20) rfl)))) (mvT hZ (hw _ (List.mem_of_getElem? (i := 20) rfl))) (mvT hZ (hw _ (List.mem_of_getElem? (i := 19) rfl))) (by decide) (backOf (W := 0) (rm1 l Z a0 hw [] (ad 0) ad h38 n0 Zs38 (Sd3.ext Ol38.2) (Sd4.ext Ol38.2)) hZ (hw _ (List.mem_of_getElem? (i := 21) rfl)) (hw _ (List.mem_of_getElem? (i := 3) rfl)) (by decide) (by decide)) q43a q43c (g := (mkF m 114 #[.val (.int pr), .val (.ref b1), .val (.ref b20), .val (.int (0 : Int32)), .val (.ref (ad 0)), .val (.ref (ad 0))] [(.ref (ad 0))])) rfl (by rw [hml]; rfl) (Steps.refl _) (argsL := []) (rest := []) (lenOf pd_0 rfl) rfl (by show 2 * 0 + _ ≤ _; exact Nat.le_of_eq rfl) (hb hby at_114) (fun _ _ => ⟨rfl, e41, (by decide : 2 + 0 ≤ _), (by decide : 12 + 0 ≤ _)⟩)
    dsimp only [Pt.U, Pt.locs, Pt.cells, Pt.slots] at X43 l43 y43 z43 st43 hQ43
    subst l43 y43 z43
    obtain ⟨rfl, N43q, e43⟩ := hQ43
    have N43 := Fr.app N41 N43q
    refine own_tr (b := T43.setTop (mkF m 117 #[.val (.int pr), .val (.ref b1), .val (.ref b20), .val (.int (0 : Int32)), .val (.ref (ad 0)), .val (.ref (ad 0))] [(.ref (own_rt ad (ad 0)))])) st43 ?_
    rw [show own_rt ad (ad 0) = ad 0 from by simp [own_rt, hinj]]
    refine own_go (b := T43.setTop (mkF m 119 #[.val (.int pr), .val (.ref b1), .val (.ref b20), .val (.int (0 : Int32)), .val (.ref (ad 0)), .val (.ref (ad 0))] [(.ref (ad 0)), (.ref (ad 0))])) (fun t k => XS.aload X43.here hx rfl (hb hby at_117) rfl rfl k) ?_
    refine own_go (b := T43.setTop (mkF m 122 #[.val (.int pr), .val (.ref b1), .val (.ref b20), .val (.int (0 : Int32)), .val (.ref (ad 0)), .val (.ref (ad 0))] [])) (fun t k => Jvm.RoadKit.acmp (g := (mkF m 119 #[.val (.int pr), .val (.ref b1), .val (.ref b20), .val (.int (0 : Int32)), .val (.ref (ad 0)), .val (.ref (ad 0))] [(.ref (ad 0)), (.ref (ad 0))])) X43 hx rfl rfl rfl (pc0 := 119) (pc' := 122) (same := true) rfl (hb hby at_119) rfl (decide_eq_true rfl) (by decide) (by decide) k) ?_
    refine own_go (b := T43.setTop (mkF m 123 #[.val (.int pr), .val (.ref b1), .val (.ref b20), .val (.int (0 : Int32)), .val (.ref (ad 0)), .val (.ref (ad 0))] [(.int (1 : Int32))])) (fun t k => XS.iconst X43.here hx rfl (hb hby at_122) k) ?_
    refine own_go (b := T43.setTop (mkF m 127 #[.val (.int pr), .val (.ref b1), .val (.ref b20), .val (.int (0 : Int32)), .val (.ref (ad 0)), .val (.ref (ad 0))] [(.int (1 : Int32))])) (fun t k => XS.goto X43.here hx rfl (pc0 := 123) (pc' := 127) rfl (hb hby at_123) (by decide) (by decide) k) ?_
    exact own_retN X43 hx hlk (t := .boolean) hrt (by simp) (hb hby at_127) (Nat.le_of_ble_eq_true rfl) (Nat.le_of_ble_eq_true rfl) (⟨rfl, N43⟩)
  | 1, _, hX39 =>
    replace hX39 : ((pr &&& (2147483647 : Int32)) % (6 : Int32)) = (1 : Int32) := hX39
    rw [hX39]
    refine own_go (b := T38.setTop (mkF m 93 #[.val (.int pr), .val (.ref b1), .val (.ref b20), .val (.int (1 : Int32)), .unset, .unset] [(.ref b1)])) (fun t k => XS.aloadN X38.here hx rfl (hb hby at_92) rfl rfl k) ?_
    refine own_go (b := T38.setTop (mkF m 94 #[.val (.int pr), .val (.ref b1), .val (.ref b20), .val (.int (1 : Int32)), .unset, .unset] [(.int (1 : Int32)), (.ref b1)])) (fun t k => XS.iloadN X38.here hx rfl (hb hby at_93) rfl  k) ?_
    obtain ⟨cl44, Ar44, qc44, Sz44, Ng44, Hs44, Ft44⟩ := (((((((V_b1_19.ext E20).other W23 (Nat.ne_of_lt (Nat.lt_of_lt_of_le (V_b1_19).lt (Nat.le_of_eq g20.symm)))).other W26 (Nat.ne_of_lt (Nat.lt_of_lt_of_le (V_b1_19).lt (Nat.le_of_eq g20.symm)))).other W29 (Nat.ne_of_lt (Nat.lt_of_lt_of_le (V_b1_19).lt (Nat.le_of_eq g20.symm)))).other W32 (Nat.ne_of_lt (Nat.lt_of_lt_of_le (V_b1_19).lt (Nat.le_of_eq g20.symm)))).other W35 (Nat.ne_of_lt (Nat.lt_of_lt_of_le (V_b1_19).lt (Nat.le_of_eq g20.symm)))).other W38 (Nat.ne_of_lt (Nat.lt_of_lt_of_le (V_b1_19).lt (Nat.le_of_eq g20.symm))))
    have hin44 : ¬ ((1 : Int32) < 0 ∨ cl44.slots.size ≤ ((1 : Int32)).toNatClampNeg) := inb_of Sz44 ⟨by decide, by decide⟩
    refine own_go (b := T38.setTop (mkF m 95 #[.val (.int pr), .val (.ref b1), .val (.ref b20), .val (.int (1 : Int32)), .unset, .unset] [(.ref (ad 1))])) (fun t k => X38.aaload hx (j := (1 : Int32)) (v := (.ref (ad 1))) (by rw [e38]; exact Ar44.1) (State.isArrayOf_alike hZ.alike Ar44.2.1) rfl Ar44.2.2 hin44 (Hs44.at hin44 rfl) (g := (mkF m 94 #[.val (.int pr), .val (.ref b1), .val (.ref b20), .val (.int (1 : Int32)), .unset, .unset] [(.int (1 : Int32)), (.ref b1)])) rfl rfl (hb hby at_94) t k) ?_
    refine own_go (b := T38.setTop (mkF m 97 #[.val (.int pr), .val (.ref b1), .val (.ref b20), .val (.int (1 : Int32)), .val (.ref (ad 1)), .unset] [])) (fun t k => XS.astore X38.here hx rfl (hb hby at_95) rfl rfl (l' := #[.val (.int pr), .val (.ref b1), .val (.ref b20), .val (.int (1 : Int32)), .val (.ref (ad 1)), .unset]) rfl k) ?_
    refine own_go (b := T38.setTop (mkF m 99 #[.val (.int pr), .val (.ref b1), .val (.ref b20), .val (.int (1 : Int32)), .val (.ref (ad 1)), .unset] [(.ref (ad 1))])) (fun t k => XS.aload X38.here hx rfl (hb hby at_97) rfl rfl k) ?_
    obtain ⟨cq45, kq45, q45a, q45b, q45c⟩ := isOf hZ e38 ((Ed 1 (by decide)).ext Ol38.2)
    obtain ⟨_, _, ⟨T45, L45, k45, n45⟩, -, X45, ⟨Lc45, hQ45, l45, y45, z45⟩, st45⟩ := X38.virtualBack hx (y := (⟨"com/example/viewgrant/viewgrant/ObjectType", "recordType", "()Lcom/example/viewgrant/viewgrant/ObjectType;"⟩ : MethodName)) (z := (⟨"com/example/viewgrant/viewgrant/ObjectType", "recordType", "()Lcom/example/viewgrant/viewgrant/ObjectType;"⟩ : MethodName)) hown (mvT hZ (hw _ (List.mem_of_getElem? (i := 17) rfl))) (mvT hZ (hw _ (List.mem_of_getElem? (i := 18) rfl))) (notFace_of_selects (args := #[]) (mvT hZ (hw _ (List.mem_of_getElem? (i := 20) rfl)))) (mvT hZ (hw _ (List.mem_of_getElem? (i := 20) rfl))) (mvT hZ (hw _ (List.mem_of_getElem? (i := 19) rfl))) (by decide) (backOf (W := 0) (rm1 l Z a0 hw [] (ad 1) ad h38 n0 Zs38 (Sd3.ext Ol38.2) (Sd4.ext Ol38.2)) hZ (hw _ (List.mem_of_getElem? (i := 21) rfl)) (hw _ (List.mem_of_getElem? (i := 3) rfl)) (by decide) (by decide)) q45a q45c (g := (mkF m 99 #[.val (.int pr), .val (.ref b1), .val (.ref b20), .val (.int (1 : Int32)), .val (.ref (ad 1)), .unset] [(.ref (ad 1))])) rfl (by rw [hml]; rfl) (Steps.refl _) (argsL := []) (rest := []) (lenOf pd_0 rfl) rfl (by show 2 * 0 + _ ≤ _; exact Nat.le_of_eq rfl) (hb hby at_99) (fun _ _ => ⟨rfl, e38, (by decide : 2 + 0 ≤ _), (by decide : 12 + 0 ≤ _)⟩)
    dsimp only [Pt.U, Pt.locs, Pt.cells, Pt.slots] at X45 l45 y45 z45 st45 hQ45
    subst l45 y45 z45
    obtain ⟨rfl, N45q, e45⟩ := hQ45
    have N45 := Fr.app N38 N45q
    refine own_tr (b := T45.setTop (mkF m 102 #[.val (.int pr), .val (.ref b1), .val (.ref b20), .val (.int (1 : Int32)), .val (.ref (ad 1)), .unset] [(.ref (own_rt ad (ad 1)))])) st45 ?_
    rw [show own_rt ad (ad 1) = ad 1 from by simp [own_rt, hinj]]
    refine own_go (b := T45.setTop (mkF m 104 #[.val (.int pr), .val (.ref b1), .val (.ref b20), .val (.int (1 : Int32)), .val (.ref (ad 1)), .val (.ref (ad 1))] [])) (fun t k => XS.astore X45.here hx rfl (hb hby at_102) rfl rfl (l' := #[.val (.int pr), .val (.ref b1), .val (.ref b20), .val (.int (1 : Int32)), .val (.ref (ad 1)), .val (.ref (ad 1))]) rfl k) ?_
    refine own_go (b := T45.setTop (mkF m 106 #[.val (.int pr), .val (.ref b1), .val (.ref b20), .val (.int (1 : Int32)), .val (.ref (ad 1)), .val (.ref (ad 1))] [(.ref (ad 1))])) (fun t k => XS.aload X45.here hx rfl (hb hby at_104) rfl rfl k) ?_
    refine own_go (b := T45.setTop (mkF m 107 #[.val (.int pr), .val (.ref b1), .val (.ref b20), .val (.int (1 : Int32)), .val (.ref (ad 1)), .val (.ref (ad 1))] [(.ref b20), (.ref (ad 1))])) (fun t k => XS.aloadN X45.here hx rfl (hb hby at_106) rfl rfl k) ?_
    refine own_go (b := T45.setTop (mkF m 108 #[.val (.int pr), .val (.ref b1), .val (.ref b20), .val (.int (1 : Int32)), .val (.ref (ad 1)), .val (.ref (ad 1))] [(.int (1 : Int32)), (.ref b20), (.ref (ad 1))])) (fun t k => XS.iloadN X45.here hx rfl (hb hby at_107) rfl  k) ?_
    obtain ⟨cl46, Ar46, qc46, Sz46, Ng46, Hs46, Ft46⟩ := V_b20_38
    have hin46 : ¬ ((1 : Int32) < 0 ∨ cl46.slots.size ≤ ((1 : Int32)).toNatClampNeg) := inb_of Sz46 ⟨by decide, by decide⟩
    refine own_go (b := T45.setTop (mkF m 109 #[.val (.int pr), .val (.ref b1), .val (.ref b20), .val (.int (1 : Int32)), .val (.ref (ad 1)), .val (.ref (ad 1))] [(.ref (ad 1)), (.ref (ad 1))])) (fun t k => X45.aaload hx (j := (1 : Int32)) (v := (.ref (ad 1))) (by rw [e45]; exact Ar46.1) (State.isArrayOf_alike hZ.alike Ar46.2.1) rfl Ar46.2.2 hin46 (Hs46.at hin46 rfl) (g := (mkF m 108 #[.val (.int pr), .val (.ref b1), .val (.ref b20), .val (.int (1 : Int32)), .val (.ref (ad 1)), .val (.ref (ad 1))] [(.int (1 : Int32)), (.ref b20), (.ref (ad 1))])) rfl rfl (hb hby at_108) t k) ?_
    refine own_go (b := T45.setTop (mkF m 112 #[.val (.int pr), .val (.ref b1), .val (.ref b20), .val (.int (1 : Int32)), .val (.ref (ad 1)), .val (.ref (ad 1))] [])) (fun t k => Jvm.RoadKit.acmp (g := (mkF m 109 #[.val (.int pr), .val (.ref b1), .val (.ref b20), .val (.int (1 : Int32)), .val (.ref (ad 1)), .val (.ref (ad 1))] [(.ref (ad 1)), (.ref (ad 1))])) X45 hx rfl rfl rfl (pc0 := 109) (pc' := 112) (same := true) rfl (hb hby at_109) rfl (decide_eq_true rfl) (by decide) (by decide) k) ?_
    refine own_go (b := T45.setTop (mkF m 114 #[.val (.int pr), .val (.ref b1), .val (.ref b20), .val (.int (1 : Int32)), .val (.ref (ad 1)), .val (.ref (ad 1))] [(.ref (ad 1))])) (fun t k => XS.aload X45.here hx rfl (hb hby at_112) rfl rfl k) ?_
    obtain ⟨cq47, kq47, q47a, q47b, q47c⟩ := isOf hZ e45 ((Ed 1 (by decide)).ext Ol38.2)
    obtain ⟨_, _, ⟨T47, L47, k47, n47⟩, -, X47, ⟨Lc47, hQ47, l47, y47, z47⟩, st47⟩ := X45.virtualBack hx (y := (⟨"com/example/viewgrant/viewgrant/ObjectType", "recordType", "()Lcom/example/viewgrant/viewgrant/ObjectType;"⟩ : MethodName)) (z := (⟨"com/example/viewgrant/viewgrant/ObjectType", "recordType", "()Lcom/example/viewgrant/viewgrant/ObjectType;"⟩ : MethodName)) hown (mvT hZ (hw _ (List.mem_of_getElem? (i := 17) rfl))) (mvT hZ (hw _ (List.mem_of_getElem? (i := 18) rfl))) (notFace_of_selects (args := #[]) (mvT hZ (hw _ (List.mem_of_getElem? (i := 20) rfl)))) (mvT hZ (hw _ (List.mem_of_getElem? (i := 20) rfl))) (mvT hZ (hw _ (List.mem_of_getElem? (i := 19) rfl))) (by decide) (backOf (W := 0) (rm1 l Z a0 hw [] (ad 1) ad h38 n0 Zs38 (Sd3.ext Ol38.2) (Sd4.ext Ol38.2)) hZ (hw _ (List.mem_of_getElem? (i := 21) rfl)) (hw _ (List.mem_of_getElem? (i := 3) rfl)) (by decide) (by decide)) q47a q47c (g := (mkF m 114 #[.val (.int pr), .val (.ref b1), .val (.ref b20), .val (.int (1 : Int32)), .val (.ref (ad 1)), .val (.ref (ad 1))] [(.ref (ad 1))])) rfl (by rw [hml]; rfl) (Steps.refl _) (argsL := []) (rest := []) (lenOf pd_0 rfl) rfl (by show 2 * 0 + _ ≤ _; exact Nat.le_of_eq rfl) (hb hby at_114) (fun _ _ => ⟨rfl, e45, (by decide : 2 + 0 ≤ _), (by decide : 12 + 0 ≤ _)⟩)
    dsimp only [Pt.U, Pt.locs, Pt.cells, Pt.slots] at X47 l47 y47 z47 st47 hQ47
    subst l47 y47 z47
    obtain ⟨rfl, N47q, e47⟩ := hQ47
    have N47 := Fr.app N45 N47q
    refine own_tr (b := T47.setTop (mkF m 117 #[.val (.int pr), .val (.ref b1), .val (.ref b20), .val (.int (1 : Int32)), .val (.ref (ad 1)), .val (.ref (ad 1))] [(.ref (own_rt ad (ad 1)))])) st47 ?_
    rw [show own_rt ad (ad 1) = ad 1 from by simp [own_rt, hinj]]
    refine own_go (b := T47.setTop (mkF m 119 #[.val (.int pr), .val (.ref b1), .val (.ref b20), .val (.int (1 : Int32)), .val (.ref (ad 1)), .val (.ref (ad 1))] [(.ref (ad 1)), (.ref (ad 1))])) (fun t k => XS.aload X47.here hx rfl (hb hby at_117) rfl rfl k) ?_
    refine own_go (b := T47.setTop (mkF m 122 #[.val (.int pr), .val (.ref b1), .val (.ref b20), .val (.int (1 : Int32)), .val (.ref (ad 1)), .val (.ref (ad 1))] [])) (fun t k => Jvm.RoadKit.acmp (g := (mkF m 119 #[.val (.int pr), .val (.ref b1), .val (.ref b20), .val (.int (1 : Int32)), .val (.ref (ad 1)), .val (.ref (ad 1))] [(.ref (ad 1)), (.ref (ad 1))])) X47 hx rfl rfl rfl (pc0 := 119) (pc' := 122) (same := true) rfl (hb hby at_119) rfl (decide_eq_true rfl) (by decide) (by decide) k) ?_
    refine own_go (b := T47.setTop (mkF m 123 #[.val (.int pr), .val (.ref b1), .val (.ref b20), .val (.int (1 : Int32)), .val (.ref (ad 1)), .val (.ref (ad 1))] [(.int (1 : Int32))])) (fun t k => XS.iconst X47.here hx rfl (hb hby at_122) k) ?_
    refine own_go (b := T47.setTop (mkF m 127 #[.val (.int pr), .val (.ref b1), .val (.ref b20), .val (.int (1 : Int32)), .val (.ref (ad 1)), .val (.ref (ad 1))] [(.int (1 : Int32))])) (fun t k => XS.goto X47.here hx rfl (pc0 := 123) (pc' := 127) rfl (hb hby at_123) (by decide) (by decide) k) ?_
    exact own_retN X47 hx hlk (t := .boolean) hrt (by simp) (hb hby at_127) (Nat.le_of_ble_eq_true rfl) (Nat.le_of_ble_eq_true rfl) (⟨rfl, N47⟩)
  | 2, _, hX39 =>
    replace hX39 : ((pr &&& (2147483647 : Int32)) % (6 : Int32)) = (2 : Int32) := hX39
    rw [hX39]
    refine own_go (b := T38.setTop (mkF m 93 #[.val (.int pr), .val (.ref b1), .val (.ref b20), .val (.int (2 : Int32)), .unset, .unset] [(.ref b1)])) (fun t k => XS.aloadN X38.here hx rfl (hb hby at_92) rfl rfl k) ?_
    refine own_go (b := T38.setTop (mkF m 94 #[.val (.int pr), .val (.ref b1), .val (.ref b20), .val (.int (2 : Int32)), .unset, .unset] [(.int (2 : Int32)), (.ref b1)])) (fun t k => XS.iloadN X38.here hx rfl (hb hby at_93) rfl  k) ?_
    obtain ⟨cl48, Ar48, qc48, Sz48, Ng48, Hs48, Ft48⟩ := (((((((V_b1_19.ext E20).other W23 (Nat.ne_of_lt (Nat.lt_of_lt_of_le (V_b1_19).lt (Nat.le_of_eq g20.symm)))).other W26 (Nat.ne_of_lt (Nat.lt_of_lt_of_le (V_b1_19).lt (Nat.le_of_eq g20.symm)))).other W29 (Nat.ne_of_lt (Nat.lt_of_lt_of_le (V_b1_19).lt (Nat.le_of_eq g20.symm)))).other W32 (Nat.ne_of_lt (Nat.lt_of_lt_of_le (V_b1_19).lt (Nat.le_of_eq g20.symm)))).other W35 (Nat.ne_of_lt (Nat.lt_of_lt_of_le (V_b1_19).lt (Nat.le_of_eq g20.symm)))).other W38 (Nat.ne_of_lt (Nat.lt_of_lt_of_le (V_b1_19).lt (Nat.le_of_eq g20.symm))))
    have hin48 : ¬ ((2 : Int32) < 0 ∨ cl48.slots.size ≤ ((2 : Int32)).toNatClampNeg) := inb_of Sz48 ⟨by decide, by decide⟩
    refine own_go (b := T38.setTop (mkF m 95 #[.val (.int pr), .val (.ref b1), .val (.ref b20), .val (.int (2 : Int32)), .unset, .unset] [(.ref (ad 2))])) (fun t k => X38.aaload hx (j := (2 : Int32)) (v := (.ref (ad 2))) (by rw [e38]; exact Ar48.1) (State.isArrayOf_alike hZ.alike Ar48.2.1) rfl Ar48.2.2 hin48 (Hs48.at hin48 rfl) (g := (mkF m 94 #[.val (.int pr), .val (.ref b1), .val (.ref b20), .val (.int (2 : Int32)), .unset, .unset] [(.int (2 : Int32)), (.ref b1)])) rfl rfl (hb hby at_94) t k) ?_
    refine own_go (b := T38.setTop (mkF m 97 #[.val (.int pr), .val (.ref b1), .val (.ref b20), .val (.int (2 : Int32)), .val (.ref (ad 2)), .unset] [])) (fun t k => XS.astore X38.here hx rfl (hb hby at_95) rfl rfl (l' := #[.val (.int pr), .val (.ref b1), .val (.ref b20), .val (.int (2 : Int32)), .val (.ref (ad 2)), .unset]) rfl k) ?_
    refine own_go (b := T38.setTop (mkF m 99 #[.val (.int pr), .val (.ref b1), .val (.ref b20), .val (.int (2 : Int32)), .val (.ref (ad 2)), .unset] [(.ref (ad 2))])) (fun t k => XS.aload X38.here hx rfl (hb hby at_97) rfl rfl k) ?_
    obtain ⟨cq49, kq49, q49a, q49b, q49c⟩ := isOf hZ e38 ((Ed 2 (by decide)).ext Ol38.2)
    obtain ⟨_, _, ⟨T49, L49, k49, n49⟩, -, X49, ⟨Lc49, hQ49, l49, y49, z49⟩, st49⟩ := X38.virtualBack hx (y := (⟨"com/example/viewgrant/viewgrant/ObjectType", "recordType", "()Lcom/example/viewgrant/viewgrant/ObjectType;"⟩ : MethodName)) (z := (⟨"com/example/viewgrant/viewgrant/ObjectType", "recordType", "()Lcom/example/viewgrant/viewgrant/ObjectType;"⟩ : MethodName)) hown (mvT hZ (hw _ (List.mem_of_getElem? (i := 17) rfl))) (mvT hZ (hw _ (List.mem_of_getElem? (i := 18) rfl))) (notFace_of_selects (args := #[]) (mvT hZ (hw _ (List.mem_of_getElem? (i := 20) rfl)))) (mvT hZ (hw _ (List.mem_of_getElem? (i := 20) rfl))) (mvT hZ (hw _ (List.mem_of_getElem? (i := 19) rfl))) (by decide) (backOf (W := 0) (rm1 l Z a0 hw [] (ad 2) ad h38 n0 Zs38 (Sd3.ext Ol38.2) (Sd4.ext Ol38.2)) hZ (hw _ (List.mem_of_getElem? (i := 21) rfl)) (hw _ (List.mem_of_getElem? (i := 3) rfl)) (by decide) (by decide)) q49a q49c (g := (mkF m 99 #[.val (.int pr), .val (.ref b1), .val (.ref b20), .val (.int (2 : Int32)), .val (.ref (ad 2)), .unset] [(.ref (ad 2))])) rfl (by rw [hml]; rfl) (Steps.refl _) (argsL := []) (rest := []) (lenOf pd_0 rfl) rfl (by show 2 * 0 + _ ≤ _; exact Nat.le_of_eq rfl) (hb hby at_99) (fun _ _ => ⟨rfl, e38, (by decide : 2 + 0 ≤ _), (by decide : 12 + 0 ≤ _)⟩)
    dsimp only [Pt.U, Pt.locs, Pt.cells, Pt.slots] at X49 l49 y49 z49 st49 hQ49
    subst l49 y49 z49
    obtain ⟨rfl, N49q, e49⟩ := hQ49
    have N49 := Fr.app N38 N49q
    refine own_tr (b := T49.setTop (mkF m 102 #[.val (.int pr), .val (.ref b1), .val (.ref b20), .val (.int (2 : Int32)), .val (.ref (ad 2)), .unset] [(.ref (own_rt ad (ad 2)))])) st49 ?_
    rw [show own_rt ad (ad 2) = ad 2 from by simp [own_rt, hinj]]
    refine own_go (b := T49.setTop (mkF m 104 #[.val (.int pr), .val (.ref b1), .val (.ref b20), .val (.int (2 : Int32)), .val (.ref (ad 2)), .val (.ref (ad 2))] [])) (fun t k => XS.astore X49.here hx rfl (hb hby at_102) rfl rfl (l' := #[.val (.int pr), .val (.ref b1), .val (.ref b20), .val (.int (2 : Int32)), .val (.ref (ad 2)), .val (.ref (ad 2))]) rfl k) ?_
    refine own_go (b := T49.setTop (mkF m 106 #[.val (.int pr), .val (.ref b1), .val (.ref b20), .val (.int (2 : Int32)), .val (.ref (ad 2)), .val (.ref (ad 2))] [(.ref (ad 2))])) (fun t k => XS.aload X49.here hx rfl (hb hby at_104) rfl rfl k) ?_
    refine own_go (b := T49.setTop (mkF m 107 #[.val (.int pr), .val (.ref b1), .val (.ref b20), .val (.int (2 : Int32)), .val (.ref (ad 2)), .val (.ref (ad 2))] [(.ref b20), (.ref (ad 2))])) (fun t k => XS.aloadN X49.here hx rfl (hb hby at_106) rfl rfl k) ?_
    refine own_go (b := T49.setTop (mkF m 108 #[.val (.int pr), .val (.ref b1), .val (.ref b20), .val (.int (2 : Int32)), .val (.ref (ad 2)), .val (.ref (ad 2))] [(.int (2 : Int32)), (.ref b20), (.ref (ad 2))])) (fun t k => XS.iloadN X49.here hx rfl (hb hby at_107) rfl  k) ?_
    obtain ⟨cl50, Ar50, qc50, Sz50, Ng50, Hs50, Ft50⟩ := V_b20_38
    have hin50 : ¬ ((2 : Int32) < 0 ∨ cl50.slots.size ≤ ((2 : Int32)).toNatClampNeg) := inb_of Sz50 ⟨by decide, by decide⟩
    refine own_go (b := T49.setTop (mkF m 109 #[.val (.int pr), .val (.ref b1), .val (.ref b20), .val (.int (2 : Int32)), .val (.ref (ad 2)), .val (.ref (ad 2))] [(.ref (ad 2)), (.ref (ad 2))])) (fun t k => X49.aaload hx (j := (2 : Int32)) (v := (.ref (ad 2))) (by rw [e49]; exact Ar50.1) (State.isArrayOf_alike hZ.alike Ar50.2.1) rfl Ar50.2.2 hin50 (Hs50.at hin50 rfl) (g := (mkF m 108 #[.val (.int pr), .val (.ref b1), .val (.ref b20), .val (.int (2 : Int32)), .val (.ref (ad 2)), .val (.ref (ad 2))] [(.int (2 : Int32)), (.ref b20), (.ref (ad 2))])) rfl rfl (hb hby at_108) t k) ?_
    refine own_go (b := T49.setTop (mkF m 112 #[.val (.int pr), .val (.ref b1), .val (.ref b20), .val (.int (2 : Int32)), .val (.ref (ad 2)), .val (.ref (ad 2))] [])) (fun t k => Jvm.RoadKit.acmp (g := (mkF m 109 #[.val (.int pr), .val (.ref b1), .val (.ref b20), .val (.int (2 : Int32)), .val (.ref (ad 2)), .val (.ref (ad 2))] [(.ref (ad 2)), (.ref (ad 2))])) X49 hx rfl rfl rfl (pc0 := 109) (pc' := 112) (same := true) rfl (hb hby at_109) rfl (decide_eq_true rfl) (by decide) (by decide) k) ?_
    refine own_go (b := T49.setTop (mkF m 114 #[.val (.int pr), .val (.ref b1), .val (.ref b20), .val (.int (2 : Int32)), .val (.ref (ad 2)), .val (.ref (ad 2))] [(.ref (ad 2))])) (fun t k => XS.aload X49.here hx rfl (hb hby at_112) rfl rfl k) ?_
    obtain ⟨cq51, kq51, q51a, q51b, q51c⟩ := isOf hZ e49 ((Ed 2 (by decide)).ext Ol38.2)
    obtain ⟨_, _, ⟨T51, L51, k51, n51⟩, -, X51, ⟨Lc51, hQ51, l51, y51, z51⟩, st51⟩ := X49.virtualBack hx (y := (⟨"com/example/viewgrant/viewgrant/ObjectType", "recordType", "()Lcom/example/viewgrant/viewgrant/ObjectType;"⟩ : MethodName)) (z := (⟨"com/example/viewgrant/viewgrant/ObjectType", "recordType", "()Lcom/example/viewgrant/viewgrant/ObjectType;"⟩ : MethodName)) hown (mvT hZ (hw _ (List.mem_of_getElem? (i := 17) rfl))) (mvT hZ (hw _ (List.mem_of_getElem? (i := 18) rfl))) (notFace_of_selects (args := #[]) (mvT hZ (hw _ (List.mem_of_getElem? (i := 20) rfl)))) (mvT hZ (hw _ (List.mem_of_getElem? (i := 20) rfl))) (mvT hZ (hw _ (List.mem_of_getElem? (i := 19) rfl))) (by decide) (backOf (W := 0) (rm1 l Z a0 hw [] (ad 2) ad h38 n0 Zs38 (Sd3.ext Ol38.2) (Sd4.ext Ol38.2)) hZ (hw _ (List.mem_of_getElem? (i := 21) rfl)) (hw _ (List.mem_of_getElem? (i := 3) rfl)) (by decide) (by decide)) q51a q51c (g := (mkF m 114 #[.val (.int pr), .val (.ref b1), .val (.ref b20), .val (.int (2 : Int32)), .val (.ref (ad 2)), .val (.ref (ad 2))] [(.ref (ad 2))])) rfl (by rw [hml]; rfl) (Steps.refl _) (argsL := []) (rest := []) (lenOf pd_0 rfl) rfl (by show 2 * 0 + _ ≤ _; exact Nat.le_of_eq rfl) (hb hby at_114) (fun _ _ => ⟨rfl, e49, (by decide : 2 + 0 ≤ _), (by decide : 12 + 0 ≤ _)⟩)
    dsimp only [Pt.U, Pt.locs, Pt.cells, Pt.slots] at X51 l51 y51 z51 st51 hQ51
    subst l51 y51 z51
    obtain ⟨rfl, N51q, e51⟩ := hQ51
    have N51 := Fr.app N49 N51q
    refine own_tr (b := T51.setTop (mkF m 117 #[.val (.int pr), .val (.ref b1), .val (.ref b20), .val (.int (2 : Int32)), .val (.ref (ad 2)), .val (.ref (ad 2))] [(.ref (own_rt ad (ad 2)))])) st51 ?_
    rw [show own_rt ad (ad 2) = ad 2 from by simp [own_rt, hinj]]
    refine own_go (b := T51.setTop (mkF m 119 #[.val (.int pr), .val (.ref b1), .val (.ref b20), .val (.int (2 : Int32)), .val (.ref (ad 2)), .val (.ref (ad 2))] [(.ref (ad 2)), (.ref (ad 2))])) (fun t k => XS.aload X51.here hx rfl (hb hby at_117) rfl rfl k) ?_
    refine own_go (b := T51.setTop (mkF m 122 #[.val (.int pr), .val (.ref b1), .val (.ref b20), .val (.int (2 : Int32)), .val (.ref (ad 2)), .val (.ref (ad 2))] [])) (fun t k => Jvm.RoadKit.acmp (g := (mkF m 119 #[.val (.int pr), .val (.ref b1), .val (.ref b20), .val (.int (2 : Int32)), .val (.ref (ad 2)), .val (.ref (ad 2))] [(.ref (ad 2)), (.ref (ad 2))])) X51 hx rfl rfl rfl (pc0 := 119) (pc' := 122) (same := true) rfl (hb hby at_119) rfl (decide_eq_true rfl) (by decide) (by decide) k) ?_
    refine own_go (b := T51.setTop (mkF m 123 #[.val (.int pr), .val (.ref b1), .val (.ref b20), .val (.int (2 : Int32)), .val (.ref (ad 2)), .val (.ref (ad 2))] [(.int (1 : Int32))])) (fun t k => XS.iconst X51.here hx rfl (hb hby at_122) k) ?_
    refine own_go (b := T51.setTop (mkF m 127 #[.val (.int pr), .val (.ref b1), .val (.ref b20), .val (.int (2 : Int32)), .val (.ref (ad 2)), .val (.ref (ad 2))] [(.int (1 : Int32))])) (fun t k => XS.goto X51.here hx rfl (pc0 := 123) (pc' := 127) rfl (hb hby at_123) (by decide) (by decide) k) ?_
    exact own_retN X51 hx hlk (t := .boolean) hrt (by simp) (hb hby at_127) (Nat.le_of_ble_eq_true rfl) (Nat.le_of_ble_eq_true rfl) (⟨rfl, N51⟩)
  | 3, _, hX39 =>
    replace hX39 : ((pr &&& (2147483647 : Int32)) % (6 : Int32)) = (3 : Int32) := hX39
    rw [hX39]
    refine own_go (b := T38.setTop (mkF m 93 #[.val (.int pr), .val (.ref b1), .val (.ref b20), .val (.int (3 : Int32)), .unset, .unset] [(.ref b1)])) (fun t k => XS.aloadN X38.here hx rfl (hb hby at_92) rfl rfl k) ?_
    refine own_go (b := T38.setTop (mkF m 94 #[.val (.int pr), .val (.ref b1), .val (.ref b20), .val (.int (3 : Int32)), .unset, .unset] [(.int (3 : Int32)), (.ref b1)])) (fun t k => XS.iloadN X38.here hx rfl (hb hby at_93) rfl  k) ?_
    obtain ⟨cl52, Ar52, qc52, Sz52, Ng52, Hs52, Ft52⟩ := (((((((V_b1_19.ext E20).other W23 (Nat.ne_of_lt (Nat.lt_of_lt_of_le (V_b1_19).lt (Nat.le_of_eq g20.symm)))).other W26 (Nat.ne_of_lt (Nat.lt_of_lt_of_le (V_b1_19).lt (Nat.le_of_eq g20.symm)))).other W29 (Nat.ne_of_lt (Nat.lt_of_lt_of_le (V_b1_19).lt (Nat.le_of_eq g20.symm)))).other W32 (Nat.ne_of_lt (Nat.lt_of_lt_of_le (V_b1_19).lt (Nat.le_of_eq g20.symm)))).other W35 (Nat.ne_of_lt (Nat.lt_of_lt_of_le (V_b1_19).lt (Nat.le_of_eq g20.symm)))).other W38 (Nat.ne_of_lt (Nat.lt_of_lt_of_le (V_b1_19).lt (Nat.le_of_eq g20.symm))))
    have hin52 : ¬ ((3 : Int32) < 0 ∨ cl52.slots.size ≤ ((3 : Int32)).toNatClampNeg) := inb_of Sz52 ⟨by decide, by decide⟩
    refine own_go (b := T38.setTop (mkF m 95 #[.val (.int pr), .val (.ref b1), .val (.ref b20), .val (.int (3 : Int32)), .unset, .unset] [(.ref (ad 3))])) (fun t k => X38.aaload hx (j := (3 : Int32)) (v := (.ref (ad 3))) (by rw [e38]; exact Ar52.1) (State.isArrayOf_alike hZ.alike Ar52.2.1) rfl Ar52.2.2 hin52 (Hs52.at hin52 rfl) (g := (mkF m 94 #[.val (.int pr), .val (.ref b1), .val (.ref b20), .val (.int (3 : Int32)), .unset, .unset] [(.int (3 : Int32)), (.ref b1)])) rfl rfl (hb hby at_94) t k) ?_
    refine own_go (b := T38.setTop (mkF m 97 #[.val (.int pr), .val (.ref b1), .val (.ref b20), .val (.int (3 : Int32)), .val (.ref (ad 3)), .unset] [])) (fun t k => XS.astore X38.here hx rfl (hb hby at_95) rfl rfl (l' := #[.val (.int pr), .val (.ref b1), .val (.ref b20), .val (.int (3 : Int32)), .val (.ref (ad 3)), .unset]) rfl k) ?_
    refine own_go (b := T38.setTop (mkF m 99 #[.val (.int pr), .val (.ref b1), .val (.ref b20), .val (.int (3 : Int32)), .val (.ref (ad 3)), .unset] [(.ref (ad 3))])) (fun t k => XS.aload X38.here hx rfl (hb hby at_97) rfl rfl k) ?_
    obtain ⟨cq53, kq53, q53a, q53b, q53c⟩ := isOf hZ e38 ((Ed 3 (by decide)).ext Ol38.2)
    obtain ⟨_, _, ⟨T53, L53, k53, n53⟩, -, X53, ⟨Lc53, hQ53, l53, y53, z53⟩, st53⟩ := X38.virtualBack hx (y := (⟨"com/example/viewgrant/viewgrant/ObjectType", "recordType", "()Lcom/example/viewgrant/viewgrant/ObjectType;"⟩ : MethodName)) (z := (⟨"com/example/viewgrant/viewgrant/ObjectType", "recordType", "()Lcom/example/viewgrant/viewgrant/ObjectType;"⟩ : MethodName)) hown (mvT hZ (hw _ (List.mem_of_getElem? (i := 17) rfl))) (mvT hZ (hw _ (List.mem_of_getElem? (i := 18) rfl))) (notFace_of_selects (args := #[]) (mvT hZ (hw _ (List.mem_of_getElem? (i := 20) rfl)))) (mvT hZ (hw _ (List.mem_of_getElem? (i := 20) rfl))) (mvT hZ (hw _ (List.mem_of_getElem? (i := 19) rfl))) (by decide) (backOf (W := 0) (rm1 l Z a0 hw [] (ad 3) ad h38 n0 Zs38 (Sd3.ext Ol38.2) (Sd4.ext Ol38.2)) hZ (hw _ (List.mem_of_getElem? (i := 21) rfl)) (hw _ (List.mem_of_getElem? (i := 3) rfl)) (by decide) (by decide)) q53a q53c (g := (mkF m 99 #[.val (.int pr), .val (.ref b1), .val (.ref b20), .val (.int (3 : Int32)), .val (.ref (ad 3)), .unset] [(.ref (ad 3))])) rfl (by rw [hml]; rfl) (Steps.refl _) (argsL := []) (rest := []) (lenOf pd_0 rfl) rfl (by show 2 * 0 + _ ≤ _; exact Nat.le_of_eq rfl) (hb hby at_99) (fun _ _ => ⟨rfl, e38, (by decide : 2 + 0 ≤ _), (by decide : 12 + 0 ≤ _)⟩)
    dsimp only [Pt.U, Pt.locs, Pt.cells, Pt.slots] at X53 l53 y53 z53 st53 hQ53
    subst l53 y53 z53
    obtain ⟨rfl, N53q, e53⟩ := hQ53
    have N53 := Fr.app N38 N53q
    refine own_tr (b := T53.setTop (mkF m 102 #[.val (.int pr), .val (.ref b1), .val (.ref b20), .val (.int (3 : Int32)), .val (.ref (ad 3)), .unset] [(.ref (own_rt ad (ad 3)))])) st53 ?_
    rw [show own_rt ad (ad 3) = ad 3 from by simp [own_rt, hinj]]
    refine own_go (b := T53.setTop (mkF m 104 #[.val (.int pr), .val (.ref b1), .val (.ref b20), .val (.int (3 : Int32)), .val (.ref (ad 3)), .val (.ref (ad 3))] [])) (fun t k => XS.astore X53.here hx rfl (hb hby at_102) rfl rfl (l' := #[.val (.int pr), .val (.ref b1), .val (.ref b20), .val (.int (3 : Int32)), .val (.ref (ad 3)), .val (.ref (ad 3))]) rfl k) ?_
    refine own_go (b := T53.setTop (mkF m 106 #[.val (.int pr), .val (.ref b1), .val (.ref b20), .val (.int (3 : Int32)), .val (.ref (ad 3)), .val (.ref (ad 3))] [(.ref (ad 3))])) (fun t k => XS.aload X53.here hx rfl (hb hby at_104) rfl rfl k) ?_
    refine own_go (b := T53.setTop (mkF m 107 #[.val (.int pr), .val (.ref b1), .val (.ref b20), .val (.int (3 : Int32)), .val (.ref (ad 3)), .val (.ref (ad 3))] [(.ref b20), (.ref (ad 3))])) (fun t k => XS.aloadN X53.here hx rfl (hb hby at_106) rfl rfl k) ?_
    refine own_go (b := T53.setTop (mkF m 108 #[.val (.int pr), .val (.ref b1), .val (.ref b20), .val (.int (3 : Int32)), .val (.ref (ad 3)), .val (.ref (ad 3))] [(.int (3 : Int32)), (.ref b20), (.ref (ad 3))])) (fun t k => XS.iloadN X53.here hx rfl (hb hby at_107) rfl  k) ?_
    obtain ⟨cl54, Ar54, qc54, Sz54, Ng54, Hs54, Ft54⟩ := V_b20_38
    have hin54 : ¬ ((3 : Int32) < 0 ∨ cl54.slots.size ≤ ((3 : Int32)).toNatClampNeg) := inb_of Sz54 ⟨by decide, by decide⟩
    refine own_go (b := T53.setTop (mkF m 109 #[.val (.int pr), .val (.ref b1), .val (.ref b20), .val (.int (3 : Int32)), .val (.ref (ad 3)), .val (.ref (ad 3))] [(.ref (ad 3)), (.ref (ad 3))])) (fun t k => X53.aaload hx (j := (3 : Int32)) (v := (.ref (ad 3))) (by rw [e53]; exact Ar54.1) (State.isArrayOf_alike hZ.alike Ar54.2.1) rfl Ar54.2.2 hin54 (Hs54.at hin54 rfl) (g := (mkF m 108 #[.val (.int pr), .val (.ref b1), .val (.ref b20), .val (.int (3 : Int32)), .val (.ref (ad 3)), .val (.ref (ad 3))] [(.int (3 : Int32)), (.ref b20), (.ref (ad 3))])) rfl rfl (hb hby at_108) t k) ?_
    refine own_go (b := T53.setTop (mkF m 112 #[.val (.int pr), .val (.ref b1), .val (.ref b20), .val (.int (3 : Int32)), .val (.ref (ad 3)), .val (.ref (ad 3))] [])) (fun t k => Jvm.RoadKit.acmp (g := (mkF m 109 #[.val (.int pr), .val (.ref b1), .val (.ref b20), .val (.int (3 : Int32)), .val (.ref (ad 3)), .val (.ref (ad 3))] [(.ref (ad 3)), (.ref (ad 3))])) X53 hx rfl rfl rfl (pc0 := 109) (pc' := 112) (same := true) rfl (hb hby at_109) rfl (decide_eq_true rfl) (by decide) (by decide) k) ?_
    refine own_go (b := T53.setTop (mkF m 114 #[.val (.int pr), .val (.ref b1), .val (.ref b20), .val (.int (3 : Int32)), .val (.ref (ad 3)), .val (.ref (ad 3))] [(.ref (ad 3))])) (fun t k => XS.aload X53.here hx rfl (hb hby at_112) rfl rfl k) ?_
    obtain ⟨cq55, kq55, q55a, q55b, q55c⟩ := isOf hZ e53 ((Ed 3 (by decide)).ext Ol38.2)
    obtain ⟨_, _, ⟨T55, L55, k55, n55⟩, -, X55, ⟨Lc55, hQ55, l55, y55, z55⟩, st55⟩ := X53.virtualBack hx (y := (⟨"com/example/viewgrant/viewgrant/ObjectType", "recordType", "()Lcom/example/viewgrant/viewgrant/ObjectType;"⟩ : MethodName)) (z := (⟨"com/example/viewgrant/viewgrant/ObjectType", "recordType", "()Lcom/example/viewgrant/viewgrant/ObjectType;"⟩ : MethodName)) hown (mvT hZ (hw _ (List.mem_of_getElem? (i := 17) rfl))) (mvT hZ (hw _ (List.mem_of_getElem? (i := 18) rfl))) (notFace_of_selects (args := #[]) (mvT hZ (hw _ (List.mem_of_getElem? (i := 20) rfl)))) (mvT hZ (hw _ (List.mem_of_getElem? (i := 20) rfl))) (mvT hZ (hw _ (List.mem_of_getElem? (i := 19) rfl))) (by decide) (backOf (W := 0) (rm1 l Z a0 hw [] (ad 3) ad h38 n0 Zs38 (Sd3.ext Ol38.2) (Sd4.ext Ol38.2)) hZ (hw _ (List.mem_of_getElem? (i := 21) rfl)) (hw _ (List.mem_of_getElem? (i := 3) rfl)) (by decide) (by decide)) q55a q55c (g := (mkF m 114 #[.val (.int pr), .val (.ref b1), .val (.ref b20), .val (.int (3 : Int32)), .val (.ref (ad 3)), .val (.ref (ad 3))] [(.ref (ad 3))])) rfl (by rw [hml]; rfl) (Steps.refl _) (argsL := []) (rest := []) (lenOf pd_0 rfl) rfl (by show 2 * 0 + _ ≤ _; exact Nat.le_of_eq rfl) (hb hby at_114) (fun _ _ => ⟨rfl, e53, (by decide : 2 + 0 ≤ _), (by decide : 12 + 0 ≤ _)⟩)
    dsimp only [Pt.U, Pt.locs, Pt.cells, Pt.slots] at X55 l55 y55 z55 st55 hQ55
    subst l55 y55 z55
    obtain ⟨rfl, N55q, e55⟩ := hQ55
    have N55 := Fr.app N53 N55q
    refine own_tr (b := T55.setTop (mkF m 117 #[.val (.int pr), .val (.ref b1), .val (.ref b20), .val (.int (3 : Int32)), .val (.ref (ad 3)), .val (.ref (ad 3))] [(.ref (own_rt ad (ad 3)))])) st55 ?_
    rw [show own_rt ad (ad 3) = ad 3 from by simp [own_rt, hinj]]
    refine own_go (b := T55.setTop (mkF m 119 #[.val (.int pr), .val (.ref b1), .val (.ref b20), .val (.int (3 : Int32)), .val (.ref (ad 3)), .val (.ref (ad 3))] [(.ref (ad 3)), (.ref (ad 3))])) (fun t k => XS.aload X55.here hx rfl (hb hby at_117) rfl rfl k) ?_
    refine own_go (b := T55.setTop (mkF m 122 #[.val (.int pr), .val (.ref b1), .val (.ref b20), .val (.int (3 : Int32)), .val (.ref (ad 3)), .val (.ref (ad 3))] [])) (fun t k => Jvm.RoadKit.acmp (g := (mkF m 119 #[.val (.int pr), .val (.ref b1), .val (.ref b20), .val (.int (3 : Int32)), .val (.ref (ad 3)), .val (.ref (ad 3))] [(.ref (ad 3)), (.ref (ad 3))])) X55 hx rfl rfl rfl (pc0 := 119) (pc' := 122) (same := true) rfl (hb hby at_119) rfl (decide_eq_true rfl) (by decide) (by decide) k) ?_
    refine own_go (b := T55.setTop (mkF m 123 #[.val (.int pr), .val (.ref b1), .val (.ref b20), .val (.int (3 : Int32)), .val (.ref (ad 3)), .val (.ref (ad 3))] [(.int (1 : Int32))])) (fun t k => XS.iconst X55.here hx rfl (hb hby at_122) k) ?_
    refine own_go (b := T55.setTop (mkF m 127 #[.val (.int pr), .val (.ref b1), .val (.ref b20), .val (.int (3 : Int32)), .val (.ref (ad 3)), .val (.ref (ad 3))] [(.int (1 : Int32))])) (fun t k => XS.goto X55.here hx rfl (pc0 := 123) (pc' := 127) rfl (hb hby at_123) (by decide) (by decide) k) ?_
    exact own_retN X55 hx hlk (t := .boolean) hrt (by simp) (hb hby at_127) (Nat.le_of_ble_eq_true rfl) (Nat.le_of_ble_eq_true rfl) (⟨rfl, N55⟩)
  | 4, _, hX39 =>
    replace hX39 : ((pr &&& (2147483647 : Int32)) % (6 : Int32)) = (4 : Int32) := hX39
    rw [hX39]
    refine own_go (b := T38.setTop (mkF m 93 #[.val (.int pr), .val (.ref b1), .val (.ref b20), .val (.int (4 : Int32)), .unset, .unset] [(.ref b1)])) (fun t k => XS.aloadN X38.here hx rfl (hb hby at_92) rfl rfl k) ?_
    refine own_go (b := T38.setTop (mkF m 94 #[.val (.int pr), .val (.ref b1), .val (.ref b20), .val (.int (4 : Int32)), .unset, .unset] [(.int (4 : Int32)), (.ref b1)])) (fun t k => XS.iloadN X38.here hx rfl (hb hby at_93) rfl  k) ?_
    obtain ⟨cl56, Ar56, qc56, Sz56, Ng56, Hs56, Ft56⟩ := (((((((V_b1_19.ext E20).other W23 (Nat.ne_of_lt (Nat.lt_of_lt_of_le (V_b1_19).lt (Nat.le_of_eq g20.symm)))).other W26 (Nat.ne_of_lt (Nat.lt_of_lt_of_le (V_b1_19).lt (Nat.le_of_eq g20.symm)))).other W29 (Nat.ne_of_lt (Nat.lt_of_lt_of_le (V_b1_19).lt (Nat.le_of_eq g20.symm)))).other W32 (Nat.ne_of_lt (Nat.lt_of_lt_of_le (V_b1_19).lt (Nat.le_of_eq g20.symm)))).other W35 (Nat.ne_of_lt (Nat.lt_of_lt_of_le (V_b1_19).lt (Nat.le_of_eq g20.symm)))).other W38 (Nat.ne_of_lt (Nat.lt_of_lt_of_le (V_b1_19).lt (Nat.le_of_eq g20.symm))))
    have hin56 : ¬ ((4 : Int32) < 0 ∨ cl56.slots.size ≤ ((4 : Int32)).toNatClampNeg) := inb_of Sz56 ⟨by decide, by decide⟩
    refine own_go (b := T38.setTop (mkF m 95 #[.val (.int pr), .val (.ref b1), .val (.ref b20), .val (.int (4 : Int32)), .unset, .unset] [(.ref (ad 4))])) (fun t k => X38.aaload hx (j := (4 : Int32)) (v := (.ref (ad 4))) (by rw [e38]; exact Ar56.1) (State.isArrayOf_alike hZ.alike Ar56.2.1) rfl Ar56.2.2 hin56 (Hs56.at hin56 rfl) (g := (mkF m 94 #[.val (.int pr), .val (.ref b1), .val (.ref b20), .val (.int (4 : Int32)), .unset, .unset] [(.int (4 : Int32)), (.ref b1)])) rfl rfl (hb hby at_94) t k) ?_
    refine own_go (b := T38.setTop (mkF m 97 #[.val (.int pr), .val (.ref b1), .val (.ref b20), .val (.int (4 : Int32)), .val (.ref (ad 4)), .unset] [])) (fun t k => XS.astore X38.here hx rfl (hb hby at_95) rfl rfl (l' := #[.val (.int pr), .val (.ref b1), .val (.ref b20), .val (.int (4 : Int32)), .val (.ref (ad 4)), .unset]) rfl k) ?_
    refine own_go (b := T38.setTop (mkF m 99 #[.val (.int pr), .val (.ref b1), .val (.ref b20), .val (.int (4 : Int32)), .val (.ref (ad 4)), .unset] [(.ref (ad 4))])) (fun t k => XS.aload X38.here hx rfl (hb hby at_97) rfl rfl k) ?_
    obtain ⟨cq57, kq57, q57a, q57b, q57c⟩ := isOf hZ e38 ((Ed 4 (by decide)).ext Ol38.2)
    obtain ⟨_, _, ⟨T57, L57, k57, n57⟩, -, X57, ⟨Lc57, hQ57, l57, y57, z57⟩, st57⟩ := X38.virtualBack hx (y := (⟨"com/example/viewgrant/viewgrant/ObjectType", "recordType", "()Lcom/example/viewgrant/viewgrant/ObjectType;"⟩ : MethodName)) (z := (⟨"com/example/viewgrant/viewgrant/ObjectType", "recordType", "()Lcom/example/viewgrant/viewgrant/ObjectType;"⟩ : MethodName)) hown (mvT hZ (hw _ (List.mem_of_getElem? (i := 17) rfl))) (mvT hZ (hw _ (List.mem_of_getElem? (i := 18) rfl))) (notFace_of_selects (args := #[]) (mvT hZ (hw _ (List.mem_of_getElem? (i := 20) rfl)))) (mvT hZ (hw _ (List.mem_of_getElem? (i := 20) rfl))) (mvT hZ (hw _ (List.mem_of_getElem? (i := 19) rfl))) (by decide) (backOf (W := 0) (rm1 l Z a0 hw [] (ad 4) ad h38 n0 Zs38 (Sd3.ext Ol38.2) (Sd4.ext Ol38.2)) hZ (hw _ (List.mem_of_getElem? (i := 21) rfl)) (hw _ (List.mem_of_getElem? (i := 3) rfl)) (by decide) (by decide)) q57a q57c (g := (mkF m 99 #[.val (.int pr), .val (.ref b1), .val (.ref b20), .val (.int (4 : Int32)), .val (.ref (ad 4)), .unset] [(.ref (ad 4))])) rfl (by rw [hml]; rfl) (Steps.refl _) (argsL := []) (rest := []) (lenOf pd_0 rfl) rfl (by show 2 * 0 + _ ≤ _; exact Nat.le_of_eq rfl) (hb hby at_99) (fun _ _ => ⟨rfl, e38, (by decide : 2 + 0 ≤ _), (by decide : 12 + 0 ≤ _)⟩)
    dsimp only [Pt.U, Pt.locs, Pt.cells, Pt.slots] at X57 l57 y57 z57 st57 hQ57
    subst l57 y57 z57
    obtain ⟨rfl, N57q, e57⟩ := hQ57
    have N57 := Fr.app N38 N57q
    refine own_tr (b := T57.setTop (mkF m 102 #[.val (.int pr), .val (.ref b1), .val (.ref b20), .val (.int (4 : Int32)), .val (.ref (ad 4)), .unset] [(.ref (own_rt ad (ad 4)))])) st57 ?_
    rw [show own_rt ad (ad 4) = ad 3 from by simp [own_rt, hinj]]
    refine own_go (b := T57.setTop (mkF m 104 #[.val (.int pr), .val (.ref b1), .val (.ref b20), .val (.int (4 : Int32)), .val (.ref (ad 4)), .val (.ref (ad 3))] [])) (fun t k => XS.astore X57.here hx rfl (hb hby at_102) rfl rfl (l' := #[.val (.int pr), .val (.ref b1), .val (.ref b20), .val (.int (4 : Int32)), .val (.ref (ad 4)), .val (.ref (ad 3))]) rfl k) ?_
    refine own_go (b := T57.setTop (mkF m 106 #[.val (.int pr), .val (.ref b1), .val (.ref b20), .val (.int (4 : Int32)), .val (.ref (ad 4)), .val (.ref (ad 3))] [(.ref (ad 3))])) (fun t k => XS.aload X57.here hx rfl (hb hby at_104) rfl rfl k) ?_
    refine own_go (b := T57.setTop (mkF m 107 #[.val (.int pr), .val (.ref b1), .val (.ref b20), .val (.int (4 : Int32)), .val (.ref (ad 4)), .val (.ref (ad 3))] [(.ref b20), (.ref (ad 3))])) (fun t k => XS.aloadN X57.here hx rfl (hb hby at_106) rfl rfl k) ?_
    refine own_go (b := T57.setTop (mkF m 108 #[.val (.int pr), .val (.ref b1), .val (.ref b20), .val (.int (4 : Int32)), .val (.ref (ad 4)), .val (.ref (ad 3))] [(.int (4 : Int32)), (.ref b20), (.ref (ad 3))])) (fun t k => XS.iloadN X57.here hx rfl (hb hby at_107) rfl  k) ?_
    obtain ⟨cl58, Ar58, qc58, Sz58, Ng58, Hs58, Ft58⟩ := V_b20_38
    have hin58 : ¬ ((4 : Int32) < 0 ∨ cl58.slots.size ≤ ((4 : Int32)).toNatClampNeg) := inb_of Sz58 ⟨by decide, by decide⟩
    refine own_go (b := T57.setTop (mkF m 109 #[.val (.int pr), .val (.ref b1), .val (.ref b20), .val (.int (4 : Int32)), .val (.ref (ad 4)), .val (.ref (ad 3))] [(.ref (ad 3)), (.ref (ad 3))])) (fun t k => X57.aaload hx (j := (4 : Int32)) (v := (.ref (ad 3))) (by rw [e57]; exact Ar58.1) (State.isArrayOf_alike hZ.alike Ar58.2.1) rfl Ar58.2.2 hin58 (Hs58.at hin58 rfl) (g := (mkF m 108 #[.val (.int pr), .val (.ref b1), .val (.ref b20), .val (.int (4 : Int32)), .val (.ref (ad 4)), .val (.ref (ad 3))] [(.int (4 : Int32)), (.ref b20), (.ref (ad 3))])) rfl rfl (hb hby at_108) t k) ?_
    refine own_go (b := T57.setTop (mkF m 112 #[.val (.int pr), .val (.ref b1), .val (.ref b20), .val (.int (4 : Int32)), .val (.ref (ad 4)), .val (.ref (ad 3))] [])) (fun t k => Jvm.RoadKit.acmp (g := (mkF m 109 #[.val (.int pr), .val (.ref b1), .val (.ref b20), .val (.int (4 : Int32)), .val (.ref (ad 4)), .val (.ref (ad 3))] [(.ref (ad 3)), (.ref (ad 3))])) X57 hx rfl rfl rfl (pc0 := 109) (pc' := 112) (same := true) rfl (hb hby at_109) rfl (decide_eq_true rfl) (by decide) (by decide) k) ?_
    refine own_go (b := T57.setTop (mkF m 114 #[.val (.int pr), .val (.ref b1), .val (.ref b20), .val (.int (4 : Int32)), .val (.ref (ad 4)), .val (.ref (ad 3))] [(.ref (ad 3))])) (fun t k => XS.aload X57.here hx rfl (hb hby at_112) rfl rfl k) ?_
    obtain ⟨cq59, kq59, q59a, q59b, q59c⟩ := isOf hZ e57 ((Ed 3 (by decide)).ext Ol38.2)
    obtain ⟨_, _, ⟨T59, L59, k59, n59⟩, -, X59, ⟨Lc59, hQ59, l59, y59, z59⟩, st59⟩ := X57.virtualBack hx (y := (⟨"com/example/viewgrant/viewgrant/ObjectType", "recordType", "()Lcom/example/viewgrant/viewgrant/ObjectType;"⟩ : MethodName)) (z := (⟨"com/example/viewgrant/viewgrant/ObjectType", "recordType", "()Lcom/example/viewgrant/viewgrant/ObjectType;"⟩ : MethodName)) hown (mvT hZ (hw _ (List.mem_of_getElem? (i := 17) rfl))) (mvT hZ (hw _ (List.mem_of_getElem? (i := 18) rfl))) (notFace_of_selects (args := #[]) (mvT hZ (hw _ (List.mem_of_getElem? (i := 20) rfl)))) (mvT hZ (hw _ (List.mem_of_getElem? (i := 20) rfl))) (mvT hZ (hw _ (List.mem_of_getElem? (i := 19) rfl))) (by decide) (backOf (W := 0) (rm1 l Z a0 hw [] (ad 3) ad h38 n0 Zs38 (Sd3.ext Ol38.2) (Sd4.ext Ol38.2)) hZ (hw _ (List.mem_of_getElem? (i := 21) rfl)) (hw _ (List.mem_of_getElem? (i := 3) rfl)) (by decide) (by decide)) q59a q59c (g := (mkF m 114 #[.val (.int pr), .val (.ref b1), .val (.ref b20), .val (.int (4 : Int32)), .val (.ref (ad 4)), .val (.ref (ad 3))] [(.ref (ad 3))])) rfl (by rw [hml]; rfl) (Steps.refl _) (argsL := []) (rest := []) (lenOf pd_0 rfl) rfl (by show 2 * 0 + _ ≤ _; exact Nat.le_of_eq rfl) (hb hby at_114) (fun _ _ => ⟨rfl, e57, (by decide : 2 + 0 ≤ _), (by decide : 12 + 0 ≤ _)⟩)
    dsimp only [Pt.U, Pt.locs, Pt.cells, Pt.slots] at X59 l59 y59 z59 st59 hQ59
    subst l59 y59 z59
    obtain ⟨rfl, N59q, e59⟩ := hQ59
    have N59 := Fr.app N57 N59q
    refine own_tr (b := T59.setTop (mkF m 117 #[.val (.int pr), .val (.ref b1), .val (.ref b20), .val (.int (4 : Int32)), .val (.ref (ad 4)), .val (.ref (ad 3))] [(.ref (own_rt ad (ad 3)))])) st59 ?_
    rw [show own_rt ad (ad 3) = ad 3 from by simp [own_rt, hinj]]
    refine own_go (b := T59.setTop (mkF m 119 #[.val (.int pr), .val (.ref b1), .val (.ref b20), .val (.int (4 : Int32)), .val (.ref (ad 4)), .val (.ref (ad 3))] [(.ref (ad 3)), (.ref (ad 3))])) (fun t k => XS.aload X59.here hx rfl (hb hby at_117) rfl rfl k) ?_
    refine own_go (b := T59.setTop (mkF m 122 #[.val (.int pr), .val (.ref b1), .val (.ref b20), .val (.int (4 : Int32)), .val (.ref (ad 4)), .val (.ref (ad 3))] [])) (fun t k => Jvm.RoadKit.acmp (g := (mkF m 119 #[.val (.int pr), .val (.ref b1), .val (.ref b20), .val (.int (4 : Int32)), .val (.ref (ad 4)), .val (.ref (ad 3))] [(.ref (ad 3)), (.ref (ad 3))])) X59 hx rfl rfl rfl (pc0 := 119) (pc' := 122) (same := true) rfl (hb hby at_119) rfl (decide_eq_true rfl) (by decide) (by decide) k) ?_
    refine own_go (b := T59.setTop (mkF m 123 #[.val (.int pr), .val (.ref b1), .val (.ref b20), .val (.int (4 : Int32)), .val (.ref (ad 4)), .val (.ref (ad 3))] [(.int (1 : Int32))])) (fun t k => XS.iconst X59.here hx rfl (hb hby at_122) k) ?_
    refine own_go (b := T59.setTop (mkF m 127 #[.val (.int pr), .val (.ref b1), .val (.ref b20), .val (.int (4 : Int32)), .val (.ref (ad 4)), .val (.ref (ad 3))] [(.int (1 : Int32))])) (fun t k => XS.goto X59.here hx rfl (pc0 := 123) (pc' := 127) rfl (hb hby at_123) (by decide) (by decide) k) ?_
    exact own_retN X59 hx hlk (t := .boolean) hrt (by simp) (hb hby at_127) (Nat.le_of_ble_eq_true rfl) (Nat.le_of_ble_eq_true rfl) (⟨rfl, N59⟩)
  | 5, _, hX39 =>
    replace hX39 : ((pr &&& (2147483647 : Int32)) % (6 : Int32)) = (5 : Int32) := hX39
    rw [hX39]
    refine own_go (b := T38.setTop (mkF m 93 #[.val (.int pr), .val (.ref b1), .val (.ref b20), .val (.int (5 : Int32)), .unset, .unset] [(.ref b1)])) (fun t k => XS.aloadN X38.here hx rfl (hb hby at_92) rfl rfl k) ?_
    refine own_go (b := T38.setTop (mkF m 94 #[.val (.int pr), .val (.ref b1), .val (.ref b20), .val (.int (5 : Int32)), .unset, .unset] [(.int (5 : Int32)), (.ref b1)])) (fun t k => XS.iloadN X38.here hx rfl (hb hby at_93) rfl  k) ?_
    obtain ⟨cl60, Ar60, qc60, Sz60, Ng60, Hs60, Ft60⟩ := (((((((V_b1_19.ext E20).other W23 (Nat.ne_of_lt (Nat.lt_of_lt_of_le (V_b1_19).lt (Nat.le_of_eq g20.symm)))).other W26 (Nat.ne_of_lt (Nat.lt_of_lt_of_le (V_b1_19).lt (Nat.le_of_eq g20.symm)))).other W29 (Nat.ne_of_lt (Nat.lt_of_lt_of_le (V_b1_19).lt (Nat.le_of_eq g20.symm)))).other W32 (Nat.ne_of_lt (Nat.lt_of_lt_of_le (V_b1_19).lt (Nat.le_of_eq g20.symm)))).other W35 (Nat.ne_of_lt (Nat.lt_of_lt_of_le (V_b1_19).lt (Nat.le_of_eq g20.symm)))).other W38 (Nat.ne_of_lt (Nat.lt_of_lt_of_le (V_b1_19).lt (Nat.le_of_eq g20.symm))))
    have hin60 : ¬ ((5 : Int32) < 0 ∨ cl60.slots.size ≤ ((5 : Int32)).toNatClampNeg) := inb_of Sz60 ⟨by decide, by decide⟩
    refine own_go (b := T38.setTop (mkF m 95 #[.val (.int pr), .val (.ref b1), .val (.ref b20), .val (.int (5 : Int32)), .unset, .unset] [(.ref (ad 5))])) (fun t k => X38.aaload hx (j := (5 : Int32)) (v := (.ref (ad 5))) (by rw [e38]; exact Ar60.1) (State.isArrayOf_alike hZ.alike Ar60.2.1) rfl Ar60.2.2 hin60 (Hs60.at hin60 rfl) (g := (mkF m 94 #[.val (.int pr), .val (.ref b1), .val (.ref b20), .val (.int (5 : Int32)), .unset, .unset] [(.int (5 : Int32)), (.ref b1)])) rfl rfl (hb hby at_94) t k) ?_
    refine own_go (b := T38.setTop (mkF m 97 #[.val (.int pr), .val (.ref b1), .val (.ref b20), .val (.int (5 : Int32)), .val (.ref (ad 5)), .unset] [])) (fun t k => XS.astore X38.here hx rfl (hb hby at_95) rfl rfl (l' := #[.val (.int pr), .val (.ref b1), .val (.ref b20), .val (.int (5 : Int32)), .val (.ref (ad 5)), .unset]) rfl k) ?_
    refine own_go (b := T38.setTop (mkF m 99 #[.val (.int pr), .val (.ref b1), .val (.ref b20), .val (.int (5 : Int32)), .val (.ref (ad 5)), .unset] [(.ref (ad 5))])) (fun t k => XS.aload X38.here hx rfl (hb hby at_97) rfl rfl k) ?_
    obtain ⟨cq61, kq61, q61a, q61b, q61c⟩ := isOf hZ e38 ((Ed 5 (by decide)).ext Ol38.2)
    obtain ⟨_, _, ⟨T61, L61, k61, n61⟩, -, X61, ⟨Lc61, hQ61, l61, y61, z61⟩, st61⟩ := X38.virtualBack hx (y := (⟨"com/example/viewgrant/viewgrant/ObjectType", "recordType", "()Lcom/example/viewgrant/viewgrant/ObjectType;"⟩ : MethodName)) (z := (⟨"com/example/viewgrant/viewgrant/ObjectType", "recordType", "()Lcom/example/viewgrant/viewgrant/ObjectType;"⟩ : MethodName)) hown (mvT hZ (hw _ (List.mem_of_getElem? (i := 17) rfl))) (mvT hZ (hw _ (List.mem_of_getElem? (i := 18) rfl))) (notFace_of_selects (args := #[]) (mvT hZ (hw _ (List.mem_of_getElem? (i := 20) rfl)))) (mvT hZ (hw _ (List.mem_of_getElem? (i := 20) rfl))) (mvT hZ (hw _ (List.mem_of_getElem? (i := 19) rfl))) (by decide) (backOf (W := 0) (rm1 l Z a0 hw [] (ad 5) ad h38 n0 Zs38 (Sd3.ext Ol38.2) (Sd4.ext Ol38.2)) hZ (hw _ (List.mem_of_getElem? (i := 21) rfl)) (hw _ (List.mem_of_getElem? (i := 3) rfl)) (by decide) (by decide)) q61a q61c (g := (mkF m 99 #[.val (.int pr), .val (.ref b1), .val (.ref b20), .val (.int (5 : Int32)), .val (.ref (ad 5)), .unset] [(.ref (ad 5))])) rfl (by rw [hml]; rfl) (Steps.refl _) (argsL := []) (rest := []) (lenOf pd_0 rfl) rfl (by show 2 * 0 + _ ≤ _; exact Nat.le_of_eq rfl) (hb hby at_99) (fun _ _ => ⟨rfl, e38, (by decide : 2 + 0 ≤ _), (by decide : 12 + 0 ≤ _)⟩)
    dsimp only [Pt.U, Pt.locs, Pt.cells, Pt.slots] at X61 l61 y61 z61 st61 hQ61
    subst l61 y61 z61
    obtain ⟨rfl, N61q, e61⟩ := hQ61
    have N61 := Fr.app N38 N61q
    refine own_tr (b := T61.setTop (mkF m 102 #[.val (.int pr), .val (.ref b1), .val (.ref b20), .val (.int (5 : Int32)), .val (.ref (ad 5)), .unset] [(.ref (own_rt ad (ad 5)))])) st61 ?_
    rw [show own_rt ad (ad 5) = ad 5 from by simp [own_rt, hinj]]
    refine own_go (b := T61.setTop (mkF m 104 #[.val (.int pr), .val (.ref b1), .val (.ref b20), .val (.int (5 : Int32)), .val (.ref (ad 5)), .val (.ref (ad 5))] [])) (fun t k => XS.astore X61.here hx rfl (hb hby at_102) rfl rfl (l' := #[.val (.int pr), .val (.ref b1), .val (.ref b20), .val (.int (5 : Int32)), .val (.ref (ad 5)), .val (.ref (ad 5))]) rfl k) ?_
    refine own_go (b := T61.setTop (mkF m 106 #[.val (.int pr), .val (.ref b1), .val (.ref b20), .val (.int (5 : Int32)), .val (.ref (ad 5)), .val (.ref (ad 5))] [(.ref (ad 5))])) (fun t k => XS.aload X61.here hx rfl (hb hby at_104) rfl rfl k) ?_
    refine own_go (b := T61.setTop (mkF m 107 #[.val (.int pr), .val (.ref b1), .val (.ref b20), .val (.int (5 : Int32)), .val (.ref (ad 5)), .val (.ref (ad 5))] [(.ref b20), (.ref (ad 5))])) (fun t k => XS.aloadN X61.here hx rfl (hb hby at_106) rfl rfl k) ?_
    refine own_go (b := T61.setTop (mkF m 108 #[.val (.int pr), .val (.ref b1), .val (.ref b20), .val (.int (5 : Int32)), .val (.ref (ad 5)), .val (.ref (ad 5))] [(.int (5 : Int32)), (.ref b20), (.ref (ad 5))])) (fun t k => XS.iloadN X61.here hx rfl (hb hby at_107) rfl  k) ?_
    obtain ⟨cl62, Ar62, qc62, Sz62, Ng62, Hs62, Ft62⟩ := V_b20_38
    have hin62 : ¬ ((5 : Int32) < 0 ∨ cl62.slots.size ≤ ((5 : Int32)).toNatClampNeg) := inb_of Sz62 ⟨by decide, by decide⟩
    refine own_go (b := T61.setTop (mkF m 109 #[.val (.int pr), .val (.ref b1), .val (.ref b20), .val (.int (5 : Int32)), .val (.ref (ad 5)), .val (.ref (ad 5))] [(.ref (ad 5)), (.ref (ad 5))])) (fun t k => X61.aaload hx (j := (5 : Int32)) (v := (.ref (ad 5))) (by rw [e61]; exact Ar62.1) (State.isArrayOf_alike hZ.alike Ar62.2.1) rfl Ar62.2.2 hin62 (Hs62.at hin62 rfl) (g := (mkF m 108 #[.val (.int pr), .val (.ref b1), .val (.ref b20), .val (.int (5 : Int32)), .val (.ref (ad 5)), .val (.ref (ad 5))] [(.int (5 : Int32)), (.ref b20), (.ref (ad 5))])) rfl rfl (hb hby at_108) t k) ?_
    refine own_go (b := T61.setTop (mkF m 112 #[.val (.int pr), .val (.ref b1), .val (.ref b20), .val (.int (5 : Int32)), .val (.ref (ad 5)), .val (.ref (ad 5))] [])) (fun t k => Jvm.RoadKit.acmp (g := (mkF m 109 #[.val (.int pr), .val (.ref b1), .val (.ref b20), .val (.int (5 : Int32)), .val (.ref (ad 5)), .val (.ref (ad 5))] [(.ref (ad 5)), (.ref (ad 5))])) X61 hx rfl rfl rfl (pc0 := 109) (pc' := 112) (same := true) rfl (hb hby at_109) rfl (decide_eq_true rfl) (by decide) (by decide) k) ?_
    refine own_go (b := T61.setTop (mkF m 114 #[.val (.int pr), .val (.ref b1), .val (.ref b20), .val (.int (5 : Int32)), .val (.ref (ad 5)), .val (.ref (ad 5))] [(.ref (ad 5))])) (fun t k => XS.aload X61.here hx rfl (hb hby at_112) rfl rfl k) ?_
    obtain ⟨cq63, kq63, q63a, q63b, q63c⟩ := isOf hZ e61 ((Ed 5 (by decide)).ext Ol38.2)
    obtain ⟨_, _, ⟨T63, L63, k63, n63⟩, -, X63, ⟨Lc63, hQ63, l63, y63, z63⟩, st63⟩ := X61.virtualBack hx (y := (⟨"com/example/viewgrant/viewgrant/ObjectType", "recordType", "()Lcom/example/viewgrant/viewgrant/ObjectType;"⟩ : MethodName)) (z := (⟨"com/example/viewgrant/viewgrant/ObjectType", "recordType", "()Lcom/example/viewgrant/viewgrant/ObjectType;"⟩ : MethodName)) hown (mvT hZ (hw _ (List.mem_of_getElem? (i := 17) rfl))) (mvT hZ (hw _ (List.mem_of_getElem? (i := 18) rfl))) (notFace_of_selects (args := #[]) (mvT hZ (hw _ (List.mem_of_getElem? (i := 20) rfl)))) (mvT hZ (hw _ (List.mem_of_getElem? (i := 20) rfl))) (mvT hZ (hw _ (List.mem_of_getElem? (i := 19) rfl))) (by decide) (backOf (W := 0) (rm1 l Z a0 hw [] (ad 5) ad h38 n0 Zs38 (Sd3.ext Ol38.2) (Sd4.ext Ol38.2)) hZ (hw _ (List.mem_of_getElem? (i := 21) rfl)) (hw _ (List.mem_of_getElem? (i := 3) rfl)) (by decide) (by decide)) q63a q63c (g := (mkF m 114 #[.val (.int pr), .val (.ref b1), .val (.ref b20), .val (.int (5 : Int32)), .val (.ref (ad 5)), .val (.ref (ad 5))] [(.ref (ad 5))])) rfl (by rw [hml]; rfl) (Steps.refl _) (argsL := []) (rest := []) (lenOf pd_0 rfl) rfl (by show 2 * 0 + _ ≤ _; exact Nat.le_of_eq rfl) (hb hby at_114) (fun _ _ => ⟨rfl, e61, (by decide : 2 + 0 ≤ _), (by decide : 12 + 0 ≤ _)⟩)
    dsimp only [Pt.U, Pt.locs, Pt.cells, Pt.slots] at X63 l63 y63 z63 st63 hQ63
    subst l63 y63 z63
    obtain ⟨rfl, N63q, e63⟩ := hQ63
    have N63 := Fr.app N61 N63q
    refine own_tr (b := T63.setTop (mkF m 117 #[.val (.int pr), .val (.ref b1), .val (.ref b20), .val (.int (5 : Int32)), .val (.ref (ad 5)), .val (.ref (ad 5))] [(.ref (own_rt ad (ad 5)))])) st63 ?_
    rw [show own_rt ad (ad 5) = ad 5 from by simp [own_rt, hinj]]
    refine own_go (b := T63.setTop (mkF m 119 #[.val (.int pr), .val (.ref b1), .val (.ref b20), .val (.int (5 : Int32)), .val (.ref (ad 5)), .val (.ref (ad 5))] [(.ref (ad 5)), (.ref (ad 5))])) (fun t k => XS.aload X63.here hx rfl (hb hby at_117) rfl rfl k) ?_
    refine own_go (b := T63.setTop (mkF m 122 #[.val (.int pr), .val (.ref b1), .val (.ref b20), .val (.int (5 : Int32)), .val (.ref (ad 5)), .val (.ref (ad 5))] [])) (fun t k => Jvm.RoadKit.acmp (g := (mkF m 119 #[.val (.int pr), .val (.ref b1), .val (.ref b20), .val (.int (5 : Int32)), .val (.ref (ad 5)), .val (.ref (ad 5))] [(.ref (ad 5)), (.ref (ad 5))])) X63 hx rfl rfl rfl (pc0 := 119) (pc' := 122) (same := true) rfl (hb hby at_119) rfl (decide_eq_true rfl) (by decide) (by decide) k) ?_
    refine own_go (b := T63.setTop (mkF m 123 #[.val (.int pr), .val (.ref b1), .val (.ref b20), .val (.int (5 : Int32)), .val (.ref (ad 5)), .val (.ref (ad 5))] [(.int (1 : Int32))])) (fun t k => XS.iconst X63.here hx rfl (hb hby at_122) k) ?_
    refine own_go (b := T63.setTop (mkF m 127 #[.val (.int pr), .val (.ref b1), .val (.ref b20), .val (.int (5 : Int32)), .val (.ref (ad 5)), .val (.ref (ad 5))] [(.int (1 : Int32))])) (fun t k => XS.goto X63.here hx rfl (pc0 := 123) (pc' := 127) rfl (hb hby at_123) (by decide) (by decide) k) ?_
    exact own_retN X63 hx hlk (t := .boolean) hrt (by simp) (hb hby at_127) (Nat.le_of_ble_eq_true rfl) (Nat.le_of_ble_eq_true rfl) (⟨rfl, N63⟩)
  | j + 6, h, _ => omega
set_option maxRecDepth 65536 in
set_option maxHeartbeats 40000000 in
theorem comes_1 {Post : Tables → Env → Array Value → State → Outcome → State → Prop} (hpost : ∀ tb e args s v u, (limb_1_1.after args s (.returned v) u = true ∧ limb_1_2.after args s (.returned v) u = true ∧ True) → FrameEnd s (.returned v) u (Jvm.fieldLocs frame_1_writes args s ++ Jvm.arrayLocs frame_1_arrays args s ++ Jvm.staticLocs frame_1_statics s) 16 128 → Post tb e args s (.returned v) u) :
    ArmFor flags0 classFile x code maxLocals ret World_1 tables_1 room_1 Calls_1 rest_1 Pre_1 Post := by
  intro l hfl _ _ p e ha hc hk s m args below hf hA hF happ hP
  obtain ⟨hcalls, hrest, hpre⟩ := hP
  obtain ⟨-, -, -, hnamed, -, -, -, hat⟩ := (Spec.applies_iff hf).mp happ
  obtain ⟨hg, hn⟩ := and_e (Cond.before_iff.mp (show (Jvm.Cond.and given_1 narrow_1).before args s = true from hpre))
  obtain ⟨g1, g2⟩ := and_e hg
  obtain ⟨g3, g4⟩ := and_e hn
  obtain ⟨g5, g6⟩ := and_e g4
  obtain ⟨g7, g8⟩ := and_e g6
  obtain ⟨g9, g10⟩ := and_e g8
  obtain ⟨g11, g12⟩ := and_e g10
  obtain ⟨g13, g14⟩ := and_e g12
  obtain ⟨g15, g16⟩ := and_e g14
  obtain ⟨g17, g18⟩ := and_e g16
  obtain ⟨g19, g20⟩ := and_e g18
  obtain ⟨g21, g22⟩ := and_e g20
  obtain ⟨g23, g24⟩ := and_e g22
  obtain ⟨w0, rfl⟩ : ∃ w0 : Value, args = #[w0] := by
    have hs : args.size = 1 := by simpa [Cond.value, given_1] using g1
    obtain ⟨L⟩ := args
    match L, hs with
    | [w0], _ => exact ⟨w0, rfl⟩
  have hw := fun d (hd : d ∈ tables_1) => atoms_spec (ws := Jvm.Cond.code x code maxLocals ret :: tables_1) hat d (List.mem_cons_of_mem _ hd)
  have hfit : Fit s := fun {y c} hc i hi => by
    obtain ⟨ha, rfl⟩ := Array.getElem?_eq_some_iff.mp hc
    have q := List.all_eq_true.mp ((Array.all_eq_true_iff_forall_mem.mp hF) _ (Array.getElem_mem ha)) i (List.mem_range.mpr hi)
    simpa [Array.getElem?_eq_getElem hi] using q
  obtain ⟨i0, ei0⟩ := is_v g2
  obtain rfl : w0 = (.int i0) := Option.some.inj ei0
  obtain ⟨a_FILE, ev_FILE⟩ := exa_v g3
  have S_FILE := Sta.start ev_FILE (Or.inr ⟨(hw _ (List.mem_of_getElem? (i := 3) rfl)), (hw _ (List.mem_of_getElem? (i := 4) rfl))⟩)
  have E_FILE := Exa.start ev_FILE g3
  obtain ⟨a_CHANGEREQUEST, ev_CHANGEREQUEST⟩ := exa_v g5
  have S_CHANGEREQUEST := Sta.start ev_CHANGEREQUEST (Or.inr ⟨(hw _ (List.mem_of_getElem? (i := 3) rfl)), (hw _ (List.mem_of_getElem? (i := 7) rfl))⟩)
  have E_CHANGEREQUEST := Exa.start ev_CHANGEREQUEST g5
  obtain ⟨a_FOLDER, ev_FOLDER⟩ := exa_v g7
  have S_FOLDER := Sta.start ev_FOLDER (Or.inr ⟨(hw _ (List.mem_of_getElem? (i := 3) rfl)), (hw _ (List.mem_of_getElem? (i := 9) rfl))⟩)
  have E_FOLDER := Exa.start ev_FOLDER g7
  obtain ⟨a_VIEW, ev_VIEW⟩ := exa_v g9
  have S_VIEW := Sta.start ev_VIEW (Or.inr ⟨(hw _ (List.mem_of_getElem? (i := 3) rfl)), (hw _ (List.mem_of_getElem? (i := 11) rfl))⟩)
  have E_VIEW := Exa.start ev_VIEW g9
  obtain ⟨a_VIEWS, ev_VIEWS⟩ := exa_v g11
  have S_VIEWS := Sta.start ev_VIEWS (Or.inr ⟨(hw _ (List.mem_of_getElem? (i := 3) rfl)), (hw _ (List.mem_of_getElem? (i := 13) rfl))⟩)
  have E_VIEWS := Exa.start ev_VIEWS g11
  obtain ⟨a_PROJECT, ev_PROJECT⟩ := exa_v g13
  have S_PROJECT := Sta.start ev_PROJECT (Or.inr ⟨(hw _ (List.mem_of_getElem? (i := 3) rfl)), (hw _ (List.mem_of_getElem? (i := 15) rfl))⟩)
  have E_PROJECT := Exa.start ev_PROJECT g13
  have O_FILE_ordinal := own_fld ev_FILE g15
  have O_VIEWS_ordinal := own_fld ev_VIEWS g17
  have O_VIEW_ordinal := own_fld ev_VIEW g19
  have O_FOLDER_ordinal := own_fld ev_FOLDER g21
  have O_CHANGEREQUEST_ordinal := own_fld ev_CHANGEREQUEST g23
  have O_PROJECT_ordinal := own_fld ev_PROJECT g24
  obtain ⟨ad, had⟩ : ∃ ad : Nat → Addr, ad = fun k => [a_FILE, a_CHANGEREQUEST, a_FOLDER, a_VIEW, a_VIEWS, a_PROJECT].getD k 0 := ⟨_, rfl⟩
  have had0 : ad 0 = a_FILE := by rw [had]; rfl
  have had1 : ad 1 = a_CHANGEREQUEST := by rw [had]; rfl
  have had2 : ad 2 = a_FOLDER := by rw [had]; rfl
  have had3 : ad 3 = a_VIEW := by rw [had]; rfl
  have had4 : ad 4 = a_VIEWS := by rw [had]; rfl
  have had5 : ad 5 = a_PROJECT := by rw [had]; rfl
  rw [← had0] at S_FILE E_FILE
  rw [← had1] at S_CHANGEREQUEST E_CHANGEREQUEST
  rw [← had2] at S_FOLDER E_FOLDER
  rw [← had3] at S_VIEW E_VIEW
  rw [← had4] at S_VIEWS E_VIEWS
  rw [← had5] at S_PROJECT E_PROJECT
  rw [← had0] at O_FILE_ordinal
  rw [← had1] at O_CHANGEREQUEST_ordinal
  rw [← had2] at O_FOLDER_ordinal
  rw [← had3] at O_VIEW_ordinal
  rw [← had4] at O_VIEWS_ordinal
  rw [← had5] at O_PROJECT_ordinal
  have hF0 : ∀ i, i < 6 → Fld s s.heap (ad i) "java/lang/Enum" "ordinal" "I" (.int i.toInt32) := by
    intro j hj
    match j, hj with
    | 0, _ => exact O_FILE_ordinal
    | 1, _ => exact O_CHANGEREQUEST_ordinal
    | 2, _ => exact O_FOLDER_ordinal
    | 3, _ => exact O_VIEW_ordinal
    | 4, _ => exact O_VIEWS_ordinal
    | 5, _ => exact O_PROJECT_ordinal
    | j + 6, h => omega
  have hinj := own_enum (n := 6) (by decide) hF0
  have hE : ∀ j, j < 6 → Exa s s.heap (ad j) "com/example/viewgrant/viewgrant/ObjectType" := by
    intro j hj
    match j, hj with
    | 0, _ => exact E_FILE
    | 1, _ => exact E_CHANGEREQUEST
    | 2, _ => exact E_FOLDER
    | 3, _ => exact E_VIEW
    | 4, _ => exact E_VIEWS
    | 5, _ => exact E_PROJECT
    | j + 6, h => omega
  obtain ⟨n, o, h1, h2, h3, _, L, rfl, ⟨rfl, N⟩, hq⟩ := rm0 l s _ hw tables_1 i0 ad s.heap s.heap.size (Nat.le_refl _) S_FILE S_CHANGEREQUEST S_FOLDER S_VIEW S_VIEWS S_PROJECT hE hinj (Old.start s) p e ha hc hk s m _ below hf ((Spec.applies_iff_loose hf).mp happ).1 ⟨rfl, State.Warmed39.refl s, rfl⟩ trivial
  refine ⟨n, _, h1, h2, h3, hpost _ _ _ _ _ _ ⟨Cond.after_iff.mpr rfl, Cond.after_iff.mpr (eq_i res_at (Term.int_eval (1)) rfl), trivial⟩ ⟨hq.1, hq.2.1, (hq.2.2.sift fun y hy => Or.inr (N y hy)).mono (by decide) (by decide)⟩⟩
theorem main_1_1 : Claimed_1_1 := comes_1 fun _ _ _ _ _ _ h hF => ⟨h.1, hF⟩
theorem main_1_2 : Claimed_1_2 := comes_1 fun _ _ _ _ _ _ h hF => ⟨h.2.1, hF⟩
end Jvm.Pilot.@@N@@
namespace Jvm.Pilot.@@N@@
open Jvm Jvm.ClassFile Sem Op Lib Jvm.Free Jvm.Stand Jvm.Pilot.@@N@@.Jvm.D
/-! MADE BY PROGRAM (witnessworld.py) out of the Statement's table words and the real class files: 13 classes; the members and pool entries that the words name. The judged class is class 1, her method 1. -/
namespace start1
open Jvm.ClassFile
def u (s : String) : CpInfo := .utf8 (stringToUtf16 s)
/-- a pool by its gaps: so many unusable entries, then the entry; so many at the end -/
def gap : Nat → List CpInfo → List CpInfo
  | 0, r => r
  | n + 1, r => .unusable :: gap n r
def poolList (es : List (Nat × CpInfo)) (last : Nat) : List CpInfo := es.foldr (fun e r => gap e.1 (e.2 :: r)) (gap last [])
def pool (es : List (Nat × CpInfo)) (last : Nat) : Array CpInfo := ⟨poolList es last⟩
def fileOf (pool : Array CpInfo) (this : Nat) (attrs : Array Attribute := #[]) (ms : Array MethodInfo := #[]) (fl : Nat := 33) (sup : Nat := 0) (ifs : Array Nat := #[]) (fds : Array FieldInfo := #[]) : ClassFile where
  minorVersion := 0
  majorVersion := 65
  constantPool := pool
  accessFlags := fl
  thisClass := this
  superClass := sup
  interfaces := ifs
  fields := fds
  methods := ms
  attributes := attrs
def plain (name : String) (sup : Option ClassId) : Class where
  name := name
  kind := .ordinary
  loader := none
  accessFlags := 33
  super := sup
  interfaces := #[]
  cf := none
  fields := #[]
  methods := #[]
  instanceTypes := #[]
  staticTypes := #[]
  resolved := #[]
  callSites := []
  init := .initialized
  statics := none
  mirror := none

def pool0 : Array CpInfo := pool [(5, u "<init>"), (0, u "()V"), (1, .class_ 10), (1, u "java/lang/Object")] 113

def k0m0 : Method := { name := "<init>", desc := "()V", sig := { parameters := [], returnType := none }, accessFlags := 1, code := none }
/-- java/lang/Object -/
def k0 : Class := { plain "java/lang/Object" none with
  accessFlags := 33
  interfaces := #[]
  cf := some (fileOf pool0 8 #[] #[{ accessFlags := 1, nameIndex := 5, descriptorIndex := 6, attributes := #[] }] 33 0 #[] #[])
  fields := #[]
  methods := #[k0m0]
  instanceTypes := #[]
  staticTypes := #[]
  resolved := Array.replicate 124 none
  statics := none }

def pool1 : Array CpInfo := pool [(2, .class_ 4), (1, u "java/lang/Object"), (0, u "<init>"), (0, u "()V"), (0, .class_ 8), (0, u "com/example/viewgrant/viewgrant/ObjectType"), (0, .fieldref 7 10), (0, .nameAndType 11 12), (0, u "FILE"), (0, u "Lcom/example/viewgrant/viewgrant/ObjectType;"), (0, .fieldref 7 14), (0, .nameAndType 15 12), (0, u "CHANGEREQUEST"), (0, .fieldref 7 17), (0, .nameAndType 18 12), (0, u "FOLDER"), (0, .fieldref 7 20), (0, .nameAndType 21 12), (0, u "VIEW"), (0, .fieldref 7 23), (0, .nameAndType 24 12), (0, u "VIEWS"), (0, .fieldref 7 26), (0, .nameAndType 27 12), (0, u "PROJECT"), (0, .integer 2147483647), (0, .methodref 7 30), (0, .nameAndType 31 32), (0, u "recordType"), (0, u "()Lcom/example/viewgrant/viewgrant/ObjectType;"), (0, .class_ 34), (0, u "com/example/viewgrant/viewgrant/ObjectTypeRecordTypePinLaw"), (2, u "law"), (0, u "(I)Z")] 5

def k1m0 : Method := { name := "<init>", desc := "()V", sig := { parameters := [], returnType := none }, accessFlags := 1, code := none }
def k1c1 : Code := { maxStack := 4, maxLocals := 6, code := code, exceptionTable := #[], attributes := #[] }
def k1m1 : Method := { name := "law", desc := "(I)Z", sig := { parameters := [.int], returnType := some .boolean }, accessFlags := 9, code := some k1c1 }
/-- com/example/viewgrant/viewgrant/ObjectTypeRecordTypePinLaw -/
def k1 : Class := { plain "com/example/viewgrant/viewgrant/ObjectTypeRecordTypePinLaw" (some 0) with
  accessFlags := 49
  interfaces := #[]
  cf := some (fileOf pool1 33 #[] #[{ accessFlags := 1, nameIndex := 5, descriptorIndex := 6, attributes := #[] }, { accessFlags := 9, nameIndex := 37, descriptorIndex := 38, attributes := #[] }] 49 2 #[] #[])
  fields := #[]
  methods := #[k1m0, k1m1]
  instanceTypes := #[]
  staticTypes := #[]
  resolved := Array.replicate 44 none
  statics := none }

def pool2 : Array CpInfo := pool [(1, .class_ 2), (0, u "java/lang/constant/Constable"), (0, .class_ 4), (0, u "java/lang/Object")] 6

/-- java/lang/constant/Constable -/
def k2 : Class := { plain "java/lang/constant/Constable" (some 0) with
  accessFlags := 1537
  interfaces := #[]
  cf := some (fileOf pool2 1 #[] #[] 1537 3 #[] #[])
  fields := #[]
  methods := #[]
  instanceTypes := #[]
  staticTypes := #[]
  resolved := Array.replicate 11 none
  statics := none }

def pool3 : Array CpInfo := pool [(1, .class_ 2), (0, u "java/lang/Comparable"), (0, .class_ 4), (0, u "java/lang/Object")] 7

/-- java/lang/Comparable -/
def k3 : Class := { plain "java/lang/Comparable" (some 0) with
  accessFlags := 1537
  interfaces := #[]
  cf := some (fileOf pool3 1 #[] #[] 1537 3 #[] #[])
  fields := #[]
  methods := #[]
  instanceTypes := #[]
  staticTypes := #[]
  resolved := Array.replicate 12 none
  statics := none }

def pool4 : Array CpInfo := pool [(1, .class_ 2), (0, u "java/io/Serializable"), (0, .class_ 4), (0, u "java/lang/Object")] 2

/-- java/io/Serializable -/
def k4 : Class := { plain "java/io/Serializable" (some 0) with
  accessFlags := 1537
  interfaces := #[]
  cf := some (fileOf pool4 1 #[] #[] 1537 3 #[] #[])
  fields := #[]
  methods := #[]
  instanceTypes := #[]
  staticTypes := #[]
  resolved := Array.replicate 7 none
  statics := none }

def pool5 : Array CpInfo := pool [(2, .class_ 4), (1, u "java/lang/Enum"), (0, u "name"), (0, u "Ljava/lang/String;"), (2, u "ordinal"), (0, u "I"), (1, .class_ 14), (1, u "java/lang/Object"), (4, u "hash"), (86, .class_ 108), (1, u "java/lang/Enum$EnumDesc"), (2, .class_ 112), (0, u "java/lang/constant/Constable"), (0, .class_ 114), (0, u "java/lang/Comparable"), (0, .class_ 116), (0, u "java/io/Serializable")] 87

/-- java/lang/Enum -/
def k5 : Class := { plain "java/lang/Enum" (some 0) with
  accessFlags := 1057
  interfaces := #[2, 3, 4]
  cf := some (fileOf pool5 2 #[.nestMembers #[106]] #[] 1057 12 #[111, 113, 115] #[{ accessFlags := 18, nameIndex := 5, descriptorIndex := 6, attributes := #[] }, { accessFlags := 18, nameIndex := 9, descriptorIndex := 10, attributes := #[] }, { accessFlags := 2, nameIndex := 19, descriptorIndex := 10, attributes := #[] }])
  fields := #[{ name := "name", type := (.object "java/lang/String"), accessFlags := 18, slot := 0, constantValue := 0 }, { name := "ordinal", type := .int, accessFlags := 18, slot := 1, constantValue := 0 }, { name := "hash", type := .int, accessFlags := 2, slot := 2, constantValue := 0 }]
  methods := #[]
  instanceTypes := #[(.object "java/lang/String"), .int, .int]
  staticTypes := #[]
  resolved := Array.replicate 204 none
  statics := none }

def pool6 : Array CpInfo := pool [(1, .class_ 2), (0, u "com/example/viewgrant/viewgrant/ObjectType"), (2, u "FILE"), (0, u "Lcom/example/viewgrant/viewgrant/ObjectType;"), (2, u "CHANGEREQUEST"), (2, u "FOLDER"), (0, .fieldref 1 14), (0, .nameAndType 15 6), (0, u "VIEW"), (0, .fieldref 1 17), (0, .nameAndType 18 6), (0, u "VIEWS"), (2, u "PROJECT"), (2, u "$VALUES"), (0, u "[Lcom/example/viewgrant/viewgrant/ObjectType;"), (6, .class_ 34), (1, u "java/lang/Enum"), (3, .class_ 40), (1, u "com/example/viewgrant/viewgrant/ObjectType$Noun"), (11, u "word"), (0, u "Ljava/lang/String;"), (2, u "title"), (2, u "level"), (0, u "Lcom/example/viewgrant/viewgrant/Level$Kind;"), (2, u "rights"), (0, u "Ljava/util/List;"), (2, u "noun"), (0, u "Lcom/example/viewgrant/viewgrant/ObjectType$Noun;"), (93, u "recordType"), (0, u "()Lcom/example/viewgrant/viewgrant/ObjectType;"), (39, u "BY_WORD"), (0, u "Ljava/util/Map;"), (40, .class_ 247), (1, u "com/example/viewgrant/viewgrant/ObjectType$Rights")] 199

def k6c0 : Code := { maxStack := 2, maxLocals := 1, code := prog_9_method_10_code, exceptionTable := #[], attributes := #[] }
def k6m0 : Method := { name := "recordType", desc := "()Lcom/example/viewgrant/viewgrant/ObjectType;", sig := { parameters := [], returnType := some (.object "com/example/viewgrant/viewgrant/ObjectType") }, accessFlags := 1, code := some k6c0 }
/-- com/example/viewgrant/viewgrant/ObjectType -/
def k6 : Class := { plain "com/example/viewgrant/viewgrant/ObjectType" (some 5) with
  accessFlags := 16433
  interfaces := #[]
  cf := some (fileOf pool6 1 #[.nestMembers #[245, 38]] #[{ accessFlags := 1, nameIndex := 162, descriptorIndex := 163, attributes := #[] }] 16433 32 #[] #[{ accessFlags := 16409, nameIndex := 5, descriptorIndex := 6, attributes := #[] }, { accessFlags := 16409, nameIndex := 9, descriptorIndex := 6, attributes := #[] }, { accessFlags := 16409, nameIndex := 12, descriptorIndex := 6, attributes := #[] }, { accessFlags := 16409, nameIndex := 15, descriptorIndex := 6, attributes := #[] }, { accessFlags := 16409, nameIndex := 18, descriptorIndex := 6, attributes := #[] }, { accessFlags := 16409, nameIndex := 21, descriptorIndex := 6, attributes := #[] }, { accessFlags := 26, nameIndex := 203, descriptorIndex := 204, attributes := #[] }, { accessFlags := 18, nameIndex := 52, descriptorIndex := 53, attributes := #[] }, { accessFlags := 18, nameIndex := 56, descriptorIndex := 53, attributes := #[] }, { accessFlags := 18, nameIndex := 59, descriptorIndex := 60, attributes := #[] }, { accessFlags := 18, nameIndex := 63, descriptorIndex := 64, attributes := #[] }, { accessFlags := 18, nameIndex := 67, descriptorIndex := 68, attributes := #[] }, { accessFlags := 4122, nameIndex := 24, descriptorIndex := 25, attributes := #[] }])
  fields := #[{ name := "FILE", type := (.object "com/example/viewgrant/viewgrant/ObjectType"), accessFlags := 16409, slot := 0, constantValue := 0 }, { name := "CHANGEREQUEST", type := (.object "com/example/viewgrant/viewgrant/ObjectType"), accessFlags := 16409, slot := 1, constantValue := 0 }, { name := "FOLDER", type := (.object "com/example/viewgrant/viewgrant/ObjectType"), accessFlags := 16409, slot := 2, constantValue := 0 }, { name := "VIEW", type := (.object "com/example/viewgrant/viewgrant/ObjectType"), accessFlags := 16409, slot := 3, constantValue := 0 }, { name := "VIEWS", type := (.object "com/example/viewgrant/viewgrant/ObjectType"), accessFlags := 16409, slot := 4, constantValue := 0 }, { name := "PROJECT", type := (.object "com/example/viewgrant/viewgrant/ObjectType"), accessFlags := 16409, slot := 5, constantValue := 0 }, { name := "BY_WORD", type := (.object "java/util/Map"), accessFlags := 26, slot := 6, constantValue := 0 }, { name := "word", type := (.object "java/lang/String"), accessFlags := 18, slot := 3, constantValue := 0 }, { name := "title", type := (.object "java/lang/String"), accessFlags := 18, slot := 4, constantValue := 0 }, { name := "level", type := (.object "com/example/viewgrant/viewgrant/Level$Kind"), accessFlags := 18, slot := 5, constantValue := 0 }, { name := "rights", type := (.object "java/util/List"), accessFlags := 18, slot := 6, constantValue := 0 }, { name := "noun", type := (.object "com/example/viewgrant/viewgrant/ObjectType$Noun"), accessFlags := 18, slot := 7, constantValue := 0 }, { name := "$VALUES", type := (.array (.object "com/example/viewgrant/viewgrant/ObjectType")), accessFlags := 4122, slot := 7, constantValue := 0 }]
  methods := #[k6m0]
  instanceTypes := #[(.object "java/lang/String"), .int, .int, (.object "java/lang/String"), (.object "java/lang/String"), (.object "com/example/viewgrant/viewgrant/Level$Kind"), (.object "java/util/List"), (.object "com/example/viewgrant/viewgrant/ObjectType$Noun")]
  staticTypes := #[(.object "com/example/viewgrant/viewgrant/ObjectType"), (.object "com/example/viewgrant/viewgrant/ObjectType"), (.object "com/example/viewgrant/viewgrant/ObjectType"), (.object "com/example/viewgrant/viewgrant/ObjectType"), (.object "com/example/viewgrant/viewgrant/ObjectType"), (.object "com/example/viewgrant/viewgrant/ObjectType"), (.object "java/util/Map"), (.array (.object "com/example/viewgrant/viewgrant/ObjectType"))]
  resolved := Array.replicate 447 none
  statics := some 0 }

def pool7 : Array CpInfo := pool [(1, u "java/lang/Cloneable"), (0, .class_ 1), (0, u "java/lang/Object"), (0, .class_ 3)] 3

/-- java/lang/Cloneable -/
def k7 : Class := { plain "java/lang/Cloneable" (some 0) with
  accessFlags := 1537
  interfaces := #[]
  cf := some (fileOf pool7 2 #[] #[] 1537 4 #[] #[])
  fields := #[]
  methods := #[]
  instanceTypes := #[]
  staticTypes := #[]
  resolved := Array.replicate 8 none
  statics := none }

/-- the primitive byte -/
def k8 : Class := { plain "byte" none with kind := .primitive 'B', accessFlags := 0x411 }
/-- [B -/
def k9 : Class := { plain "[B" (some 0) with kind := .array 8 .byte, interfaces := #[7, 4], accessFlags := 1041 }

/-- the primitive int -/
def k10 : Class := { plain "int" none with kind := .primitive 'I', accessFlags := 0x411 }
/-- [I -/
def k11 : Class := { plain "[I" (some 0) with kind := .array 10 .int, interfaces := #[7, 4], accessFlags := 1041 }

/-- [Lcom/example/viewgrant/viewgrant/ObjectType; -/
def k12 : Class := { plain "[Lcom/example/viewgrant/viewgrant/ObjectType;" (some 0) with kind := .array 6 (.object "com/example/viewgrant/viewgrant/ObjectType"), interfaces := #[7, 4], accessFlags := 1041 }

def heap : Heap := #[{ cls := 6, slots := #[.ref 1, .ref 2, .ref 3, .ref 4, .ref 5, .ref 6, .null, .null], vm := .statics 6 },
  { cls := 6, slots := #[.null, .int 0, .int 0, .null, .null, .null, .null, .null], vm := .none },
  { cls := 6, slots := #[.null, .int 1, .int 0, .null, .null, .null, .null, .null], vm := .none },
  { cls := 6, slots := #[.null, .int 2, .int 0, .null, .null, .null, .null, .null], vm := .none },
  { cls := 6, slots := #[.null, .int 3, .int 0, .null, .null, .null, .null, .null], vm := .none },
  { cls := 6, slots := #[.null, .int 4, .int 0, .null, .null, .null, .null, .null], vm := .none },
  { cls := 6, slots := #[.null, .int 5, .int 0, .null, .null, .null, .null, .null], vm := .none }]
def classes : Array Class := #[k0, k1, k2, k3, k4, k5, k6, k7, k8, k9, k10, k11, k12]
def interned : List (Array UInt16 × Addr) := []
def slotsUsed : Nat := 56
def theMethod : MethodId := ⟨1, 1⟩
def args0 : Array Value := #[.int 5]
def aboutOver (below : List Frame) : State where
  vm := { classes := classes, interned := interned.toArray }
  heap := heap
  slotsUsed := slotsUsed
  threads := #[{ frames := .invoking theMethod args0 :: below }]
def below0 : List Frame := [.native { method := ⟨0, 0⟩, args := #[] }]
def about1 : State := aboutOver below0
def p0 : Program := .bare "" "" ""
def e0 : Env := launch0.env 0 0 0
theorem w_frames : about1.frames = Frame.invoking theMethod args0 :: below0 := rfl
set_option maxRecDepth 65536 in
theorem w_args : argsFit about1.vm theMethod args0 = true := by decide +kernel
set_option maxRecDepth 65536 in
theorem w_heap : heapFits about1 = true := by decide +kernel
set_option maxRecDepth 65536 in
theorem w_runnable : about1.curStatus? = some .runnable := by decide +kernel
set_option maxRecDepth 65536 in
theorem w_alone : about1.alone = true := by decide +kernel
set_option maxRecDepth 65536 in
theorem w_named : about1.methodNamed? x = some theMethod := by decide +kernel
set_option maxRecDepth 65536 in
theorem w_hears : about1.hears theMethod below0 = true := by decide +kernel
set_option maxRecDepth 65536 in
theorem w_ripe : about1.ripe theMethod args0 below0 = true := by decide +kernel
theorem w_running : about1.status = .running := rfl
set_option maxRecDepth 65536 in
theorem w_room : about1.hasRoom e0.platform room_1 = true :=
  launch0.hasRoom_least _ room_1 (by decide +kernel) (by decide +kernel) (by decide +kernel) (by decide +kernel) (by decide +kernel) (by decide +kernel)
theorem allAtoms_all (ts : List Jvm.Cond) (a : Array Jvm.Value) (st : Jvm.State) : (allAtoms ts).before a st = ts.all (fun c => c.before a st) := by
  induction ts with
  | nil => rfl
  | cons c t ih =>
    show (Jvm.Cond.and c (allAtoms t)).before a st = _
    rw [Jvm.Cond.before_and, ih, List.all_cons]
def words1 : List Jvm.Cond := Jvm.Cond.code x code maxLocals ret :: tables_1
/-- a 'code' word, met by the world's own term for the bytes: nothing is compared byte by byte -/
theorem code_word {y : MethodName} {bytes : ByteArray} {mx : Nat} {rt : Option FieldType} {a : Array Value} {s : State} {m : MethodId} {meth : Method} {c : Code} (h1 : s.methodNamed? y = some m) (h2 : s.vm.method? m = some meth) (h3 : meth.code = some c) (h4 : c.code = bytes)
    (h5 : (c.maxLocals == mx && c.exceptionTable.isEmpty && decide (c.maxStack ≤ mostOperands) && decide (meth.sig.returnType = rt) && !meth.locks && decide (parseMethodDescriptor y.desc = some meth.sig)) = true) : (Jvm.Cond.code y bytes mx rt).before a s = true := by
  simp only [Bool.and_eq_true, beq_iff_eq, Bool.not_eq_true', decide_eq_true_eq] at h5
  obtain ⟨⟨⟨⟨⟨g1, g2⟩, g3⟩, g4⟩, g5⟩, g6⟩ := h5
  simp [Cond.before, Cond.holds, Cond.value, h1, h2, h3, h4, g1, g2, g3, g4, g5, g6]
def isCode : Jvm.Cond → Bool
  | .code _ _ _ _ => true
  | _ => false
theorem all_split {L : List Jvm.Cond} {P : Jvm.Cond → Bool} (h1 : L.all (fun c => isCode c || P c) = true) (h2 : ∀ c ∈ L.filter isCode, P c = true) : L.all P = true := by
  refine List.all_eq_true.mpr fun c hc => ?_
  have h := List.all_eq_true.mp h1 c hc
  rcases Bool.eq_false_or_eq_true (isCode c) with hi | hi
  · exact h2 c (List.mem_filter.mpr ⟨hc, hi⟩)
  · simpa [hi] using h
set_option maxRecDepth 65536 in
theorem w_c0 : (Jvm.Cond.code x code maxLocals ret).before args0 about1 = true := code_word (m := ⟨1, 1⟩) (meth := k1m1) (c := k1c1) (by decide +kernel) rfl rfl rfl (by decide +kernel)
set_option maxRecDepth 65536 in
theorem w_c1 : (Jvm.Cond.code ({ cls := "com/example/viewgrant/viewgrant/ObjectType", name := "recordType", desc := "()Lcom/example/viewgrant/viewgrant/ObjectType;" } : Jvm.MethodName) prog_9_method_10_code (1 : Nat) (Option.some (Jvm.ClassFile.FieldType.object "com/example/viewgrant/viewgrant/ObjectType"))).before args0 about1 = true := code_word (m := ⟨6, 0⟩) (meth := k6m0) (c := k6c0) (by decide +kernel) rfl rfl rfl (by decide +kernel)
def codes1 : List Jvm.Cond := [Jvm.Cond.code x code maxLocals ret, Jvm.Cond.code ({ cls := "com/example/viewgrant/viewgrant/ObjectType", name := "recordType", desc := "()Lcom/example/viewgrant/viewgrant/ObjectType;" } : Jvm.MethodName) prog_9_method_10_code (1 : Nat) (Option.some (Jvm.ClassFile.FieldType.object "com/example/viewgrant/viewgrant/ObjectType"))]
set_option maxRecDepth 65536 in
theorem codes_eq : words1.filter isCode = codes1 := rfl
theorem w_codes : ∀ c ∈ words1.filter isCode, c.before args0 about1 = true := by
  rw [codes_eq]
  intro c hc
  simp only [codes1, List.mem_cons, List.not_mem_nil, or_false] at hc
  rcases hc with rfl | rfl
  · exact w_c0
  · exact w_c1
set_option maxRecDepth 65536 in
theorem w_t1 : (words1.take 24).all (fun c => isCode c || c.before args0 about1) = true := by decide +kernel
set_option maxRecDepth 65536 in
theorem w_t2 : (words1.drop 24).all (fun c => isCode c || c.before args0 about1) = true := by decide +kernel
theorem w_tables : (allAtoms (Jvm.Cond.code x code maxLocals ret :: tables_1)).before args0 about1 = true := by
  rw [allAtoms_all]
  show words1.all (fun c => c.before args0 about1) = true
  refine all_split ?_ w_codes
  rw [← List.take_append_drop 24 words1, List.all_append, w_t1, w_t2]
  rfl
set_option maxRecDepth 65536 in
theorem w_case : (Jvm.Cond.and given_1 narrow_1).before args0 about1 = true := by decide +kernel
theorem w_applies : (headSpec (Jvm.Cond.code x code maxLocals ret :: tables_1) room_1).applies x e0.platform about1 = true :=
  (Spec.applies_iff w_frames).mpr ⟨w_running, w_runnable, w_alone, w_named, w_hears, w_ripe, w_room, w_tables⟩
theorem atStart : AtStart classFile x code maxLocals ret World_1 tables_1 room_1 Calls_1 rest_1 Pre_1 launch0 p0 e0 about1 theMethod args0 below0 :=
  ⟨lists_1, trivial, launch0.admits_env _ _ _, launch0.least_env, fairChoices_fair.cas, fairChoices_fair.clock, w_frames, w_args, w_heap, w_applies, trivial, trivial, w_case⟩
end start1
theorem witness_1 : WitnessClaimed_1 := ⟨start1.p0, start1.e0, start1.about1, start1.theMethod, start1.args0, start1.below0, start1.atStart⟩
end Jvm.Pilot.@@N@@
