import JvmDerived
import JvmDerived.Pilot.@@N@@Statement
import JvmDerived.Pilot.@@N@@Code
set_option linter.unusedVariables false
set_option linter.unusedSimpArgs false
namespace Jvm.RoadKit
open Sem ClassFile Op Lib Jvm.Stand Jvm.Free Jvm.LawKit
section New
variable {p : Program} {l : Launch} {e : Env} {R : Room} {s : State} {m : MethodId} {args : Array Value} {below : List Frame} {meth : Method} {c : Code} {T : State} {locs : List Loc} {cells slots : Nat}
theorem retI (X : Stand p l e R s m args below meth c T locs cells slots) (hx : p.tables.exec = Jvm.exec) {pc : Nat} {Ls : Array Slot} {z : Int32} {rest : List Value} (hret : meth.sig.returnType = some .int) (hd : decode c.code pc = .ok (.ireturn, 1)) {fs : List Frame}
    (hl : ∀ (f : JFrame) (acts : List Action), f.method = m → f.locked = none → f.entered = [] → (doReturn e (T.setTop f) acts (some (.int z))).1 = T.setFrames fs) : Steps p.tables e below (T.setTop (mkF m pc Ls (.int z :: rest))) (T.setFrames fs) := by
  have hm' : T.vm.method? m = some meth := X.method'
  have hn : narrow .int (.int z) = .int z := rfl
  show Steps p.tables e below (T.setTop { method := m, pc := pc, locals := Ls, stack := _ :: rest, locked := none }) _
  jvm_step X.here [X.here.top, hx, hd, hm', hret, hn]
  first | (intro acts; rw [hl _ acts rfl rfl rfl]) | rw [hl _ _ rfl rfl rfl]
  exact Steps.refl _
/-- from the state a the run ends, within its caller's frames, in an outcome of which P holds -/
def own_Endz (tb : Tables) (e : Env) (below : List Frame) (P : Outcome → State → Prop) (a : State) : Prop := ∃ s₂ o, Steps tb e below a s₂ ∧ s₂.status = .running ∧ Ended s₂ below o ∧ P o s₂
abbrev own_EndQ (s : State) (k n : Nat) (Q : Option Value → Heap → List Loc → Prop) : Outcome → State → Prop := fun o U' => ∃ v L, o = .returned v ∧ Q v U'.heap L ∧ FrameEnd s o U' L k n
theorem own_go {tb : Tables} {P : Outcome → State → Prop} {a b : State} (h : ∀ t, Steps tb e below b t → Steps tb e below a t) (k : own_Endz tb e below P b) : own_Endz tb e below P a := by
  obtain ⟨s2, o, h1, r⟩ := k
  exact ⟨s2, o, h _ h1, r⟩
theorem own_tr {tb : Tables} {P : Outcome → State → Prop} {a b : State} (h : Steps tb e below a b) (k : own_Endz tb e below P b) : own_Endz tb e below P a := by
  obtain ⟨s2, o, h1, r⟩ := k
  exact ⟨s2, o, h.trans h1, r⟩
theorem own_cast {tb : Tables} {P : Outcome → State → Prop} {g g' : JFrame} (q : g = g') (k : own_Endz tb e below P (T.setTop g')) : own_Endz tb e below P (T.setTop g) := q ▸ k
theorem own_retN (X : Stand p l e R s m args below meth c T locs cells slots) (hx : p.tables.exec = Jvm.exec) (hlk : meth.locks = false) {pc : Nat} {Ls : Array Slot} {z : Int32} {t : FieldType} {rest : List Value} (hret : meth.sig.returnType = some t) (ht : t = .boolean ∨ t = .byte ∨ t = .char ∨ t = .short)
    (hd : decode c.code pc = .ok (.ireturn, 1)) {k n : Nat} {Q : Option Value → Heap → List Loc → Prop} (hk : cells ≤ k) (hn : slots ≤ n) (q : Q (some (.int (nar t z))) T.heap locs) : own_Endz p.tables e below (own_EndQ s k n Q) (T.setTop (mkF m pc Ls (.int z :: rest))) := by
  obtain ⟨fs, hr, hrun, hended, hW, hsame⟩ := X.leave (v := some (.int (nar t z))) (fun h => by rw [hret] at h; cases h) hlk
  exact ⟨_, _, retN X hx hret ht hd hr, hrun, hended, _, _, rfl, q, ⟨_, rfl⟩, hW, hsame.mono hk hn⟩
theorem own_retI (X : Stand p l e R s m args below meth c T locs cells slots) (hx : p.tables.exec = Jvm.exec) (hlk : meth.locks = false) {pc : Nat} {Ls : Array Slot} {z : Int32} {rest : List Value} (hret : meth.sig.returnType = some .int)
    (hd : decode c.code pc = .ok (.ireturn, 1)) {k n : Nat} {Q : Option Value → Heap → List Loc → Prop} (hk : cells ≤ k) (hn : slots ≤ n) (q : Q (some (.int z)) T.heap locs) : own_Endz p.tables e below (own_EndQ s k n Q) (T.setTop (mkF m pc Ls (.int z :: rest))) := by
  obtain ⟨fs, hr, hrun, hended, hW, hsame⟩ := X.leave (v := some (.int z)) (fun h => by rw [hret] at h; cases h) hlk
  exact ⟨_, _, retI X hx hret hd hr, hrun, hended, _, _, rfl, q, ⟨_, rfl⟩, hW, hsame.mono hk hn⟩
theorem own_retA (X : Stand p l e R s m args below meth c T locs cells slots) (hx : p.tables.exec = Jvm.exec) (hlk : meth.locks = false) {pc : Nat} {Ls : Array Slot} {w : Value} {t : FieldType} {rest : List Value} (hret : meth.sig.returnType = some t) (ht : t.isReference = true) (hw : w.isRef = true)
    (hd : decode c.code pc = .ok (.areturn, 1)) {k n : Nat} {Q : Option Value → Heap → List Loc → Prop} (hk : cells ≤ k) (hn : slots ≤ n) (q : Q (some w) T.heap locs) : own_Endz p.tables e below (own_EndQ s k n Q) (T.setTop (mkF m pc Ls (w :: rest))) := by
  obtain ⟨fs, hr, hrun, hended, hW, hsame⟩ := X.leave (v := some w) (fun h => by rw [hret] at h; cases h) hlk
  have hnw : narrow t w = w := by cases t <;> first | (cases ht; done) | rfl
  exact ⟨_, _, retOut X hx hret hnw (Or.inr (Or.inr (Or.inr (Or.inr ⟨rfl, ht, hw⟩)))) hd hr, hrun, hended, _, _, rfl, q, ⟨_, rfl⟩, hW, hsame.mono hk hn⟩
theorem own_retV (X : Stand p l e R s m args below meth c T locs cells slots) (hx : p.tables.exec = Jvm.exec) (hlk : meth.locks = false) {pc : Nat} {Ls : Array Slot} (hret : meth.sig.returnType = none)
    (hd : decode c.code pc = .ok (.return_, 1)) {k n : Nat} {Q : Option Value → Heap → List Loc → Prop} (hk : cells ≤ k) (hn : slots ≤ n) (q : Q none T.heap locs) : own_Endz p.tables e below (own_EndQ s k n Q) (T.setTop (mkF m pc Ls [])) := by
  obtain ⟨fs, hr, hrun, hended, hW, hsame⟩ := X.leave (v := none) (fun _ => rfl) hlk
  exact ⟨_, _, X.returnOut hx hret hd hr, hrun, hended, _, _, rfl, q, ⟨_, rfl⟩, hW, hsame.mono hk hn⟩
theorem own_ev {t u : Term} {k : Int32} {args : Array Value} (h : (Cond.eq t (.int k)).value args s none s [] = some true) : t.eval args s none [] s = some (.int k) := by
  simp only [Cond.value, Term.eval] at h
  split at h <;> simp_all
theorem own_fld {t : Term} {C n d : String} {k : Int32} {x : Addr} {args : Array Value} (ht : t.eval args s none [] s = some (.ref x)) (h : (Cond.eq (.field t C n d) (.int k)).value args s none s [] = some true) : Fld s s.heap x C n d (.int k) :=
  Fld.start ((fld_at ht).symm.trans (own_ev (u := t) h))
theorem own_enum {Z : State} {h : Heap} {C f d : String} {ad : Nat → Addr} {n : Nat} (hn : n ≤ 2 ^ 31) (F : ∀ i, i < n → Fld Z h (ad i) C f d (.int i.toInt32)) (i j : Nat) (hi : i < n) (hj : j < n) : ad i = ad j ↔ i = j := by
  refine ⟨fun q => Classical.byContradiction fun ne => (F i hi).ne (F j hj) (fun v => ne ?_) q, fun q => q ▸ rfl⟩
  have q1 := congrArg Int32.toInt (Value.int.inj v)
  rw [len_toInt (by omega), len_toInt (by omega)] at q1
  omega
theorem own_cat {v : Value} (h : v.isRef = true) : v.category = 1 := by cases v <;> first | rfl | (cases h)
theorem own_evR {t u : Term} {a : Addr} {args : Array Value} (hu : u.eval args s none [] s = some (.ref a)) (h : (Cond.eq t u).value args s none s [] = some true) : t.eval args s none [] s = some (.ref a) := by
  simp only [Cond.value, hu] at h
  split at h <;> simp_all
theorem own_len {t : Term} {x : Addr} {cl : Cell} {k : Int32} {args : Array Value} (ht : t.eval args s none [] s = some (.ref x)) (hc : s.heap[x]? = some cl) (h : (Cond.eq (.length t) (.int k)).value args s none s [] = some true) : cl.slots.size.toInt32 = k ∧ cl.slots.size < 2 ^ 31 := by
  have e := own_ev (u := t) h
  obtain ⟨x', cl', e1, e2, e3⟩ := Term.length_spec e
  cases ht.symm.trans e1
  have e4 : cl' = cl := by
    simp only [State.arrayAt?, Option.bind_eq_bind, hc, Option.bind_some] at e2
    obtain ⟨k1, -, e2⟩ := Option.bind_eq_some_iff.mp e2
    split at e2
    · cases e2
    · split at e2
      · exact (Option.some.inj e2).symm
      · cases e2
  subst e4
  refine ⟨(Value.int.inj e3).symm, Classical.byContradiction fun hn => ?_⟩
  simp [Term.eval, ht, e2] at e
  exact hn e.1
theorem own_elem {t u : Term} {x a : Addr} {cl : Cell} {k : Int32} {args : Array Value} (ht : t.eval args s none [] s = some (.ref x)) (hc : s.heap[x]? = some cl) (hu : u.eval args s none [] s = some (.ref a)) (h : (Cond.eq (.elem t (.int k)) u).value args s none s [] = some true) : cl.slots[k.toNatClampNeg]? = some (.ref a) := by
  have e := own_evR hu h
  exact (elem_in e ht (Term.int_eval k) hc).2
theorem own_ite {α : Type} {P : α → Prop} {q : Prop} [Decidable q] {a b : α} (ha : P a) (hb : P b) : P (if q then a else b) := by split <;> assumption
theorem own_selp {C : String} {y y' : MethodName} {args a1 : Array Value} (hs : (Cond.selects C y' y').before args s = true) (hC : y'.cls = y.cls) (hpriv : s.PrivateAt y) (hinst : (Cond.instanceMethod y).before a1 s = true) (hy : y.cls ≠ "java/lang/invoke/MethodHandle" ∧ y.cls ≠ "java/lang/invoke/VarHandle") : (Cond.selects y.cls y y).before a1 s = true := by
  obtain ⟨c, r, mm, f1, f2, f3, f4, k, k1, k2⟩ := Cond.selects_spec hs
  have hc := findClass_of_methodNamed f3
  rw [hC] at hc
  exact Jvm.Stand.selects_self_of_private hc k1 k2 hpriv hinst hy
theorem own_i {x y : Int32} (h : x ≠ y) : (Value.int x) ≠ .int y := fun q => h (Value.int.inj q)
theorem own_at {h : Heap} {a : Addr} {cl : Cell} (E : T.heap = h) (q : h[a]? = some cl) : T.heap[a]? = some cl := by rw [E]; exact q
end New
end Jvm.RoadKit
namespace Jvm.RoadKit
open Sem ClassFile Op Lib Jvm.Stand Jvm.Free Jvm.LawKit
section Litz
variable {p : Program} {l : Launch} {e : Env} {R : Room} {s Z : State} {m : MethodId} {args a0 : Array Value} {below : List Frame} {meth : Method} {c : Code} {T : State} {locs : List Loc} {cells slots : Nat} {h h' : Heap} {vm0 vm1 : Vm} {Ts Te : List String} {k0 : Nat}
def own_Le (k : Nat) (h : Heap) : Prop := k ≤ h.size
theorem own_Le.ext {k : Nat} (L : own_Le k h) (E : Ext h h') : own_Le k h' := Nat.le_trans L E.1
theorem own_Le.wr {k sl : Nat} {a : Addr} {v : Value} (L : own_Le k h) (W : Wr h h' a sl v) : own_Le k h' := Nat.le_trans L (Keep.of_wr W).1
theorem own_Le.keep {k : Nat} {ws : List Addr} (L : own_Le k h) (K : Keep h h' ws) : own_Le k h' := Nat.le_trans L K.1
theorem own_LeT {k : Nat} (L : own_Le k h) (E : T.heap = h) : own_Le k T.heap := E ▸ L
theorem own_IBm (I : IB Z vm0 Ts) (q : vm1.interned = vm0.interned) (hs : ∀ t ∈ Ts, t ∈ Te) : IB Z vm1 Te := by
  obtain ⟨more, h1, h2⟩ := I
  exact ⟨more, q.trans h1, fun z hz => by obtain ⟨t, r1, r2⟩ := h2 z hz; exact ⟨t, hs t r1, r2⟩⟩
/-- a Latin-1 String that spells cs -/
def own_St (Z : State) (h : Heap) (a : Addr) (cs : List Int32) : Prop := ∃ (t : Addr) (kb : ClassId), Exa Z h a "java/lang/String" ∧ Fld Z h a "java/lang/String" "value" "[B" (.ref t) ∧ Fld Z h a "java/lang/String" "coder" "B" (.int 0) ∧ Arv Z h t kb .byte (Int32.ofNat cs.length) ((cs.map fun c => c.toInt8.toInt32).map Value.int) (.int 0) ∧ (∀ c ∈ cs, ¬ c < 0 ∧ ¬ (255 : Int32) < c) ∧ cs.length ≤ 4000
theorem own_St.ext {a : Addr} {cs : List Int32} (S : own_St Z h a cs) (E : Ext h h') : own_St Z h' a cs := by
  obtain ⟨t, kb, h1, h2, h3, h4, h5⟩ := S
  exact ⟨t, kb, h1.ext E, h2.ext E, h3.ext E, h4.ext E, h5⟩
theorem own_St.keep {a : Addr} {cs : List Int32} (S : own_St Z h a cs) (K : Keep h h' []) (q : a ∉ ([] : List Addr)) : own_St Z h' a cs := S.ext ⟨K.1, fun x c r => K.2.1 x c r (List.not_mem_nil)⟩
theorem own_St.exa {a : Addr} {cs : List Int32} (S : own_St Z h a cs) : Exa Z h a "java/lang/String" := by
  obtain ⟨t, kb, h1, -⟩ := S
  exact h1
theorem own_St.lt {a : Addr} {cs : List Int32} (S : own_St Z h a cs) : a < h.size := S.exa.lt
theorem own_ldc (X : Stand p l e R (s.setVm vm0) m args below meth c T locs cells slots) (hx : p.tables.exec = Jvm.exec) (hZ : Z.Warmed39 (s.setVm vm0).vm) {own text : String} {index : Nat} (hown : (s.setVm vm0).vm.findClass own = some m.cls) (w : (Cond.stringLink own index text).before a0 Z = true) (wS : ∀ a ∈ Bundle.stringAtoms, a.before a0 Z = true)
    (eT : T.heap = h) (hS : s.Since vm0 k0) (hk : own_Le k0 h) (N : Fr s.heap.size locs) (hkeep : ∀ (b : Addr) (cl : Cell), Z.heap[b]? = some cl → s.heap[b]? = some cl) (I : IB Z vm0 Ts) (hnot : text ∉ Ts) (hh : Jvm.Lit.constHeld Z own index) (hcw : Jvm.Lit.compactW.before a0 Z = true)
    {cs : List Int32} (ht : (∀ c ∈ text.toList, c.toNat < 256) ∧ text.toList.map (fun c => Value.int (Jvm.Lit.byteI c.toNat.toUInt16)) = (cs.map fun c => c.toInt8.toInt32).map Value.int) (hlat : ∀ c ∈ cs, ¬ c < 0 ∧ ¬ (255 : Int32) < c) (h4 : cs.length ≤ 4000)
    {g : JFrame} (hg : g.method = m) (hd : decode c.code g.pc = .ok (.ldc index, 2)) {n : Nat} (hn : 4 * text.toList.length ≤ n) (hbig : n ≤ 536870912) (hc : cells + 2 ≤ R.cells) (hl' : slots + (n + 4) ≤ R.slots) :
    ∃ (a : Addr) (T' : State) (h' : Heap) (k1 : Nat), Stand p l e R (s.setVm T'.vm) m args below meth c T' locs (cells + 2) (slots + (n + 4)) ∧ T'.heap = h' ∧ Ext h h' ∧ s.Since T'.vm k1 ∧ own_Le k1 h' ∧ Z.Warmed39 (s.setVm T'.vm).vm ∧ (s.setVm T'.vm).vm.findClass own = some m.cls ∧ own_St Z h' a cs ∧ IB Z T'.vm (text :: Ts) ∧ Lit (s.setVm T'.vm) own index a ∧
      ∀ target, Steps p.tables e below (T'.setTop { g with pc := g.pc + 2, stack := .ref a :: g.stack }) target → Steps p.tables e below (T.setTop g) target := by
  have e1 : ((Int32.ofNat cs.length).toInt) = (cs.length : Int) := len_toInt (n := cs.length) (by omega)
  have z0 : ¬ Int32.ofNat cs.length < 0 := by rw [Int32.lt_iff_toInt_lt, e1]; have e0 : (0 : Int32).toInt = 0 := by decide
                                              omega
  have z1 : (Int32.ofNat cs.length).toNatClampNeg = ((cs.map fun c => c.toInt8.toInt32).map Value.int).length := by simp only [Int32.toNatClampNeg, e1, List.length_map]; omega
  obtain ⟨a, T', h', k1, b, k, r1, r2, r3, r4, r5, r6, r7, r8, r9, r10, r11, r12, r13, r14, r15, r16⟩ := ldcSVL X hx hZ hown w wS eT hS hk N hkeep I hnot hh hcw ht z0 z1 hg hd hn hbig hc hl'
  exact ⟨a, T', h', k1, r1, r2, r3, r4, r5, r6, r7, ⟨b, k, r8, r10, r9, r11, hlat, h4⟩, r14, r15, r16⟩
abbrev own_EndW (Z s : State) (Te : List String) (k n : Nat) (Q : Option Value → Heap → List Loc → Prop) : Outcome → State → Prop := fun o U' => ∃ v L, o = .returned v ∧ Q v U'.heap L ∧ IB Z U'.vm Te ∧ ReturnedEndW s o U' L k n
theorem own_endW (X : Stand p l e R (s.setVm vm0) m args below meth c T locs cells slots) (hlk : meth.locks = false) (hS : s.Since vm0 k0) (hk : own_Le k0 T.heap) (I : IB Z vm0 Ts) (hs : ∀ t ∈ Ts, t ∈ Te) {v : Option Value} (hv : meth.sig.returnType = none → v = none) {k n : Nat} {Q : Option Value → Heap → List Loc → Prop} (hk' : cells ≤ k) (hn : slots ≤ n) (q : Q v T.heap locs)
    (a : State) (st : ∀ fs, (∀ (f : JFrame) (acts : List Action), f.method = m → f.locked = none → f.entered = [] → (doReturn e (T.setTop f) acts v).1 = T.setFrames fs) → Steps p.tables e below a (T.setFrames fs)) : own_Endz p.tables e below (own_EndW Z s Te k n Q) a := by
  obtain ⟨fs, hr, hrun, hended, e1, e2, e3, e4⟩ := X.leaveW hS hk (v := v) hv hlk
  exact ⟨_, _, st fs hr, hrun, hended, v, locs, rfl, q, own_IBm I X.warmed.interned_eq hs, e1, e2, e3, e4.mono hk' hn⟩
theorem own_retNW (X : Stand p l e R (s.setVm vm0) m args below meth c T locs cells slots) (hx : p.tables.exec = Jvm.exec) (hlk : meth.locks = false) (hS : s.Since vm0 k0) (hk : own_Le k0 T.heap) (I : IB Z vm0 Ts) (hs : ∀ t ∈ Ts, t ∈ Te) {pc : Nat} {Ls : Array Slot} {z : Int32} {t : FieldType} {rest : List Value} (hret : meth.sig.returnType = some t) (ht : t = .boolean ∨ t = .byte ∨ t = .char ∨ t = .short)
    (hd : decode c.code pc = .ok (.ireturn, 1)) {k n : Nat} {Q : Option Value → Heap → List Loc → Prop} (hk' : cells ≤ k) (hn : slots ≤ n) (q : Q (some (.int (nar t z))) T.heap locs) : own_Endz p.tables e below (own_EndW Z s Te k n Q) (T.setTop (mkF m pc Ls (.int z :: rest))) :=
  own_endW X hlk hS hk I hs (fun h => by rw [hret] at h; cases h) hk' hn q _ fun _ hr => retN X hx hret ht hd hr
theorem own_retIW (X : Stand p l e R (s.setVm vm0) m args below meth c T locs cells slots) (hx : p.tables.exec = Jvm.exec) (hlk : meth.locks = false) (hS : s.Since vm0 k0) (hk : own_Le k0 T.heap) (I : IB Z vm0 Ts) (hs : ∀ t ∈ Ts, t ∈ Te) {pc : Nat} {Ls : Array Slot} {z : Int32} {rest : List Value} (hret : meth.sig.returnType = some .int)
    (hd : decode c.code pc = .ok (.ireturn, 1)) {k n : Nat} {Q : Option Value → Heap → List Loc → Prop} (hk' : cells ≤ k) (hn : slots ≤ n) (q : Q (some (.int z)) T.heap locs) : own_Endz p.tables e below (own_EndW Z s Te k n Q) (T.setTop (mkF m pc Ls (.int z :: rest))) :=
  own_endW X hlk hS hk I hs (fun h => by rw [hret] at h; cases h) hk' hn q _ fun _ hr => retI X hx hret hd hr
theorem own_retAW (X : Stand p l e R (s.setVm vm0) m args below meth c T locs cells slots) (hx : p.tables.exec = Jvm.exec) (hlk : meth.locks = false) (hS : s.Since vm0 k0) (hk : own_Le k0 T.heap) (I : IB Z vm0 Ts) (hs : ∀ t ∈ Ts, t ∈ Te) {pc : Nat} {Ls : Array Slot} {w : Value} {t : FieldType} {rest : List Value} (hret : meth.sig.returnType = some t) (ht : t.isReference = true) (hw : w.isRef = true)
    (hd : decode c.code pc = .ok (.areturn, 1)) {k n : Nat} {Q : Option Value → Heap → List Loc → Prop} (hk' : cells ≤ k) (hn : slots ≤ n) (q : Q (some w) T.heap locs) : own_Endz p.tables e below (own_EndW Z s Te k n Q) (T.setTop (mkF m pc Ls (w :: rest))) := by
  have hnw : narrow t w = w := by cases t <;> first | (cases ht; done) | rfl
  exact own_endW X hlk hS hk I hs (fun h => by rw [hret] at h; cases h) hk' hn q _ fun _ hr => retOut X hx hret hnw (Or.inr (Or.inr (Or.inr (Or.inr ⟨rfl, ht, hw⟩)))) hd hr
theorem own_retVW (X : Stand p l e R (s.setVm vm0) m args below meth c T locs cells slots) (hx : p.tables.exec = Jvm.exec) (hlk : meth.locks = false) (hS : s.Since vm0 k0) (hk : own_Le k0 T.heap) (I : IB Z vm0 Ts) (hs : ∀ t ∈ Ts, t ∈ Te) {pc : Nat} {Ls : Array Slot} (hret : meth.sig.returnType = none)
    (hd : decode c.code pc = .ok (.return_, 1)) {k n : Nat} {Q : Option Value → Heap → List Loc → Prop} (hk' : cells ≤ k) (hn : slots ≤ n) (q : Q none T.heap locs) : own_Endz p.tables e below (own_EndW Z s Te k n Q) (T.setTop (mkF m pc Ls [])) :=
  own_endW X hlk hS hk I hs (fun _ => rfl) hk' hn q _ fun _ hr => X.returnOut hx hret hd hr
/-- a callee that may intern, and whose word tells of the texts interned -/
theorem own_backS {y : MethodName} {bytes : ByteArray} {maxL : Nat} {ret : Option FieldType} {rm : Room} {len W : Nat} {as' : Array Value} {Q : Option Value → Heap → List Loc → Prop}
    (hM : MetFree l y (head1 [Cond.code y bytes maxL ret] rm) (fun a U => a = as' ∧ Z.Warmed39 U.vm ∧ U.heap = h ∧ IB Z U.vm Ts) (fun _ _ _ _ _ => True) (fun _ U o U' => ∃ v L, o = .returned v ∧ Q v U'.heap L ∧ IB Z U'.vm Te ∧ ReturnedEndW U o U' L rm.cells rm.slots))
    (hZ : Z.Warmed39 s.vm) (I : IB Z s.vm Ts) (wc : (Cond.code y bytes maxL ret).before a0 Z = true) (wz : (Cond.initialized y.cls).before a0 Z = true) (hf : rm.frames + 1 ≤ R.frames) (hl : W + (maxL + 11) + rm.locals ≤ R.locals) :
    BackS l R p e below s args y len W (fun A a => a = as' ∧ A.U.heap = h ∧ A.cells + rm.cells ≤ R.cells ∧ A.slots + rm.slots ≤ R.slots)
      (fun A _ v B => ∃ L, (Q v B.U.heap L ∧ IB Z B.U.vm Te) ∧ B.locs = A.locs ++ L ∧ B.cells = A.cells + rm.cells ∧ B.slots = A.slots + rm.slots) := by
  refine BackS.of_freeW (bytes := bytes) (maxL := maxL) (ret := ret) (E := fun _ _ o t L k n => k = rm.cells ∧ n = rm.slots ∧ ∃ v, o = .returned v ∧ Q v t.heap L ∧ IB Z t.vm Te) hM hf hl ?_ ?_ (fun _ _ _ _ _ _ _ _ _ => trivial) ?_ ?_
  · intro m meth c A a Y hp
    have hU : Z.Warmed39 A.U.vm := wtrans hZ Y.warmed
    refine ⟨?_, mv hU wc, mv hU wz, hp.2.2.1, hp.2.2.2⟩
    show (Cond.and _ .tt).before a A.U = true
    rw [Cond.before_and, mv hU wc]; rfl
  · intro m meth c A a g mk Y hp
    exact ⟨hp.1, wtrans hZ Y.warmed, hp.2.1, own_IBm I Y.warmed.interned_eq fun _ q => q⟩
  · rintro a f o t ⟨v, L, h1, h2, h3, h4⟩
    exact ⟨L, _, _, h4, rfl, rfl, v, h1, h2, h3⟩
  · rintro m meth c A a g mk v t L k n Y hp - - ⟨rfl, rfl, v', e3, e4, e5⟩
    cases e3
    exact ⟨L, ⟨e4, e5⟩, rfl, rfl, rfl⟩
theorem own_reb {own : String} {n n1 : Nat} (hS : s.Since vm0 k0) (hk : k0 ≤ n1) (h2 : (s.setVm vm0).Since vm1 n) (g : n1 ≤ n) (hZ : Z.Warmed39 (s.setVm vm0).vm) (hown : (s.setVm vm0).vm.findClass own = some m.cls) : s.Since vm1 n ∧ Z.Warmed39 (s.setVm vm1).vm ∧ (s.setVm vm1).vm.findClass own = some m.cls :=
  ⟨hS.trans h2 (Nat.le_trans hk g), State.Warmed39.trans hZ h2.1, (h2.1.alike.findClass _ _).trans hown⟩
theorem own_since (s : State) : s.Since s.vm s.heap.size := (State.WarmedH.refl s).since _
theorem own_mono {k n : Nat} (X : Stand p l e R s m args below meth c T locs cells slots) (hk : cells ≤ k) (hn : slots ≤ n) : Stand p l e R s m args below meth c T locs k n := { X with same := X.same.mono hk hn }
end Litz
end Jvm.RoadKit
/- laws to paste: Road.backV, Road.eqW, Road.codOf (cut by pick.py; bodies as the Statement names them) -/
namespace Jvm.Pilot.@@N@@
namespace StrChars
open Jvm Sem ClassFile Op Lib Jvm.Stand Jvm.Free.XT Jvm.Free.ALB Jvm.Free.JM Jvm.Free
open Jvm.Lib.Cold (StaticIs)
/-- a char array whose places are chars -/
def Ch (a : Addr) (A : Cell) (U : State) : Prop := Arr .char a A U ∧ Typed .char A
theorem Ch.mv {a : Addr} {A : Cell} {U U' : State} (h : Ch a A U) (hal : U.vm.Alike U'.vm) (hh : U'.heap = U.heap) : Ch a A U' := ⟨h.1.mv hal hh, h.2⟩
theorem Ch.keep {a : Addr} {A : Cell} {U U' : State} (h : Ch a A U) (hal : U.vm.Alike U'.vm) (hk : U'.heap[a]? = some A) : Ch a A U' := ⟨h.1.keep hal hk, h.2⟩
/-- what place i of a char[]'s cell holds -/
def cv (A : Cell) (i : Nat) : Int32 := match A.slots[i]? with | some (.int x) => x | _ => 0
theorem Ch.get {a : Addr} {A : Cell} {U : State} (h : Ch a A U) {i : Nat} (hi : i < A.slots.size) : A.slots[i]? = some (.int (cv A i)) := by
  have e := Array.getElem?_eq_getElem hi
  have f := h.2 i _ e
  unfold cv; rw [e]
  generalize A.slots[i] = v at f
  cases v <;> simp [fits] at f ⊢
/-- the byte that i2b leaves of a char -/
def lo8 (x : Int32) : Int32 := x.toInt8.toInt32
theorem fits_lo8 (y : Int32) : fits .byte (.int (lo8 y)) = true := by
  have h1 := y.toInt8.le_toInt
  have h2 := y.toInt8.toInt_lt
  simp only [lo8, fits, Bool.and_eq_true, decide_eq_true_eq, Int32.le_iff_toInt_le, Int8.toInt_toInt32, show (-128 : Int32).toInt = -128 from by decide, show (127 : Int32).toInt = 127 from by decide]
  omega
/-- A' is A but that each place j of lo .. hi - 1 holds f j -/
def Laid (A A' : Cell) (lo hi : Nat) (f : Nat → Value) : Prop := A'.cls = A.cls ∧ A'.vm = A.vm ∧ A'.slots.size = A.slots.size ∧ ∀ i, A'.slots[i]? = if lo ≤ i ∧ i < hi then some (f i) else A.slots[i]?
theorem Laid.zero (A : Cell) (lo : Nat) (f : Nat → Value) : Laid A A lo (lo + 0) f := ⟨rfl, rfl, rfl, fun i => by rw [if_neg (by omega)]⟩
theorem Laid.step {A Ak : Cell} {lo k : Nat} {f : Nat → Value} {v : Value} (h : Laid A Ak lo k f) (hlo : lo ≤ k) (hk : k < Ak.slots.size) (hv : v = f k) : Laid A (Ak.setSlot k v) lo (k + 1) f := by
  refine ⟨h.1, h.2.1, by simpa [Cell.setSlot] using h.2.2.1, fun i => ?_⟩
  by_cases e : k = i
  · subst e; rw [Cell.slots_setSlot_self v hk, if_pos (by omega), hv]
  · rw [Cell.slots_setSlot_ne v e, h.2.2.2 i]
    by_cases q : lo ≤ i ∧ i < k
    · rw [if_pos q, if_pos (by omega)]
    · rw [if_neg q, if_neg (by omega)]
def U16 : String := "java/lang/StringUTF16"
namespace Cmp5
def yN : MethodName := ⟨"java/lang/StringUTF16", "compress", "([CI[BII)I"⟩
abbrev yB : ByteArray := jdk_52_method_21_code
theorem d0 : decode yB 0 = .ok (.iconst 0, 1) := by decide +kernel
theorem d1 : decode yB 1 = .ok (.istore 5, 2) := by decide +kernel
theorem d3 : decode yB 3 = .ok (.iload 5, 2) := by decide +kernel
theorem d5 : decode yB 5 = .ok (.iload 4, 2) := by decide +kernel
theorem d7 : decode yB 7 = .ok (.if_icmp (.ge) 37, 3) := by decide +kernel
theorem d10 : decode yB 10 = .ok (.aload_n 0, 1) := by decide +kernel
theorem d11 : decode yB 11 = .ok (.iload_n 1, 1) := by decide +kernel
theorem d12 : decode yB 12 = .ok (.caload, 1) := by decide +kernel
theorem d13 : decode yB 13 = .ok (.istore 6, 2) := by decide +kernel
theorem d15 : decode yB 15 = .ok (.iload 6, 2) := by decide +kernel
theorem d17 : decode yB 17 = .ok (.sipush 255, 3) := by decide +kernel
theorem d20 : decode yB 20 = .ok (.if_icmp (.le) 6, 3) := by decide +kernel
theorem d26 : decode yB 26 = .ok (.aload_n 2, 1) := by decide +kernel
theorem d27 : decode yB 27 = .ok (.iload_n 3, 1) := by decide +kernel
theorem d28 : decode yB 28 = .ok (.iload 6, 2) := by decide +kernel
theorem d30 : decode yB 30 = .ok (.i2b, 1) := by decide +kernel
theorem d31 : decode yB 31 = .ok (.bastore, 1) := by decide +kernel
theorem d32 : decode yB 32 = .ok (.iinc 1 1, 3) := by decide +kernel
theorem d35 : decode yB 35 = .ok (.iinc 3 1, 3) := by decide +kernel
theorem d38 : decode yB 38 = .ok (.iinc 5 1, 3) := by decide +kernel
theorem d41 : decode yB 41 = .ok (.goto (-38), 3) := by decide +kernel
theorem d44 : decode yB 44 = .ok (.iload 4, 2) := by decide +kernel
theorem d46 : decode yB 46 = .ok (.ireturn, 1) := by decide +kernel
def site : List Cond := []
def tab : Cond := tabOf yN yB 7 (some .int) site
def P (b : Addr) (A : Cell) (d : Addr) (B : Cell) (o q len : Nat) (args : Array Value) (s : State) : Prop := args = #[.ref b, .int (Int32.ofNat o), .ref d, .int (Int32.ofNat q), .int (Int32.ofNat len)] ∧ Ch b A s ∧ Arr .byte d B s ∧ b ≠ d ∧ o + len ≤ A.slots.size ∧ q + len ≤ B.slots.size ∧ ∀ i, i < len → ¬ 255 < cv A (o + i)
def E (b : Addr) (A : Cell) (d : Addr) (B : Cell) (o q len : Nat) (r : Option Value) (s u : State) : Prop := r = some (.int (Int32.ofNat len)) ∧ ∃ B', Put d B' s u ∧ Laid B B' q (q + len) (fun j => Value.int (lo8 (cv A (o + (j - q)))))
/-- no char of the range above 255: len; the places written hold each char's low byte -/
theorem law (l : Launch) (b : Addr) (A : Cell) (d : Addr) (B : Cell) (o q len : Nat) : Law l yN 5 5 0 0 yB 7 (some .int) site (P b A d B o q len) (E b A d B o q len) (copyLocs d q len) 0 0 := by
  refine Law.of_walk (plainFor_of_name (by decide +kernel)) (by decide +kernel) (by decide +kernel) (by decide) (fun _ _ h => by rw [h.1]; rfl) (fun _ U U' hal hh h => ⟨h.1, h.2.1.mv hal hh, h.2.2.1.mv hal hh, h.2.2.2⟩) (fun r U U' V V' h1 hal h2 h => ⟨h.1, h.2.elim fun B' q => ⟨B', q.1.mv h1 h2, q.2⟩⟩) ?_
  intro p e s m args below meth c s₁ X0 hexec hbytes hml hret hlk hnm hown hh0 W hP
  obtain ⟨rfl, hA, hB, hne, l1, l2, hp⟩ := hP
  have c1 : Steps p.tables e below (s₁.setTop (entryFrame m #[.ref b, .int (Int32.ofNat o), .ref d, .int (Int32.ofNat q), .int (Int32.ofNat len)] 7)) (s₁.setTop (mkF m 0 #[.val (.ref b), .val (.int (Int32.ofNat o)), .val (.ref d), .val (.int (Int32.ofNat q)), .val (.int (Int32.ofNat len)), .unset, .unset] [])) := entry rfl
  have hA0 := hA.1.mv X0.warmed.alike hh0
  have hB0 := hB.mv X0.warmed.alike hh0
  have a31 := hA.1.2.2.2
  have c2 : Steps p.tables e below (s₁.setTop (entryFrame m #[.ref b, .int (Int32.ofNat o), .ref d, .int (Int32.ofNat q), .int (Int32.ofNat len)] 7)) (s₁.setTop (mkF m 3 #[.val (.ref b), .val (.int (Int32.ofNat o)), .val (.ref d), .val (.int (Int32.ofNat q)), .val (.int (Int32.ofNat len)), .val (.int 0), .unset] [])) := c1.trans (by
    refine iconstV X0.here hexec rfl 0 (hb hbytes d0) (by decide) ?_
    refine XS.istore X0.here hexec rfl (hb hbytes d1) rfl rfl ?_
    exact Steps.refl _)
  have loop : ∀ (r i : Nat), i + r = len → ∀ (z : Slot), (z = .unset ∨ ∃ w, z = .val w ∧ w.category = 1) → ∀ (Tl : State) (Bk : Cell), Stand p l e { frames := 0, locals := 0, cells := 0, slots := 0 } s m #[.ref b, .int (Int32.ofNat o), .ref d, .int (Int32.ofNat q), .int (Int32.ofNat len)] below meth c Tl ([] ++ copyLocs d q i) 0 0 → Put d Bk s₁ Tl → Laid B Bk q (q + i) (fun j => Value.int (lo8 (cv A (o + (j - q))))) →
      Steps p.tables e below (s₁.setTop (entryFrame m #[.ref b, .int (Int32.ofNat o), .ref d, .int (Int32.ofNat q), .int (Int32.ofNat len)] 7)) (Tl.setTop (mkF m 3 #[.val (.ref b), .val (.int (Int32.ofNat (o + i))), .val (.ref d), .val (.int (Int32.ofNat (q + i))), .val (.int (Int32.ofNat len)), .val (.int (Int32.ofNat i)), z] [])) → ∃ (T' : State) (B' : Cell) (z' : Slot), Stand p l e { frames := 0, locals := 0, cells := 0, slots := 0 } s m #[.ref b, .int (Int32.ofNat o), .ref d, .int (Int32.ofNat q), .int (Int32.ofNat len)] below meth c T' ([] ++ copyLocs d q len) 0 0 ∧ Put d B' s₁ T' ∧ Laid B B' q (q + len) (fun j => Value.int (lo8 (cv A (o + (j - q))))) ∧
      Steps p.tables e below (s₁.setTop (entryFrame m #[.ref b, .int (Int32.ofNat o), .ref d, .int (Int32.ofNat q), .int (Int32.ofNat len)] 7)) (T'.setTop (mkF m 3 #[.val (.ref b), .val (.int (Int32.ofNat (o + len))), .val (.ref d), .val (.int (Int32.ofNat (q + len))), .val (.int (Int32.ofNat len)), .val (.int (Int32.ofNat len)), z'] [])) := by
    intro r
    induction r with
    | zero =>
      intro i hi z hz Tl Bk Xl pl fl cl
      have hil : i = len := by omega
      rw [hil] at Xl fl cl
      exact ⟨Tl, Bk, z, Xl, pl, fl, cl⟩
    | succ r ih =>
      intro i hi z hz Tl Bk Xl pl fl cl
      have all := X0.warmed.alike.symm.trans Xl.warmed.alike
      have hAl := hA0.keep all (pl.other hne hA0.1)
      have hBk := hB0.like all pl.1 fl.1 fl.2.1 fl.2.2.1
      have hlt : q + i < Bk.slots.size := by rw [fl.2.2.1]; omega
      have c3 : Steps p.tables e below (s₁.setTop (entryFrame m #[.ref b, .int (Int32.ofNat o), .ref d, .int (Int32.ofNat q), .int (Int32.ofNat len)] 7)) (Tl.setTop (mkF m 12 #[.val (.ref b), .val (.int (Int32.ofNat (o + i))), .val (.ref d), .val (.int (Int32.ofNat (q + i))), .val (.int (Int32.ofNat len)), .val (.int (Int32.ofNat i)), z] [.int (Int32.ofNat (o + i)), .ref b])) := cl.trans (by
        refine XS.iload Xl.here hexec rfl (hb hbytes d3) rfl ?_
        refine XS.iload Xl.here hexec rfl (hb hbytes d5) rfl ?_
        refine XS.icmpNo Xl.here hexec rfl (hb hbytes d7) rfl (ii_ge_f (lt32 (by omega) (by omega))) ?_
        refine XS.aloadN Xl.here hexec rfl (hb hbytes d10) rfl rfl ?_
        refine XS.iloadN Xl.here hexec rfl (hb hbytes d11) rfl ?_
        exact Steps.refl _)
      have c4 : Steps p.tables e below (s₁.setTop (entryFrame m #[.ref b, .int (Int32.ofNat o), .ref d, .int (Int32.ofNat q), .int (Int32.ofNat len)] 7)) (Tl.setTop (mkF m 13 #[.val (.ref b), .val (.int (Int32.ofNat (o + i))), .val (.ref d), .val (.int (Int32.ofNat (q + i))), .val (.int (Int32.ofNat len)), .val (.int (Int32.ofNat i)), z] [.int (cv A (o + i))])) := c3.trans (by
        refine Xl.aget hexec hAl rfl (hA.get (i := o + i) (by omega)) rfl rfl (hb hbytes d12) ?_
        exact Steps.refl _)
      have c5 : Steps p.tables e below (s₁.setTop (entryFrame m #[.ref b, .int (Int32.ofNat o), .ref d, .int (Int32.ofNat q), .int (Int32.ofNat len)] 7)) (Tl.setTop (mkF m 15 #[.val (.ref b), .val (.int (Int32.ofNat (o + i))), .val (.ref d), .val (.int (Int32.ofNat (q + i))), .val (.int (Int32.ofNat len)), .val (.int (Int32.ofNat i)), .val (.int (cv A (o + i)))] [])) := c4.trans (by
        refine XS.istoreS Xl.here hexec rfl (hb hbytes d13) rfl rfl hz ?_
        exact Steps.refl _)
      have c6 : Steps p.tables e below (s₁.setTop (entryFrame m #[.ref b, .int (Int32.ofNat o), .ref d, .int (Int32.ofNat q), .int (Int32.ofNat len)] 7)) (Tl.setTop (mkF m 31 #[.val (.ref b), .val (.int (Int32.ofNat (o + i))), .val (.ref d), .val (.int (Int32.ofNat (q + i))), .val (.int (Int32.ofNat len)), .val (.int (Int32.ofNat i)), .val (.int (cv A (o + i)))] [.int (lo8 (cv A (o + i))), .int (Int32.ofNat (q + i)), .ref d])) := c5.trans (by
        refine XS.iload Xl.here hexec rfl (hb hbytes d15) rfl ?_
        refine sipushV Xl.here hexec rfl 255 (hb hbytes d17) (by decide) ?_
        refine XS.icmpYes Xl.here hexec rfl (pc0 := 20) rfl (hb hbytes d20) rfl (ii_le_t (hp i (by omega))) (by decide) rfl ?_
        refine XS.aloadN Xl.here hexec rfl (hb hbytes d26) rfl rfl ?_
        refine XS.iloadN Xl.here hexec rfl (hb hbytes d27) rfl ?_
        refine XS.iload Xl.here hexec rfl (hb hbytes d28) rfl ?_
        refine i2b Xl.here hexec rfl (hb hbytes d30) rfl ?_
        exact Steps.refl _)
      obtain ⟨T7, X7, p7, st7⟩ := Xl.aput hexec hBk rfl hlt rfl (fits_lo8 (cv A (o + i))) (g := (mkF m 31 #[.val (.ref b), .val (.int (Int32.ofNat (o + i))), .val (.ref d), .val (.int (Int32.ofNat (q + i))), .val (.int (Int32.ofNat len)), .val (.int (Int32.ofNat i)), .val (.int (cv A (o + i)))] [.int (lo8 (cv A (o + i))), .int (Int32.ofNat (q + i)), .ref d])) rfl (rest := []) rfl (hb hbytes d31)
      have c8 : Steps p.tables e below (s₁.setTop (entryFrame m #[.ref b, .int (Int32.ofNat o), .ref d, .int (Int32.ofNat q), .int (Int32.ofNat len)] 7)) (T7.setTop (mkF m 32 #[.val (.ref b), .val (.int (Int32.ofNat (o + i))), .val (.ref d), .val (.int (Int32.ofNat (q + i))), .val (.int (Int32.ofNat len)), .val (.int (Int32.ofNat i)), .val (.int (cv A (o + i)))] [])) := c6.trans (st7 _ (Steps.refl _))
      have c9 : Steps p.tables e below (s₁.setTop (entryFrame m #[.ref b, .int (Int32.ofNat o), .ref d, .int (Int32.ofNat q), .int (Int32.ofNat len)] 7)) (T7.setTop (mkF m 3 #[.val (.ref b), .val (.int (Int32.ofNat (o + i) + 1)), .val (.ref d), .val (.int (Int32.ofNat (q + i) + 1)), .val (.int (Int32.ofNat len)), .val (.int (Int32.ofNat i + 1)), .val (.int (cv A (o + i)))] [])) := c8.trans (by
        refine iincV X7.here hexec rfl 1 (hb hbytes d32) (by decide) rfl rfl ?_
        refine iincV X7.here hexec rfl 1 (hb hbytes d35) (by decide) rfl rfl ?_
        refine iincV X7.here hexec rfl 1 (hb hbytes d38) (by decide) rfl rfl ?_
        refine XS.goto X7.here hexec rfl (pc0 := 41) rfl (hb hbytes d41) (by decide) rfl ?_
        exact Steps.refl _)
      have c10 : Steps p.tables e below (s₁.setTop (entryFrame m #[.ref b, .int (Int32.ofNat o), .ref d, .int (Int32.ofNat q), .int (Int32.ofNat len)] 7)) (T7.setTop (mkF m 3 #[.val (.ref b), .val (.int (Int32.ofNat (o + (i + 1)))), .val (.ref d), .val (.int (Int32.ofNat (q + (i + 1)))), .val (.int (Int32.ofNat len)), .val (.int (Int32.ofNat (i + 1))), .val (.int (cv A (o + i)))] [])) := by
        have := c9
        rw [succ32, succ32, succ32] at this
        exact this
      exact ih (i + 1) (by omega) _ (Or.inr ⟨_, rfl, rfl⟩) T7 _ (by rw [copyLocs_step, ← List.append_assoc]; exact X7) (pl.trans p7) (fl.step (by omega) hlt (by simp)) c10
  obtain ⟨T9, B9, z9, X9, p9, f9, g9⟩ := loop len 0 (by omega) .unset (Or.inl rfl) s₁ B (by simpa [copyLocs] using X0) ⟨hB0.1, fun _ _ => rfl, rfl⟩ (Laid.zero _ _ _) c2
  have c11 : Steps p.tables e below (s₁.setTop (entryFrame m #[.ref b, .int (Int32.ofNat o), .ref d, .int (Int32.ofNat q), .int (Int32.ofNat len)] 7)) (T9.setTop (mkF m 46 #[.val (.ref b), .val (.int (Int32.ofNat (o + len))), .val (.ref d), .val (.int (Int32.ofNat (q + len))), .val (.int (Int32.ofNat len)), .val (.int (Int32.ofNat len)), z9] [.int (Int32.ofNat len)])) := g9.trans (by
    refine XS.iload X9.here hexec rfl (hb hbytes d3) rfl ?_
    refine XS.iload X9.here hexec rfl (hb hbytes d5) rfl ?_
    refine XS.icmpYes X9.here hexec rfl (pc0 := 7) rfl (hb hbytes d7) rfl (ii_ge_t (nlt32 (by omega) (Nat.le_refl _))) (by decide) rfl ?_
    refine XS.iload X9.here hexec rfl (hb hbytes d44) rfl ?_
    exact Steps.refl _)
  exact ⟨T9, some (.int (Int32.ofNat len)), _, _, _, X9, by simp, rfl, rfl, (fun h => by cases h), ⟨rfl, B9, p9.from hh0, f9⟩, fun fs hl => c11.trans (X9.ireturnOut hexec hret rfl (Or.inl rfl) (hb hbytes d46) hl)⟩
end Cmp5
namespace Cmp3
def yN : MethodName := ⟨"java/lang/StringUTF16", "compress", "([CII)[B"⟩
abbrev yB : ByteArray := jdk_52_method_16_code
theorem d0 : decode yB 0 = .ok (.iload_n 2, 1) := by decide +kernel
theorem d1 : decode yB 1 = .ok (.newarray .byte, 2) := by decide +kernel
theorem d3 : decode yB 3 = .ok (.astore_n 3, 1) := by decide +kernel
theorem d4 : decode yB 4 = .ok (.aload_n 0, 1) := by decide +kernel
theorem d5 : decode yB 5 = .ok (.iload_n 1, 1) := by decide +kernel
theorem d6 : decode yB 6 = .ok (.aload_n 3, 1) := by decide +kernel
theorem d7 : decode yB 7 = .ok (.iconst 0, 1) := by decide +kernel
theorem d8 : decode yB 8 = .ok (.iload_n 2, 1) := by decide +kernel
theorem d9 : decode yB 9 = .ok (.invokestatic 115, 3) := by decide +kernel
theorem d12 : decode yB 12 = .ok (.istore 4, 2) := by decide +kernel
theorem d14 : decode yB 14 = .ok (.iload 4, 2) := by decide +kernel
theorem d16 : decode yB 16 = .ok (.iload_n 2, 1) := by decide +kernel
theorem d17 : decode yB 17 = .ok (.if_icmp (.eq) 40, 3) := by decide +kernel
theorem d57 : decode yB 57 = .ok (.aload_n 3, 1) := by decide +kernel
theorem d58 : decode yB 58 = .ok (.areturn, 1) := by decide +kernel
def site : List Cond := [.arrayClass .byte, Cmp5.tab] ++ staticW U16 115 Cmp5.yN
def tab : Cond := tabOf yN yB 6 (some (.array .byte)) site
def P (b : Addr) (A : Cell) (o len : Nat) (args : Array Value) (s : State) : Prop := args = #[.ref b, .int (Int32.ofNat o), .int (Int32.ofNat len)] ∧ Ch b A s ∧ o + len ≤ A.slots.size ∧ len ≤ 536870912 ∧ ∀ i, i < len → ¬ 255 < cv A (o + i)
def E (b : Addr) (A : Cell) (o len : Nat) (r : Option Value) (s u : State) : Prop := NewArr .byte "[B" len (fun j => .int (lo8 (cv A (o + j)))) r s u ∧ u.heap.size = s.heap.size + 1
/-- no char of the range above 255: a new byte[] of their low bytes -/
theorem law (l : Launch) (b : Addr) (A : Cell) (o len : Nat) : Law l yN 3 3 1 18 yB 6 (some (.array .byte)) site (P b A o len) (E b A o len) [] 1 len := by
  refine Law.of_walk (plainFor_of_name (by decide +kernel)) (by decide +kernel) (by decide +kernel) (by decide) (fun _ _ h => by rw [h.1]; rfl) (fun _ U U' hal hh h => ⟨h.1, h.2.1.mv hal hh, h.2.2⟩) (fun r U U' V V' h1 hal h2 h => ⟨NewArr.mv r U U' V V' h1 hal h2 h.1, by rw [h1, h2]; exact h.2⟩) ?_
  intro p e s m args below meth c s₁ X0 hexec hbytes hml hret hlk hnm hown hh0 W hP
  obtain ⟨rfl, hA, l1, l2, hp⟩ := hP
  have a31 := hA.1.2.2.2
  have c1 : Steps p.tables e below (s₁.setTop (entryFrame m #[.ref b, .int (Int32.ofNat o), .int (Int32.ofNat len)] 6)) (s₁.setTop (mkF m 0 #[.val (.ref b), .val (.int (Int32.ofNat o)), .val (.int (Int32.ofNat len)), .unset, .unset, .unset] [])) := entry rfl
  have c2 : Steps p.tables e below (s₁.setTop (entryFrame m #[.ref b, .int (Int32.ofNat o), .int (Int32.ofNat len)] 6)) (s₁.setTop (mkF m 1 #[.val (.ref b), .val (.int (Int32.ofNat o)), .val (.int (Int32.ofNat len)), .unset, .unset, .unset] [.int (Int32.ofNat len)])) := c1.trans (by
    refine XS.iloadN X0.here hexec rfl (hb hbytes d0) rfl ?_
    exact Steps.refl _)
  obtain ⟨T3, B3, X3, ba3, bs3, bv3, bh3, bf3, st3⟩ := X0.anew hexec (atype := .byte) (wk W (.arrayClass .byte)) rfl (by show len * 1 ≤ _; omega) (by omega) (g := (mkF m 1 #[.val (.ref b), .val (.int (Int32.ofNat o)), .val (.int (Int32.ofNat len)), .unset, .unset, .unset] [.int (Int32.ofNat len)])) rfl (hb hbytes d1) (rest := []) rfl (Nat.le_refl _) (by show 0 + len ≤ len; omega)
  rw [hh0] at ba3 st3
  have kp3 : XT.Kept s T3 := (XT.Kept.of_eq hh0).push bh3
  have hA3 := hA.keep X3.warmed.alike (kp3 _ _ hA.1.1)
  have hne : b ≠ s.heap.size := hA.1.ne
  have c4 : Steps p.tables e below (s₁.setTop (entryFrame m #[.ref b, .int (Int32.ofNat o), .int (Int32.ofNat len)] 6)) (T3.setTop (mkF m 3 #[.val (.ref b), .val (.int (Int32.ofNat o)), .val (.int (Int32.ofNat len)), .unset, .unset, .unset] [.ref s.heap.size])) := c2.trans (st3 _ (Steps.refl _))
  have c5 : Steps p.tables e below (s₁.setTop (entryFrame m #[.ref b, .int (Int32.ofNat o), .int (Int32.ofNat len)] 6)) (T3.setTop (mkF m 9 #[.val (.ref b), .val (.int (Int32.ofNat o)), .val (.int (Int32.ofNat len)), .val (.ref s.heap.size), .unset, .unset] [.int (Int32.ofNat len), .int 0, .ref s.heap.size, .int (Int32.ofNat o), .ref b])) := c4.trans (by
    refine XS.astoreN X3.here hexec rfl (hb hbytes d3) rfl rfl rfl ?_
    refine XS.aloadN X3.here hexec rfl (hb hbytes d4) rfl rfl ?_
    refine XS.iloadN X3.here hexec rfl (hb hbytes d5) rfl ?_
    refine XS.aloadN X3.here hexec rfl (hb hbytes d6) rfl rfl ?_
    refine iconstV X3.here hexec rfl 0 (hb hbytes d7) (by decide) ?_
    refine XS.iloadN X3.here hexec rfl (hb hbytes d8) rfl ?_
    exact Steps.refl _)
  obtain ⟨v6, T6, X6, E6, g6⟩ := X3.callS hexec (Cmp5.law l b A s.heap.size B3 o 0 len) hown (wks W (staticW U16 115 Cmp5.yN)) (wk W Cmp5.tab) (W := 0) (Nat.le_of_ble_eq_true rfl) (Nat.le_of_ble_eq_true rfl) (Nat.le_refl _) (by show 0 + len + 0 ≤ len; omega) (g := (mkF m 9 #[.val (.ref b), .val (.int (Int32.ofNat o)), .val (.int (Int32.ofNat len)), .val (.ref s.heap.size), .unset, .unset] [.int (Int32.ofNat len), .int (Int32.ofNat 0), .ref s.heap.size, .int (Int32.ofNat o), .ref b])) rfl (by rw [hml]; rfl) c5 (argsL := [.ref b, .int (Int32.ofNat o), .ref s.heap.size, .int (Int32.ofNat 0), .int (Int32.ofNat len)]) (rest := []) rfl rfl (by show 2 * 0 + 0 ≤ _; decide) (hb hbytes d9) (⟨rfl, hA3, ba3, hne, l1, by rw [bs3]; simp, hp⟩)
  obtain ⟨rfl, B6, p6, f6⟩ := E6
  have c7 : Steps p.tables e below (s₁.setTop (entryFrame m #[.ref b, .int (Int32.ofNat o), .int (Int32.ofNat len)] 6)) (T6.setTop (mkF m 12 #[.val (.ref b), .val (.int (Int32.ofNat o)), .val (.int (Int32.ofNat len)), .val (.ref s.heap.size), .unset, .unset] [.int (Int32.ofNat len)])) := g6
  have c8 : Steps p.tables e below (s₁.setTop (entryFrame m #[.ref b, .int (Int32.ofNat o), .int (Int32.ofNat len)] 6)) (T6.setTop (mkF m 58 #[.val (.ref b), .val (.int (Int32.ofNat o)), .val (.int (Int32.ofNat len)), .val (.ref s.heap.size), .val (.int (Int32.ofNat len)), .unset] [.ref s.heap.size])) := c7.trans (by
    refine XS.istore X6.here hexec rfl (hb hbytes d12) rfl rfl ?_
    refine XS.iload X6.here hexec rfl (hb hbytes d14) rfl ?_
    refine XS.iloadN X6.here hexec rfl (hb hbytes d16) rfl ?_
    refine XS.icmpYes X6.here hexec rfl (pc0 := 17) rfl (hb hbytes d17) rfl (ii_eq_t rfl) (by decide) rfl ?_
    refine XS.aloadN X6.here hexec rfl (hb hbytes d57) rfl rfl ?_
    exact Steps.refl _)
  have X8 := X6.wide (L' := []) (cells' := 1) (slots' := len) (fun x hx hlt => by
    simp only [List.nil_append, copyLocs, List.mem_map, List.mem_range] at hx
    obtain ⟨i, -, rfl⟩ := hx
    exact absurd hlt (Nat.lt_irrefl _)) (Nat.le_refl _) (by omega)
  exact ⟨T6, some (.ref s.heap.size), _, _, _, X8, rfl, rfl, rfl, (fun h => by cases h), ⟨⟨rfl, B6, ba3.like (X3.warmed.alike.symm.trans X6.warmed.alike) p6.1 f6.1 f6.2.1 f6.2.2.1, f6.2.1.trans bv3, by rw [X6.warmed.alike.findClass, f6.1]; exact bf3, by rw [f6.2.2.1, bs3]; simp, fun j hj => by rw [f6.2.2.2 j, if_pos (by omega)]; rfl, kp3.put p6 (Nat.le_refl _)⟩, by rw [p6.2.2, bh3, hh0]; simp⟩, fun fs hl => c8.trans (X8.areturnOut hexec rfl hret rfl (hb hbytes d58) hl)⟩
end Cmp3
namespace CodL
def yN : MethodName := ⟨"java/lang/StringUTF16", "coderFromArrayLen", "([BI)B"⟩
abbrev yB : ByteArray := jdk_52_method_15_code
theorem d0 : decode yB 0 = .ok (.iload_n 1, 1) := by decide +kernel
theorem d1 : decode yB 1 = .ok (.aload_n 0, 1) := by decide +kernel
theorem d2 : decode yB 2 = .ok (.arraylength, 1) := by decide +kernel
theorem d3 : decode yB 3 = .ok (.isub, 1) := by decide +kernel
theorem d4 : decode yB 4 = .ok (.bipush 31, 2) := by decide +kernel
theorem d6 : decode yB 6 = .ok (.iushr, 1) := by decide +kernel
theorem d7 : decode yB 7 = .ok (.i2b, 1) := by decide +kernel
theorem d8 : decode yB 8 = .ok (.ireturn, 1) := by decide +kernel
def site : List Cond := []
def tab : Cond := tabOf yN yB 2 (some .byte) site
def P (d : Addr) (B : Cell) (args : Array Value) (s : State) : Prop := args = #[.ref d, .int (Int32.ofNat B.slots.size)] ∧ Arr .byte d B s
def E (r : Option Value) (s u : State) : Prop := XT.PureE (some (.int 0)) r s u
/-- an array as long as the number of chars: LATIN1 -/
theorem law (l : Launch) (d : Addr) (B : Cell) : Law l yN 2 2 0 0 yB 2 (some .byte) site (P d B) E [] 0 0 := by
  refine Law.of_walk (plainFor_of_name (by decide +kernel)) (by decide +kernel) (by decide +kernel) (by decide) (fun _ _ h => by rw [h.1]; rfl) (fun _ U U' hal hh h => ⟨h.1, h.2.mv hal hh⟩) (fun r U U' V V' h1 hal h2 h => XT.PureE.mv r U U' V V' h1 hal h2 h) ?_
  intro p e s m args below meth c s₁ X0 hexec hbytes hml hret hlk hnm hown hh0 W hP
  obtain ⟨rfl, hB⟩ := hP
  have hB0 := hB.mv X0.warmed.alike hh0
  have c1 : Steps p.tables e below (s₁.setTop (entryFrame m #[.ref d, .int (Int32.ofNat B.slots.size)] 2)) (s₁.setTop (mkF m 0 #[.val (.ref d), .val (.int (Int32.ofNat B.slots.size))] [])) := entry rfl
  have c2 : Steps p.tables e below (s₁.setTop (entryFrame m #[.ref d, .int (Int32.ofNat B.slots.size)] 2)) (s₁.setTop (mkF m 2 #[.val (.ref d), .val (.int (Int32.ofNat B.slots.size))] [.ref d, .int (Int32.ofNat B.slots.size)])) := c1.trans (by
    refine XS.iloadN X0.here hexec rfl (hb hbytes d0) rfl ?_
    refine XS.aloadN X0.here hexec rfl (hb hbytes d1) rfl rfl ?_
    exact Steps.refl _)
  have c3 : Steps p.tables e below (s₁.setTop (entryFrame m #[.ref d, .int (Int32.ofNat B.slots.size)] 2)) (s₁.setTop (mkF m 8 #[.val (.ref d), .val (.int (Int32.ofNat B.slots.size))] [.int (lo8 (ushr (Int32.ofNat B.slots.size - Int32.ofNat B.slots.size) 31))])) := c2.trans (by
    refine X0.alen hexec hB0 rfl rfl (hb hbytes d2) ?_
    refine XS.isub X0.here hexec rfl (hb hbytes d3) rfl ?_
    refine bipushV X0.here hexec rfl 31 (hb hbytes d4) (by decide) ?_
    refine iushr X0.here hexec rfl (hb hbytes d6) rfl ?_
    refine i2b X0.here hexec rfl (hb hbytes d7) rfl ?_
    exact Steps.refl _)
  have e0 : lo8 (ushr (Int32.ofNat B.slots.size - Int32.ofNat B.slots.size) 31) = 0 := by rw [Int32.sub_self]; decide
  rw [e0] at c3
  exact ⟨s₁, some (.int 0), _, _, _, X0, rfl, rfl, rfl, (fun h => by cases h), ⟨rfl, hh0⟩, fun fs hl => c3.trans (X0.ireturnOut hexec hret rfl (Or.inr (Or.inr (Or.inl rfl))) (hb hbytes d8) hl)⟩
end CodL
/-- the String at a is Latin-1 over a new byte[] (the heap's one new cell): the low bytes of the len chars of A from o on; every cell but a is kept -/
def Got (a : Addr) (D : Cell) (fV fC : Field) (A : Cell) (o len : Nat) (r : Option Value) (s u : State) : Prop := r = none ∧ ∃ D' V : Cell, Blank "java/lang/String" a D' u ∧ Same D D' [fV.slot, fC.slot] ∧ D'.slots[fV.slot]? = some (.ref s.heap.size) ∧ D'.slots[fC.slot]? = some (.int 0) ∧ Arr .byte s.heap.size V u ∧ V.vm = .none ∧ u.vm.findClass "[B" = some V.cls ∧ V.slots.size = len ∧ (∀ j, j < len → V.slots[j]? = some (.int (lo8 (cv A (o + j))))) ∧ (∀ (y : Addr) (c : Cell), y ≠ a → s.heap[y]? = some c → u.heap[y]? = some c) ∧ u.heap.size = s.heap.size + 1
theorem Got.mv {a : Addr} {D A : Cell} {fV fC : Field} {o len : Nat} : ∀ r (U U' V V' : State), U'.heap = U.heap → V.vm.Alike V'.vm → V'.heap = V.heap → Got a D fV fC A o len r U V → Got a D fV fC A o len r U' V' :=
  fun r U U' V V' h1 hal h2 ⟨e0, D', X, a1, a2, a3, a4, a5, a6, a7, a8, a9, a10, a11⟩ => ⟨e0, D', X, a1.mv hal h2, a2, by rw [h1]; exact a3, a4, by rw [h1]; exact a5.mv hal h2, a6, by rw [hal.findClass]; exact a7, a8, a9, by rw [h1, h2]; exact a10, by rw [h1, h2]; exact a11⟩
namespace New4
def yN : MethodName := ⟨"java/lang/String", "<init>", "([CIILjava/lang/Void;)V"⟩
abbrev yB : ByteArray := jdk_42_method_149_code
theorem d0 : decode yB 0 = .ok (.aload_n 0, 1) := by decide +kernel
theorem d1 : decode yB 1 = .ok (.invokespecial 1, 3) := by decide +kernel
theorem d4 : decode yB 4 = .ok (.iload_n 3, 1) := by decide +kernel
theorem d5 : decode yB 5 = .ok (.ifCond (.ne) 22, 3) := by decide +kernel
theorem d27 : decode yB 27 = .ok (.getstatic 38, 3) := by decide +kernel
theorem d30 : decode yB 30 = .ok (.ifCond (.eq) 28, 3) := by decide +kernel
theorem d33 : decode yB 33 = .ok (.aload_n 1, 1) := by decide +kernel
theorem d34 : decode yB 34 = .ok (.iload_n 2, 1) := by decide +kernel
theorem d35 : decode yB 35 = .ok (.iload_n 3, 1) := by decide +kernel
theorem d36 : decode yB 36 = .ok (.invokestatic 177, 3) := by decide +kernel
theorem d39 : decode yB 39 = .ok (.astore 5, 2) := by decide +kernel
theorem d41 : decode yB 41 = .ok (.aload_n 0, 1) := by decide +kernel
theorem d42 : decode yB 42 = .ok (.aload 5, 2) := by decide +kernel
theorem d44 : decode yB 44 = .ok (.iload_n 3, 1) := by decide +kernel
theorem d45 : decode yB 45 = .ok (.invokestatic 47, 3) := by decide +kernel
theorem d48 : decode yB 48 = .ok (.putfield 15, 3) := by decide +kernel
theorem d51 : decode yB 51 = .ok (.aload_n 0, 1) := by decide +kernel
theorem d52 : decode yB 52 = .ok (.aload 5, 2) := by decide +kernel
theorem d54 : decode yB 54 = .ok (.putfield 9, 3) := by decide +kernel
theorem d57 : decode yB 57 = .ok (.return_, 1) := by decide +kernel
def site : List Cond := [.fieldLink "java/lang/String" 38 "java/lang/String" "COMPACT_STRINGS" "Z", Cmp3.tab, CodL.tab, .laysFinal "java/lang/String" "java/lang/String" "value" "[B", .fieldLink "java/lang/String" 9 "java/lang/String" "value" "[B", .laysFinal "java/lang/String" "java/lang/String" "coder" "B", .fieldLink "java/lang/String" 15 "java/lang/String" "coder" "B"] ++ objW "java/lang/String" 1 ++ staticW "java/lang/String" 177 Cmp3.yN ++ staticW "java/lang/String" 47 CodL.yN
def tab : Cond := tabOf yN yB 6 none site
def P (a : Addr) (D : Cell) (fV fC : Field) (b : Addr) (A : Cell) (z : Int32) (o len : Nat) (args : Array Value) (s : State) : Prop := args = #[.ref a, .ref b, .int (Int32.ofNat o), .int (Int32.ofNat len), .null] ∧ Blank "java/lang/String" a D s ∧ Found "java/lang/String" "value" "[B" fV s ∧ Found "java/lang/String" "coder" "B" fC s ∧ Ch b A s ∧ StaticIs s "java/lang/String" "COMPACT_STRINGS" "Z" (.int z) ∧ ¬ z = 0 ∧ 0 < len ∧ o + len ≤ A.slots.size ∧ len ≤ 536870912 ∧ ∀ i, i < len → ¬ 255 < cv A (o + i)
def E (a : Addr) (D : Cell) (fV fC : Field) (A : Cell) (o len : Nat) (r : Option Value) (s u : State) : Prop := Got a D fV fC A o len r s u
/-- len > 0, no char of the range above 255: a Latin-1 String of their low bytes -/
theorem law (l : Launch) (a : Addr) (D : Cell) (fV fC : Field) (b : Addr) (A : Cell) (z : Int32) (o len : Nat) : Law l yN 5 4 2 35 yB 6 none site (P a D fV fC b A z o len) (E a D fV fC A o len) [⟨a, fC.slot⟩, ⟨a, fV.slot⟩] 1 len := by
  refine Law.of_walk (plainFor_of_name (by decide +kernel)) (by decide +kernel) (by decide +kernel) (by decide) (fun _ _ h => by rw [h.1]; rfl) (fun _ U U' hal hh h => ⟨h.1, h.2.1.mv hal hh, h.2.2.1.al hal, h.2.2.2.1.al hal, h.2.2.2.2.1.mv hal hh, h.2.2.2.2.2.1.there hal hh, h.2.2.2.2.2.2⟩) (fun r U U' V V' h1 hal h2 h => Got.mv r U U' V V' h1 hal h2 h) ?_
  intro p e s m args below meth c s₁ X0 hexec hbytes hml hret hlk hnm hown hh0 W hP
  obtain ⟨rfl, hB, f1, f2, hA, s1, hz, l0, l1, l2, hp⟩ := hP
  have a31 := hA.1.2.2.2
  have c1 : Steps p.tables e below (s₁.setTop (entryFrame m #[.ref a, .ref b, .int (Int32.ofNat o), .int (Int32.ofNat len), .null] 6)) (s₁.setTop (mkF m 0 #[.val (.ref a), .val (.ref b), .val (.int (Int32.ofNat o)), .val (.int (Int32.ofNat len)), .val .null, .unset] [])) := entry rfl
  have c2 : Steps p.tables e below (s₁.setTop (entryFrame m #[.ref a, .ref b, .int (Int32.ofNat o), .int (Int32.ofNat len), .null] 6)) (s₁.setTop (mkF m 1 #[.val (.ref a), .val (.ref b), .val (.int (Int32.ofNat o)), .val (.int (Int32.ofNat len)), .val .null, .unset] [.ref a])) := c1.trans (by
    refine XS.aloadN X0.here hexec rfl (hb hbytes d0) rfl rfl ?_
    exact Steps.refl _)
  obtain ⟨T3, X3, q3, st3⟩ := X0.oinit hexec hown (wks W (objW "java/lang/String" 1)) (g := (mkF m 1 #[.val (.ref a), .val (.ref b), .val (.int (Int32.ofNat o)), .val (.int (Int32.ofNat len)), .val .null, .unset] [.ref a])) rfl (by rw [hml]; rfl) (rest := []) rfl (hb hbytes d1) (W := 0) (by show 2 * 0 + 0 ≤ _; decide) (Nat.le_of_ble_eq_true rfl) (Nat.le_of_ble_eq_true rfl)
  have hh3 := q3.trans hh0
  have c4 : Steps p.tables e below (s₁.setTop (entryFrame m #[.ref a, .ref b, .int (Int32.ofNat o), .int (Int32.ofNat len), .null] 6)) (T3.setTop (mkF m 27 #[.val (.ref a), .val (.ref b), .val (.int (Int32.ofNat o)), .val (.int (Int32.ofNat len)), .val .null, .unset] [])) := (c2.trans (st3 _ (Steps.refl _))).trans (by
    refine XS.iloadN X3.here hexec rfl (hb hbytes d4) rfl ?_
    refine XS.ifYes X3.here hexec rfl (pc0 := 5) rfl (hb hbytes d5) rfl (i0_ne_t (nz32 (by omega) l0)) (by decide) rfl ?_
    exact Steps.refl _)
  obtain ⟨T5, X5, q5, st5⟩ := X3.sget hexec hown (wk W (.fieldLink "java/lang/String" 38 "java/lang/String" "COMPACT_STRINGS" "Z")) s1 (fun _ _ h => by rw [hh3]; exact h) (g := (mkF m 27 #[.val (.ref a), .val (.ref b), .val (.int (Int32.ofNat o)), .val (.int (Int32.ofNat len)), .val .null, .unset] [])) rfl (hb hbytes d27)
  have hh5 := q5.trans hh3
  have c6 : Steps p.tables e below (s₁.setTop (entryFrame m #[.ref a, .ref b, .int (Int32.ofNat o), .int (Int32.ofNat len), .null] 6)) (T5.setTop (mkF m 30 #[.val (.ref a), .val (.ref b), .val (.int (Int32.ofNat o)), .val (.int (Int32.ofNat len)), .val .null, .unset] [.int z])) := c4.trans (st5 _ (Steps.refl _))
  have c7 : Steps p.tables e below (s₁.setTop (entryFrame m #[.ref a, .ref b, .int (Int32.ofNat o), .int (Int32.ofNat len), .null] 6)) (T5.setTop (mkF m 36 #[.val (.ref a), .val (.ref b), .val (.int (Int32.ofNat o)), .val (.int (Int32.ofNat len)), .val .null, .unset] [.int (Int32.ofNat len), .int (Int32.ofNat o), .ref b])) := c6.trans (by
    refine XS.ifNo X5.here hexec rfl (hb hbytes d30) rfl (i0_eq_f hz) ?_
    refine XS.aloadN X5.here hexec rfl (hb hbytes d33) rfl rfl ?_
    refine XS.iloadN X5.here hexec rfl (hb hbytes d34) rfl ?_
    refine XS.iloadN X5.here hexec rfl (hb hbytes d35) rfl ?_
    exact Steps.refl _)
  obtain ⟨v8, T8, X8, E8, g8⟩ := X5.callS hexec (Cmp3.law l b A o len) hown (wks W (staticW "java/lang/String" 177 Cmp3.yN)) (wk W Cmp3.tab) (W := 0) (Nat.le_of_ble_eq_true rfl) (Nat.le_of_ble_eq_true rfl) (Nat.le_refl _) (by show 0 + len ≤ len; omega) (g := (mkF m 36 #[.val (.ref a), .val (.ref b), .val (.int (Int32.ofNat o)), .val (.int (Int32.ofNat len)), .val .null, .unset] [.int (Int32.ofNat len), .int (Int32.ofNat o), .ref b])) rfl (by rw [hml]; rfl) c7 (argsL := [.ref b, .int (Int32.ofNat o), .int (Int32.ofNat len)]) (rest := []) rfl rfl (by show 2 * 0 + 0 ≤ _; decide) (hb hbytes d36) (⟨rfl, hA.mv X5.warmed.alike hh5, l1, l2, hp⟩)
  obtain ⟨e8, z8⟩ := E8
  obtain ⟨rfl, N, n1, n2, n3, n4, n5, n6⟩ := NewArr.mv _ T5 s _ _ hh5.symm (Vm.Alike.refl _) rfl e8
  rw [hh5] at z8
  have hB1 := hB.keep X8.warmed.alike (n6 _ _ hB.1)
  have hne : s.heap.size ≠ a := (Nat.ne_of_lt (Array.getElem?_eq_some_iff.mp hB.1).1).symm
  have c9 : Steps p.tables e below (s₁.setTop (entryFrame m #[.ref a, .ref b, .int (Int32.ofNat o), .int (Int32.ofNat len), .null] 6)) (T8.setTop (mkF m 39 #[.val (.ref a), .val (.ref b), .val (.int (Int32.ofNat o)), .val (.int (Int32.ofNat len)), .val .null, .unset] [.ref s.heap.size])) := g8
  have c10 : Steps p.tables e below (s₁.setTop (entryFrame m #[.ref a, .ref b, .int (Int32.ofNat o), .int (Int32.ofNat len), .null] 6)) (T8.setTop (mkF m 45 #[.val (.ref a), .val (.ref b), .val (.int (Int32.ofNat o)), .val (.int (Int32.ofNat len)), .val .null, .val (.ref s.heap.size)] [.int (Int32.ofNat N.slots.size), .ref s.heap.size, .ref a])) := by
    have hc : Steps p.tables e below (s₁.setTop (entryFrame m #[.ref a, .ref b, .int (Int32.ofNat o), .int (Int32.ofNat len), .null] 6)) (T8.setTop (mkF m 45 #[.val (.ref a), .val (.ref b), .val (.int (Int32.ofNat o)), .val (.int (Int32.ofNat len)), .val .null, .val (.ref s.heap.size)] [.int (Int32.ofNat len), .ref s.heap.size, .ref a])) := c9.trans (by
      refine XS.astore X8.here hexec rfl (hb hbytes d39) rfl rfl rfl ?_
      refine XS.aloadN X8.here hexec rfl (hb hbytes d41) rfl rfl ?_
      refine XS.aload X8.here hexec rfl (hb hbytes d42) rfl rfl ?_
      refine XS.iloadN X8.here hexec rfl (hb hbytes d44) rfl ?_
      exact Steps.refl _)
    rw [n4]; exact hc
  obtain ⟨v11, T11, X11, E11, g11⟩ := X8.callS hexec (CodL.law l s.heap.size N) hown (wks W (staticW "java/lang/String" 47 CodL.yN)) (wk W CodL.tab) (W := 1) (Nat.le_of_ble_eq_true rfl) (Nat.le_of_ble_eq_true rfl) (Nat.le_refl _) (by show 0 + len + 0 ≤ len; omega) (g := (mkF m 45 #[.val (.ref a), .val (.ref b), .val (.int (Int32.ofNat o)), .val (.int (Int32.ofNat len)), .val .null, .val (.ref s.heap.size)] [.int (Int32.ofNat N.slots.size), .ref s.heap.size, .ref a])) rfl (by rw [hml]; rfl) c10 (argsL := [.ref s.heap.size, .int (Int32.ofNat N.slots.size)]) (rest := [.ref a]) rfl rfl (by show 2 * 0 + (1 + 0) ≤ _; decide) (hb hbytes d45) (⟨rfl, n1⟩)
  obtain ⟨rfl, q11⟩ := E11
  have hB11 := hB1.mv (X8.warmed.alike.symm.trans X11.warmed.alike) q11
  have c12 : Steps p.tables e below (s₁.setTop (entryFrame m #[.ref a, .ref b, .int (Int32.ofNat o), .int (Int32.ofNat len), .null] 6)) (T11.setTop (mkF m 48 #[.val (.ref a), .val (.ref b), .val (.int (Int32.ofNat o)), .val (.int (Int32.ofNat len)), .val .null, .val (.ref s.heap.size)] [.int 0, .ref a])) := g11
  obtain ⟨T13, X13, p13, bl13, sl13, st13⟩ := X11.finit hexec hown (wk W (.fieldLink "java/lang/String" 15 "java/lang/String" "coder" "B")) (Or.inr ⟨_, (wk W (.laysFinal "java/lang/String" "java/lang/String" "coder" "B"))⟩) (Or.inl ⟨rfl, hnm⟩) f2 (Or.inl rfl) hB11 (t := .byte) (by decide +kernel) rfl (g := (mkF m 48 #[.val (.ref a), .val (.ref b), .val (.int (Int32.ofNat o)), .val (.int (Int32.ofNat len)), .val .null, .val (.ref s.heap.size)] [.int 0, .ref a])) rfl (rest := []) rfl (hb hbytes d48)
  have c14 : Steps p.tables e below (s₁.setTop (entryFrame m #[.ref a, .ref b, .int (Int32.ofNat o), .int (Int32.ofNat len), .null] 6)) (T13.setTop (mkF m 54 #[.val (.ref a), .val (.ref b), .val (.int (Int32.ofNat o)), .val (.int (Int32.ofNat len)), .val .null, .val (.ref s.heap.size)] [.ref s.heap.size, .ref a])) := (c12.trans (st13 _ (Steps.refl _))).trans (by
    refine XS.aloadN X13.here hexec rfl (hb hbytes d51) rfl rfl ?_
    refine XS.aload X13.here hexec rfl (hb hbytes d52) rfl rfl ?_
    exact Steps.refl _)
  obtain ⟨T15, X15, p15, bl15, sl15, st15⟩ := X13.finit hexec hown (wk W (.fieldLink "java/lang/String" 9 "java/lang/String" "value" "[B")) (Or.inr ⟨_, (wk W (.laysFinal "java/lang/String" "java/lang/String" "value" "[B"))⟩) (Or.inl ⟨rfl, hnm⟩) f1 (Or.inl rfl) bl13 (t := (.array .byte)) (by decide +kernel) rfl (g := (mkF m 54 #[.val (.ref a), .val (.ref b), .val (.int (Int32.ofNat o)), .val (.int (Int32.ofNat len)), .val .null, .val (.ref s.heap.size)] [.ref s.heap.size, .ref a])) rfl (rest := []) rfl (hb hbytes d54)
  have c16 : Steps p.tables e below (s₁.setTop (entryFrame m #[.ref a, .ref b, .int (Int32.ofNat o), .int (Int32.ofNat len), .null] 6)) (T15.setTop (mkF m 57 #[.val (.ref a), .val (.ref b), .val (.int (Int32.ofNat o)), .val (.int (Int32.ofNat len)), .val .null, .val (.ref s.heap.size)] [])) := c14.trans (st15 _ (Steps.refl _))
  have ap := apart (Or.inr ⟨_, (wk W (.laysFinal "java/lang/String" "java/lang/String" "value" "[B"))⟩) (Or.inr ⟨_, (wk W (.laysFinal "java/lang/String" "java/lang/String" "coder" "B"))⟩) f1 f2 (t₁ := .array .byte) (t₂ := .byte) (by decide +kernel) (by decide +kernel) (by decide)
  have al := X8.warmed.alike.symm.trans X15.warmed.alike
  have n7 : T11.heap[s.heap.size]? = some N := by rw [q11]; exact n1.1
  exact ⟨T15, none, _, _, _, X15, by simp, rfl, by omega, (fun _ => rfl), ⟨rfl, _, N, bl15, ((Same.refl D _).set _ (by simp)).set _ (by simp), sl15, (Cell.slots_setSlot_ne _ ap).trans sl13, n1.keep al (p15.other hne (p13.other hne n7)), n2, by rw [al.findClass]; exact n3, n4, n5, fun y c h1 h2 => p15.other h1 (p13.other h1 (by rw [q11]; exact n6 y c h2)), by rw [p15.2.2, p13.2.2, q11]; exact z8⟩, fun fs hl => c16.trans (X15.returnOut hexec hret (hb hbytes d57) hl)⟩
end New4
namespace New1
def yN : MethodName := ⟨"java/lang/String", "<init>", "([C)V"⟩
abbrev yB : ByteArray := jdk_42_method_3_code
theorem d0 : decode yB 0 = .ok (.aload_n 0, 1) := by decide +kernel
theorem d1 : decode yB 1 = .ok (.aload_n 1, 1) := by decide +kernel
theorem d2 : decode yB 2 = .ok (.iconst 0, 1) := by decide +kernel
theorem d3 : decode yB 3 = .ok (.aload_n 1, 1) := by decide +kernel
theorem d4 : decode yB 4 = .ok (.arraylength, 1) := by decide +kernel
theorem d5 : decode yB 5 = .ok (.aconst_null, 1) := by decide +kernel
theorem d6 : decode yB 6 = .ok (.invokespecial 27, 3) := by decide +kernel
theorem d9 : decode yB 9 = .ok (.return_, 1) := by decide +kernel
def site : List Cond := [New4.tab] ++ initW "java/lang/String" 27 New4.yN
def tab : Cond := tabOf yN yB 2 none site
def P (a : Addr) (D : Cell) (fV fC : Field) (b : Addr) (A : Cell) (z : Int32) (args : Array Value) (s : State) : Prop := args = #[.ref a, .ref b] ∧ Blank "java/lang/String" a D s ∧ Found "java/lang/String" "value" "[B" fV s ∧ Found "java/lang/String" "coder" "B" fC s ∧ Ch b A s ∧ StaticIs s "java/lang/String" "COMPACT_STRINGS" "Z" (.int z) ∧ ¬ z = 0 ∧ 0 < A.slots.size ∧ A.slots.size ≤ 536870912 ∧ ∀ i, i < A.slots.size → ¬ 255 < cv A i
def E (a : Addr) (D : Cell) (fV fC : Field) (A : Cell) (r : Option Value) (s u : State) : Prop := Got a D fV fC A 0 A.slots.size r s u
/-- new String(chars), not empty, no char above 255: a Latin-1 String of their low bytes -/
theorem law (l : Launch) (a : Addr) (D : Cell) (fV fC : Field) (b : Addr) (A : Cell) (z : Int32) : Law l yN 2 1 3 52 yB 2 none site (P a D fV fC b A z) (E a D fV fC A) [⟨a, fC.slot⟩, ⟨a, fV.slot⟩] 1 A.slots.size := by
  refine Law.of_walk (plainFor_of_name (by decide +kernel)) (by decide +kernel) (by decide +kernel) (by decide) (fun _ _ h => by rw [h.1]; rfl) (fun _ U U' hal hh h => ⟨h.1, h.2.1.mv hal hh, h.2.2.1.al hal, h.2.2.2.1.al hal, h.2.2.2.2.1.mv hal hh, h.2.2.2.2.2.1.there hal hh, h.2.2.2.2.2.2⟩) (fun r U U' V V' h1 hal h2 h => Got.mv r U U' V V' h1 hal h2 h) ?_
  intro p e s m args below meth c s₁ X0 hexec hbytes hml hret hlk hnm hown hh0 W hP
  obtain ⟨rfl, hB, f1, f2, hA, s1, hz, l0, l2, hp⟩ := hP
  have c1 : Steps p.tables e below (s₁.setTop (entryFrame m #[.ref a, .ref b] 2)) (s₁.setTop (mkF m 0 #[.val (.ref a), .val (.ref b)] [])) := entry rfl
  have c2 : Steps p.tables e below (s₁.setTop (entryFrame m #[.ref a, .ref b] 2)) (s₁.setTop (mkF m 6 #[.val (.ref a), .val (.ref b)] [.null, .int (Int32.ofNat A.slots.size), .int 0, .ref b, .ref a])) := c1.trans (by
    refine XS.aloadN X0.here hexec rfl (hb hbytes d0) rfl rfl ?_
    refine XS.aloadN X0.here hexec rfl (hb hbytes d1) rfl rfl ?_
    refine iconstV X0.here hexec rfl 0 (hb hbytes d2) (by decide) ?_
    refine XS.aloadN X0.here hexec rfl (hb hbytes d3) rfl rfl ?_
    refine X0.alen hexec (hA.1.mv X0.warmed.alike hh0) rfl rfl (hb hbytes d4) ?_
    refine XS.aconstNull X0.here hexec rfl (hb hbytes d5) ?_
    exact Steps.refl _)
  obtain ⟨v3, T3, X3, E3, g3⟩ := X0.callN hexec (New4.law l a D fV fC b A z 0 A.slots.size) rfl hown (wks W (initW "java/lang/String" 27 New4.yN)) (W New4.tab (by simp only [site, List.mem_cons, List.mem_append, true_or, or_true])) (W := 0) (Nat.le_of_ble_eq_true rfl) (Nat.le_of_ble_eq_true rfl) (Nat.le_refl _) (by show 0 + A.slots.size ≤ A.slots.size; omega) (g := (mkF m 6 #[.val (.ref a), .val (.ref b)] [.null, .int (Int32.ofNat A.slots.size), .int (Int32.ofNat 0), .ref b, .ref a])) rfl (by rw [hml]; rfl) c2 (argsL := [.ref b, .int (Int32.ofNat 0), .int (Int32.ofNat A.slots.size), .null]) (rest := []) rfl rfl (by show 2 * 0 + 0 ≤ _; decide) (hb hbytes d6) (⟨rfl, hB.mv X0.warmed.alike hh0, f1.al X0.warmed.alike, f2.al X0.warmed.alike, hA.mv X0.warmed.alike hh0, s1.there X0.warmed.alike hh0, hz, l0, by omega, l2, fun i hi => by rw [Nat.zero_add]; exact hp i hi⟩)
  have e0 := Got.mv _ s₁ s _ _ hh0.symm (Vm.Alike.refl _) rfl E3
  obtain rfl := e0.1
  have c4 : Steps p.tables e below (s₁.setTop (entryFrame m #[.ref a, .ref b] 2)) (T3.setTop (mkF m 9 #[.val (.ref a), .val (.ref b)] [])) := g3
  exact ⟨T3, none, _, _, _, X3, by simp, rfl, by omega, (fun _ => rfl), e0, fun fs hl => c4.trans (X3.returnOut hexec hret (hb hbytes d9) hl)⟩
theorem pays {l : Launch} {R : Room} {p : Program} {e : Env} {below : List Frame} {s : State} {sargs : Array Value} {len W : Nat} (a : Addr) (D : Cell) (fV fC : Field) (b : Addr) (A : Cell) (z : Int32) (htab : tab.before sargs s = true) (hfr : 4 ≤ R.frames) (hlo : W + 65 ≤ R.locals) :
    Back l R p e below s sargs yN len W (fun A₁ a₁ => A₁.cells + 1 ≤ R.cells ∧ A₁.slots + A.slots.size ≤ R.slots ∧ P a D fV fC b A z a₁ A₁.U) (fun A₁ _ v₁ B₁ => E a D fV fC A v₁ A₁.U B₁.U ∧ B₁.locs = A₁.locs ++ [⟨a, fC.slot⟩, ⟨a, fV.slot⟩] ∧ B₁.cells = A₁.cells + 1 ∧ B₁.slots = A₁.slots + A.slots.size) :=
  (law l a D fV fC b A z).pays htab hfr (by omega)
end New1
/-- the byte, read back as charAt reads it, is the char -/
theorem lo8_mask {x : Int32} (h0 : ¬ x < 0) (h1 : ¬ 255 < x) : lo8 x &&& 255 = x := by
  have t : ∀ k : Fin 256, lo8 (Int32.ofNat k.val) &&& 255 = Int32.ofNat k.val := by decide +kernel
  rw [Int32.lt_iff_toInt_lt] at h0 h1
  have e0 : (0 : Int32).toInt = 0 := rfl
  have e1 : (255 : Int32).toInt = 255 := rfl
  obtain ⟨k, hk⟩ : ∃ k : Nat, x.toInt = k := ⟨x.toInt.toNat, by omega⟩
  have hx : x = Int32.ofNat k := Int32.toInt_inj.mp (by rw [hk, Int32.toInt_ofNat_small (by omega)])
  rw [hx]
  exact t ⟨k, by omega⟩
end StrChars
namespace StrChars.Road
open Jvm Sem ClassFile Op Lib Jvm.Stand Jvm.Free Jvm.Free.XT
open Jvm.Lib.Cold (StaticIs)
abbrev ST : String := "java/lang/String"
/-- every table word that New1's law asks, flat -/
abbrev words : List Jvm.Cond := [.code New1.yN New1.yB 2 none, .initialized ST, .methodLink ST 27 New4.yN, .instanceMethod New4.yN,
  .code New4.yN New4.yB 6 none, .fieldLink ST 38 ST "COMPACT_STRINGS" "Z", .laysFinal ST ST "value" "[B", .fieldLink ST 9 ST "value" "[B", .laysFinal ST ST "coder" "B", .fieldLink ST 15 ST "coder" "B",
  .methodLink ST 1 Lib.objectInit, .instanceMethod Lib.objectInit, .code Lib.objectInit ⟨#[0xb1]⟩ 1 none, .methodLink ST 177 Cmp3.yN, .static Cmp3.yN, .methodLink ST 47 CodL.yN, .static CodL.yN,
  .code Cmp3.yN Cmp3.yB 6 (some (.array .byte)), .initialized U16, .arrayClass .byte, .methodLink U16 115 Cmp5.yN, .static Cmp5.yN, .code Cmp5.yN Cmp5.yB 7 (some .int), .code CodL.yN CodL.yB 2 (some .byte)]
theorem tab_of {a : Array Value} {s : State} (h : ∀ w ∈ words, w.before a s = true) : New1.tab.before a s = true := by
  have h5 : Cmp5.tab.before a s = true := unparts (wk h (.code Cmp5.yN Cmp5.yB 7 (some .int))) (wks h (.initialized Cmp5.yN.cls :: Cmp5.site))
  have hc : CodL.tab.before a s = true := unparts (wk h (.code CodL.yN CodL.yB 2 (some .byte))) (wks h (.initialized CodL.yN.cls :: CodL.site))
  have q5 : ∀ w ∈ Cmp5.tab :: words, w.before a s = true := fun w hw => (List.mem_cons.mp hw).elim (fun e => e ▸ h5) (h w)
  have h3 : Cmp3.tab.before a s = true := unparts (wk q5 (.code Cmp3.yN Cmp3.yB 6 (some (.array .byte)))) (wks q5 (.initialized Cmp3.yN.cls :: Cmp3.site))
  have q3 : ∀ w ∈ Cmp3.tab :: CodL.tab :: words, w.before a s = true := fun w hw => (List.mem_cons.mp hw).elim (fun e => e ▸ h3) fun hw => (List.mem_cons.mp hw).elim (fun e => e ▸ hc) (h w)
  have h4 : New4.tab.before a s = true := unparts (wk q3 (.code New4.yN New4.yB 6 none)) (wks q3 (.initialized New4.yN.cls :: New4.site))
  have q4 : ∀ w ∈ New4.tab :: words, w.before a s = true := fun w hw => (List.mem_cons.mp hw).elim (fun e => e ▸ h4) (h w)
  exact unparts (wk q4 (.code New1.yN New1.yB 2 none)) (wks q4 (.initialized New1.yN.cls :: New1.site))
/-- the words ride from the start Z to the walk's own state -/
theorem moved {Z s : State} {a0 args : Array Value} (hZ : Z.Warmed39 s.vm) (hw : ∀ d ∈ words, d.before a0 Z = true) : ∀ d ∈ words, d.before args s = true := fun d hd => by
  have q := hw d hd
  have t : ∀ d ∈ words, d = .arrayClass .byte ∨ (d.onTables && d.keepsFace) = true := by decide +kernel
  rcases t d hd with rfl | t
  · exact RoadKit.mvA hZ q
  · exact RoadKit.mv hZ q t
/-- WHAT COMES BACK, over the tables of the start Z: h the heap at the call, h' behind it -/
def Q (Z : State) (x : Addr) (A : Cell) (h : Heap) (v : Option Value) (h' : Heap) (L : List Loc) : Prop := v = none ∧ (∀ y ∈ L, y.base = x) ∧ RoadKit.Keep h h' [x] ∧ h'.size = h.size + 1 ∧ RoadKit.Exa Z h' x ST ∧ RoadKit.Fld Z h' x ST "value" "[B" (.ref h.size) ∧ RoadKit.Fld Z h' x ST "coder" "B" (.int 0) ∧
  (∃ V : Cell, RoadKit.Arr Z h' h.size V .byte ∧ V.vm = .none ∧ Z.vm.findClass "[B" = some V.cls ∧ V.slots.size = A.slots.size ∧ ∀ j, j < A.slots.size → V.slots[j]? = some (.int (lo8 (cv A j)))) ∧
  ∀ (O n d : String) (w : Value), RoadKit.Fld Z h x O n d w → RoadKit.slotOf Z O n d ≠ RoadKit.slotOf Z ST "value" "[B" → RoadKit.slotOf Z O n d ≠ RoadKit.slotOf Z ST "coder" "B" → RoadKit.Fld Z h' x O n d w
/-- **new String(chars) AT A CALL, IN THE ROAD'S FORM**: for specialBack behind newO: x the fresh String, b the char[] with the cell A -/
theorem back {p : Program} {l : Launch} {e : Env} {R : Room} {s : State} {args : Array Value} {below : List Frame} {len W : Nat} {Z : State} {a0 : Array Value} {h : Heap} (hZ : Z.Warmed39 s.vm) (hw : ∀ d ∈ words, d.before a0 Z = true) {kI : Nat} (wi : (Jvm.Cond.instantiable ST kI).before a0 Z = true)
    {x b : Addr} {A : Cell} {z : Int32} {v0 c0 : Value} (E : RoadKit.Exa Z h x ST) (V : RoadKit.Fld Z h x ST "value" "[B" v0) (C : RoadKit.Fld Z h x ST "coder" "B" c0) (K : RoadKit.Arr Z h b A .char) (hty : Typed .char A) (S : RoadKit.Sta Z h ST "COMPACT_STRINGS" "Z" (.int z)) (hz : ¬ z = 0)
    (l0 : 0 < A.slots.size) (l2 : A.slots.size ≤ 536870912) (hp : ∀ i, i < A.slots.size → ¬ 255 < cv A i) (hfr : 4 ≤ R.frames) (hlo : W + 65 ≤ R.locals) :
    Back l R p e below s args New1.yN len W (fun P a => a = #[.ref x, .ref b] ∧ P.U.heap = h ∧ P.cells + 1 ≤ R.cells ∧ P.slots + A.slots.size ≤ R.slots)
      (fun P _ v B => ∃ L, Q Z x A h v B.U.heap L ∧ B.locs = P.locs ++ L ∧ B.cells = P.cells + 1 ∧ B.slots = P.slots + A.slots.size) := by
  intro m meth c P g ig mk a X hg hsize hdg hW hn hp'
  obtain ⟨rfl, rfl, r1, r2⟩ := hp'
  have al : Z.vm.Alike P.U.vm := hZ.alike.trans X.warmed.alike
  obtain ⟨D, cfV, kV, iV, fV, hD, gV, stV, knV, obV, asV, slV⟩ := id V
  obtain ⟨D', cfC, kC, iC, fC, hD', gC, stC, -, -, asC, slC⟩ := id C
  cases hD.symm.trans hD'
  obtain ⟨D2, kD, e1, e2, e3, e4, e5⟩ := id E
  cases hD.symm.trans e1
  obtain ⟨c2, k2, i1, i2, i3, -⟩ := Cond.instantiable_spec wi
  cases e2.symm.trans i1
  cases e3.symm.trans i2
  obtain ⟨kU, u1, u2⟩ := al.2.2 _ _ e3
  have hB : Blank ST x D P.U := ⟨hD, ⟨knV, fun q hq => by rw [hq] at obV; cases obV⟩, by rw [al.findClass]; exact e2, kU, u1, by rw [u2]; exact i3, by rw [u2]; exact e5 i3⟩
  have F1 : Found ST "value" "[B" fV P.U := ⟨SBG.found_only al ⟨cfV, kV, iV, gV⟩, stV⟩
  have F2 : Found ST "coder" "B" fC P.U := ⟨SBG.found_only al ⟨cfC, kC, iC, gC⟩, stC⟩
  have hA : Ch b A P.U := ⟨⟨K.1, State.isArrayOf_alike al K.2.1, K.2.2, by omega⟩, hty⟩
  have hS : StaticIs P.U ST "COMPACT_STRINGS" "Z" (.int z) := by
    obtain ⟨cfS, iS, kS, fS, st, cS, t1, t2, t3, t4, t5, t6, t7⟩ := S
    exact StaticIs.there (s := { Z with heap := P.U.heap }) ⟨cfS, iS, kS, fS, st, cS, t1, t2, t3, t4, t5, (fun q => by rw [q] at t6; cases t6), t7⟩ al rfl
  obtain ⟨v, B, X', ⟨⟨hv, E', V', q1, q2, q3, q4, q5, q6, q7, q8, q9, q10, q11⟩, hl, hc, hs⟩, st⟩ := New1.pays x D fV fC b A z (tab_of (moved hZ hw)) hfr hlo m meth c P g ig mk _ X hg hsize hdg hW hn ⟨r1, r2, rfl, hB, F1, F2, hA, hS, hz, l0, l2, hp⟩
  have al' : Z.vm.Alike B.U.vm := hZ.alike.trans X'.warmed.alike
  have hsz : E'.slots.size = D.slots.size := by
    obtain ⟨-, -, -, kB, w1, w2, w3⟩ := q1
    obtain ⟨kB', y1, y2⟩ := al'.2.2 _ _ e3
    rw [q2.2.1] at w1
    cases w1.symm.trans y1
    rw [w3, e5 i3, y2]
  refine ⟨v, B, X', ⟨_, ⟨hv, ?_, ⟨by omega, fun y cy hy hn' => q10 y cy (by simpa using hn') hy, fun y cy hy => ?_⟩, q11, ⟨E', _, q1.1, by rw [q2.2.1]; exact e2, by rw [q2.2.1]; exact e3, by rw [q2.1]; exact obV, fun _ => by rw [hsz]; exact e5 i3⟩,
    ⟨E', cfV, kV, iV, fV, q1.1, gV, stV, by rw [q2.1]; exact knV, by rw [q2.1]; exact obV, by rw [q2.2.1]; exact asV, q3⟩, ⟨E', cfC, kC, iC, fC, q1.1, gC, stC, by rw [q2.1]; exact knV, by rw [q2.1]; exact obV, by rw [q2.2.1]; exact asC, q4⟩,
    ⟨V', ⟨q5.1, State.isArrayOf_alike al'.symm q5.2.1, q5.2.2.1⟩, q6, by rw [← al'.findClass]; exact q7, q8, fun j hj => by have := q9 j hj; rwa [Nat.zero_add] at this⟩, fun O n d w F n1 n2 => ?_⟩, hl, hc, hs⟩, st⟩
  · intro y hy
    simp only [List.mem_cons, List.not_mem_nil, or_false] at hy
    rcases hy with rfl | rfl <;> rfl
  · by_cases q : y = x
    · subst q
      cases hD.symm.trans hy
      exact ⟨E', q1.1, q2.2.1, q2.1, hsz⟩
    · exact ⟨cy, q10 y cy q hy, rfl, rfl, rfl⟩
  · obtain ⟨D3, cf, k, i, f, g1, g2, g3, g4, g5, g6, g7⟩ := F
    cases hD.symm.trans g1
    simp only [RoadKit.slotOf, g2, gV, gC, Option.map_some, Option.getD_some] at n1 n2
    exact ⟨E', cf, k, i, f, q1.1, g2, g3, by rw [q2.1]; exact g4, by rw [q2.1]; exact g5, by rw [q2.2.1]; exact g6, by rw [q2.2.2 f.slot (by simp [n1, n2])]; exact g7⟩
end StrChars.Road
namespace StrChars.Road
open Jvm Sem ClassFile Op Lib Jvm.Stand Jvm.Free Jvm.Free.XT
/-- WHAT COMES BACK, the byte[] as a list of values -/
def QA (Z : State) (x : Addr) (zn : Int32) (cs : List Int32) (h : Heap) (v : Option Value) (h' : Heap) (L : List Loc) : Prop := v = none ∧ (∀ y ∈ L, y.base = x) ∧ RoadKit.Keep h h' [x] ∧ h'.size = h.size + 1 ∧ RoadKit.Exa Z h' x ST ∧ RoadKit.Fld Z h' x ST "value" "[B" (.ref h.size) ∧ RoadKit.Fld Z h' x ST "coder" "B" (.int 0) ∧
  (∃ kb, Z.vm.findClass "[B" = some kb ∧ RoadKit.Arv Z h' h.size kb .byte zn (cs.map fun c => .int (lo8 c)) (.int 0)) ∧
  ∀ (O n d : String) (w : Value), RoadKit.Fld Z h x O n d w → RoadKit.slotOf Z O n d ≠ RoadKit.slotOf Z ST "value" "[B" → RoadKit.slotOf Z O n d ≠ RoadKit.slotOf Z ST "coder" "B" → RoadKit.Fld Z h' x O n d w
/-- **new String(chars) AT A CALL, THE ARRAYS AS LISTS**: the char[] at b holds cs, not empty, no char above 255 -/
theorem backArv {p : Program} {l : Launch} {e : Env} {R : Room} {s : State} {args : Array Value} {below : List Frame} {len W : Nat} {Z : State} {a0 : Array Value} {h : Heap} (hZ : Z.Warmed39 s.vm) (hw : ∀ d ∈ words, d.before a0 Z = true) {kI : Nat} (wi : (Jvm.Cond.instantiable ST kI).before a0 Z = true)
    {x b : Addr} {k : ClassId} {zn z : Int32} {cs : List Int32} {dv v0 c0 : Value} (E : RoadKit.Exa Z h x ST) (V : RoadKit.Fld Z h x ST "value" "[B" v0) (C : RoadKit.Fld Z h x ST "coder" "B" c0) (K : RoadKit.Arv Z h b k .char zn (cs.map Value.int) dv) (S : RoadKit.Sta Z h ST "COMPACT_STRINGS" "Z" (.int z)) (hz : ¬ z = 0)
    (hlen : zn.toNatClampNeg = cs.length) (h0 : 0 < cs.length) (hbig : cs.length ≤ 536870912) (hall : ∀ c ∈ cs, ¬ 255 < c) (hfr : 4 ≤ R.frames) (hlo : W + 65 ≤ R.locals) :
    Back l R p e below s args New1.yN len W (fun P a => a = #[.ref x, .ref b] ∧ P.U.heap = h ∧ P.cells + 1 ≤ R.cells ∧ P.slots + cs.length ≤ R.slots)
      (fun P _ v B => ∃ L, QA Z x zn cs h v B.U.heap L ∧ B.locs = P.locs ++ L ∧ B.cells = P.cells + 1 ∧ B.slots = P.slots + cs.length) := by
  obtain ⟨A, K1, K2, K3, K4, K5, K6⟩ := K
  have e : A.slots.size = cs.length := K3.trans hlen
  have hat : ∀ (i : Nat) (hi : i < cs.length), A.slots[i]? = some (.int cs[i]) := fun i hi => by rw [K5 i (by omega)]; simp [List.getD_eq_getElem?_getD, hi]
  have hcv : ∀ (i : Nat) (hi : i < cs.length), cv A i = cs[i] := fun i hi => by unfold cv; rw [hat i hi]
  have hty : Typed .char A := fun i v hv => by
    have hi : i < A.slots.size := (Array.getElem?_eq_some_iff.mp hv).1
    have q := K5 i hi
    rw [hv] at q
    rw [Option.some.inj q]
    exact K6 i hi
  refine Back.mono (back hZ hw wi E V C K1 hty S hz (by omega) (by omega) (fun i hi => by rw [hcv i (by omega)]; exact hall _ (List.getElem_mem _)) hfr hlo) (fun P a hp => ⟨hp.1, hp.2.1, hp.2.2.1, by rw [e]; exact hp.2.2.2⟩) (fun P a v B hp hq => ?_)
  obtain ⟨L, ⟨q1, q2, q3, q4, q5, q6, q7, ⟨V', v1, v2, v3, v4, v5⟩, q9⟩, hl, hc, hs⟩ := hq
  refine ⟨L, ⟨q1, q2, q3, q4, q5, q6, q7, ⟨V'.cls, v3, V', v1, rfl, by rw [v4, e, hlen], K4, fun i hi => ?_, fun i hi => ?_⟩, q9⟩, hl, hc, by rw [hs, e]⟩
  · have hi' : i < cs.length := by omega
    rw [v5 i (by omega), hcv i hi']; simp [List.getD_eq_getElem?_getD, hi']
  · have hi' : i < cs.length := by omega
    simp only [List.getD_eq_getElem?_getD, List.getElem?_map, List.getElem?_eq_getElem hi', Option.map_some, Option.getD_some]
    exact fits_lo8 _
end StrChars.Road
namespace StrChars.Road
open Jvm Sem ClassFile Op Lib Jvm.Stand Jvm.Free Jvm.Free.XT
/-- WHAT COMES BACK, in the writer's own shape -/
def QV (Z : State) (x : Addr) (N : Int32) (bs : List Int32) (h : Heap) (n0 : Nat) (v : Option Value) (h' : Heap) (L : List Loc) : Prop := v = none ∧ RoadKit.Fr n0 L ∧ RoadKit.Keep h h' [x] ∧ RoadKit.Exa Z h' x ST ∧ RoadKit.Fld Z h' x ST "coder" "B" (.int 0) ∧
  ∃ (t : Addr) (kb : ClassId), n0 ≤ t ∧ h.size ≤ t ∧ ¬ t = x ∧ RoadKit.Fld Z h' x ST "value" "[B" (.ref t) ∧ RoadKit.Arv Z h' t kb .byte N (bs.map Value.int) (.int 0)
/-- **new String(chars) AT A CALL, FOR THE WRITER**: a char[] of n known ints, each 0 to 255 -/
theorem backV {p : Program} {l : Launch} {e : Env} {R : Room} {s : State} {args : Array Value} {below : List Frame} {len W : Nat} {Z : State} {a0 : Array Value} {h : Heap} (hZ : Z.Warmed39 s.vm) (hw : ∀ d ∈ words, d.before a0 Z = true) {kI : Nat} (wi : (Jvm.Cond.instantiable ST kI).before a0 Z = true)
    {x b : Addr} {kC : ClassId} {cs bs : List Int32} {d v0 c0 : Value} {z N : Int32} {n n0 : Nat} (hx0 : n0 ≤ x) (hh0 : n0 ≤ h.size) (E : RoadKit.Exa Z h x ST) (V : RoadKit.Fld Z h x ST "value" "[B" v0) (C : RoadKit.Fld Z h x ST "coder" "B" c0) (K : RoadKit.Arv Z h b kC .char N (cs.map Value.int) d) (S : RoadKit.Sta Z h ST "COMPACT_STRINGS" "Z" (.int z)) (hz : ¬ z = 0)
    (hn : cs.length = n) (hN : N = Int32.ofNat n) (l0 : 0 < n) (l2 : n ≤ 4000) (hp : ∀ c ∈ cs, ¬ c < 0 ∧ ¬ (255 : Int32) < c) (hb : bs = cs.map (fun c => c.toInt8.toInt32)) (hfr : 4 ≤ R.frames) (hlo : W + 65 ≤ R.locals) :
    Back l R p e below s args (⟨"java/lang/String", "<init>", "([C)V"⟩ : MethodName) len W (fun P a => a = #[.ref x, .ref b] ∧ P.U.heap = h ∧ P.cells + 1 ≤ R.cells ∧ P.slots + n ≤ R.slots)
      (fun P _ v B => ∃ L, QV Z x N bs h n0 v B.U.heap L ∧ B.locs = P.locs ++ L ∧ B.cells = P.cells + 1 ∧ B.slots = P.slots + n) := by
  subst hn hN hb
  refine Back.mono (backArv hZ hw wi E V C K S hz (n32 (by omega)) l0 (by omega) (fun c hc => (hp c hc).2) hfr hlo) (fun P a hp => hp) (fun P a v B hp hq => ?_)
  obtain ⟨L, ⟨q1, q2, q3, q4, q5, q6, q7, ⟨kb, v1, v2⟩, q9⟩, hl, hc, hs⟩ := hq
  exact ⟨L, ⟨q1, fun y hy => by rw [q2 y hy]; exact hx0, q3, q5, q7, h.size, kb, hh0, Nat.le_refl _, Nat.ne_of_gt E.lt, q6, by rw [List.map_map]; exact v2⟩, hl, hc, hs⟩
end StrChars.Road
namespace StrChars
open Jvm Sem ClassFile Op Lib Jvm.Stand Jvm.Free.XT Jvm.Free.ALB Jvm.Free.JM Jvm.Free
open Jvm.Lib.Cold (StaticIs)
def hi8 (x : Int32) : Int32 := lo8 (x >>> ((8 : Int32) &&& 31))
/-- what StringUTF16.getChar makes of two bytes -/
def pairCh (u v : Int32) : Int32 := (((u &&& 255) <<< ((0 : Int32) &&& 31)) ||| ((v &&& 255) <<< ((8 : Int32) &&& 31))).toUInt32.toUInt16.toUInt32.toInt32
theorem lo8_and (x : Int32) : (lo8 x &&& 255).toBitVec.toNat = x.toBitVec.toNat % 256 := by
  have h : (lo8 x).toBitVec = (x.toBitVec.signExtend 8).signExtend 32 := by rw [lo8, Int8.toBitVec_toInt32, Int32.toBitVec_toInt8]
  rw [Int32.toBitVec_and, BitVec.toNat_and, h]
  have e : ((x.toBitVec.signExtend 8).signExtend 32).toNat % 256 = x.toBitVec.toNat % 256 := by
    rw [BitVec.toNat_signExtend]
    have hlt := x.toBitVec.isLt
    simp only [BitVec.toNat_setWidth, BitVec.toNat_signExtend]
    split <;> split <;> omega
  rw [← e]
  exact Nat.and_two_pow_sub_one_eq_mod _ 8
theorem pair_says {c : Int32} (h0 : ¬ c < 0) (h1 : ¬ 65535 < c) : pairCh (lo8 c) (hi8 c) = c := by
  rw [Int32.lt_iff_toInt_lt] at h0 h1
  have e0 : (0 : Int32).toInt = 0 := rfl
  have e1 : (65535 : Int32).toInt = 65535 := rfl
  have hc : c.toInt = c.toBitVec.toNat := by
    have := c.toBitVec.isLt
    have e : c.toInt = c.toBitVec.toInt := rfl
    rw [e] at h0 h1
    rw [e]
    rw [BitVec.toInt_eq_toNat_cond] at h0 h1 ⊢
    split at h0 <;> split <;> omega
  have hn : c.toBitVec.toNat < 65536 := by omega
  have a1 := lo8_and c
  have a2 : (hi8 c &&& 255).toBitVec.toNat = c.toBitVec.toNat / 256 := by
    rw [hi8, lo8_and]
    have e : ((8 : Int32) &&& 31) = 8 := by decide
    rw [e, Int32.toBitVec_shiftRight]
    have e2 : ((8 : Int32).toBitVec.smod 32) = 8#32 := by decide
    rw [e2, BitVec.sshiftRight_eq', BitVec.toNat_sshiftRight_of_msb_false (by rw [BitVec.msb_eq_false_iff_two_mul_lt]; omega)]
    show c.toBitVec.toNat >>> 8 % 256 = _
    rw [Nat.shiftRight_eq_div_pow]
    omega
  unfold pairCh
  apply Int32.toBitVec_inj.mp
  apply BitVec.eq_of_toNat_eq
  have f0 : ((0 : Int32) &&& 31) = 0 := by decide
  have f8 : ((8 : Int32) &&& 31) = 8 := by decide
  rw [f0, f8]
  have g : (((lo8 c &&& 255) <<< (0 : Int32)) ||| ((hi8 c &&& 255) <<< (8 : Int32))).toBitVec.toNat = c.toBitVec.toNat := by
    rw [Int32.toBitVec_or, Int32.toBitVec_shiftLeft, Int32.toBitVec_shiftLeft]
    have s0 : ((0 : Int32).toBitVec.smod 32) = 0#32 := by decide
    have s8 : ((8 : Int32).toBitVec.smod 32) = 8#32 := by decide
    rw [s0, s8, BitVec.toNat_or]
    simp only [BitVec.shiftLeft_eq', BitVec.toNat_shiftLeft, a1, a2]
    show (c.toBitVec.toNat % 256) <<< 0 % 2 ^ 32 ||| (c.toBitVec.toNat / 256) <<< 8 % 2 ^ 32 = _
    rw [Nat.shiftLeft_zero, Nat.mod_eq_of_lt (show c.toBitVec.toNat % 256 < 2 ^ 32 by omega), Nat.mod_eq_of_lt (show (c.toBitVec.toNat / 256) <<< 8 < 2 ^ 32 by rw [Nat.shiftLeft_eq]; omega), Nat.or_comm, ← Nat.shiftLeft_add_eq_or_of_lt (by omega), Nat.shiftLeft_eq]
    omega
  show BitVec.toNat (((((lo8 c &&& 255) <<< (0 : Int32)) ||| ((hi8 c &&& 255) <<< (8 : Int32))).toBitVec.setWidth 16).setWidth 32) = _
  rw [BitVec.toNat_setWidth, BitVec.toNat_setWidth, g]
  omega
end StrChars
namespace StrChars
open Jvm Sem ClassFile Op Lib Jvm.Stand Jvm.Free.XT Jvm.Free.ALB Jvm.Free.JM Jvm.Free
open Jvm.Lib.Cold (StaticIs)
/-- the array's cell V codes the n chars f 0 .. f (n - 1) by the coder cd, as the JDK does: coder 1 just where some char is above 255 -/
def Cod (cd : Int32) (n : Nat) (f : Nat → Int32) (V : Cell) : Prop := (cd = 0 ∧ V.slots.size = n ∧ ∀ j, j < n → V.slots[j]? = some (.int (lo8 (f j))) ∧ ¬ 255 < f j) ∨ (cd = 1 ∧ V.slots.size = 2 * n ∧ (∀ j, j < n → V.slots[2 * j]? = some (.int (lo8 (f j))) ∧ V.slots[2 * j + 1]? = some (.int (hi8 (f j)))) ∧ ∃ j, j < n ∧ 255 < f j)
/-- **x is a String of the n chars f 0 .. f (n - 1)**, Latin-1 or UTF-16; its array at t has the cell V -/
def Txt (x t : Addr) (V : Cell) (cd : Int32) (n : Nat) (f : Nat → Int32) (U : State) : Prop := Exact "java/lang/String" x U ∧ Has x "java/lang/String" "value" "[B" (.ref t) U ∧ Has x "java/lang/String" "coder" "B" (.int cd) U ∧ XT.Arr .byte t V U ∧ Cod cd n f V ∧ ∀ j, j < n → ¬ f j < 0 ∧ ¬ 65535 < f j
theorem Txt.mv {x t : Addr} {V : Cell} {cd : Int32} {n : Nat} {f : Nat → Int32} {U U' : State} (h : Txt x t V cd n f U) (hal : U.vm.Alike U'.vm) (hh : U'.heap = U.heap) : Txt x t V cd n f U' := ⟨h.1.mv hal hh, h.2.1.mv hal hh, h.2.2.1.mv hal hh, h.2.2.2.1.mv hal hh, h.2.2.2.2⟩
end StrChars
namespace StrChars.Road
open Jvm Sem ClassFile Op Lib Jvm.Stand Jvm.Free Jvm.Free.XT
open Jvm.Lib.Cold (StaticIs)
theorem consq {a : Array Value} {s : State} {c : Jvm.Cond} {L : List Jvm.Cond} (h0 : c.before a s = true) (h : ∀ w ∈ L, w.before a s = true) : ∀ w ∈ c :: L, w.before a s = true := fun w hw => (List.mem_cons.mp hw).elim (fun e => e ▸ h0) (h w)
/-- the bytes of the chars cs, low before high -/
def wideBytes : List Int32 → List Value
  | [] => []
  | c :: cs => .int (lo8 c) :: .int (hi8 c) :: wideBytes cs
theorem wide_lo (d : Value) : ∀ (cs : List Int32) (j : Nat), j < cs.length → (wideBytes cs).getD (2 * j) d = .int (lo8 (cs.getD j 0))
  | [], j, h => absurd h (Nat.not_lt_zero j)
  | c :: cs, 0, _ => rfl
  | c :: cs, j + 1, h => by
    have q := wide_lo d cs j (by simpa using h)
    rw [show 2 * (j + 1) = 2 * j + 1 + 1 from by omega]
    simpa [wideBytes] using q
theorem wide_hi (d : Value) : ∀ (cs : List Int32) (j : Nat), j < cs.length → (wideBytes cs).getD (2 * j + 1) d = .int (hi8 (cs.getD j 0))
  | [], j, h => absurd h (Nat.not_lt_zero j)
  | c :: cs, 0, _ => rfl
  | c :: cs, j + 1, h => by
    have q := wide_hi d cs j (by simpa using h)
    rw [show 2 * (j + 1) + 1 = 2 * j + 1 + 1 + 1 from by omega]
    simpa [wideBytes] using q
theorem low_at (d : Value) (cs : List Int32) (j : Nat) (h : j < cs.length) : (cs.map fun c => Value.int (lo8 c)).getD j d = .int (lo8 (cs.getD j 0)) := by
  simp [List.getD_eq_getElem?_getD, h]
/-- an array of N2 bytes vs codes the chars cs by the coder cd -/
def CodA (cs : List Int32) (cd N2 : Int32) (vs : List Value) : Prop := (cd = 0 ∧ N2 = Int32.ofNat cs.length ∧ vs = (cs.map fun c => Value.int (lo8 c)) ∧ ∀ c ∈ cs, ¬ 255 < c) ∨ (cd = 1 ∧ N2 = Int32.ofNat (2 * cs.length) ∧ vs = wideBytes cs ∧ ∃ c ∈ cs, 255 < c)
theorem CodA.cod {cs : List Int32} {cd N2 : Int32} {vs : List Value} {V : Cell} (h : CodA cs cd N2 vs) (hn : 2 * cs.length < 2 ^ 31) (hs : V.slots.size = N2.toNatClampNeg) (hv : RoadKit.Has V vs (.int 0)) : Cod cd cs.length (fun j => cs.getD j 0) V := by
  rcases h with ⟨rfl, rfl, rfl, h⟩ | ⟨rfl, rfl, rfl, c, hc, hw⟩
  · rw [n32 (by omega)] at hs
    exact Or.inl ⟨rfl, hs, fun j hj => ⟨by rw [hv j (by omega), low_at _ _ _ hj], by
      have e : cs.getD j 0 = cs[j] := by simp [List.getD_eq_getElem?_getD, hj]
      show ¬ 255 < cs.getD j 0
      rw [e]; exact h _ (List.getElem_mem _)⟩⟩
  · rw [n32 (by omega)] at hs
    obtain ⟨j, hj, rfl⟩ := List.getElem_of_mem hc
    exact Or.inr ⟨rfl, hs, fun j hj => ⟨by rw [hv _ (by omega), wide_lo _ _ _ hj], by rw [hv _ (by omega), wide_hi _ _ _ hj]⟩, j, hj, by
      have e : cs.getD j 0 = cs[j] := by simp [List.getD_eq_getElem?_getD, hj]
      show 255 < cs.getD j 0
      rw [e]; exact hw⟩
/-- an object of exactly java/lang/String, its two fields found: as the laws ask it -/
theorem strObj {Z U : State} {a0 : Array Value} {kI : Nat} (wi : (Jvm.Cond.instantiable ST kI).before a0 Z = true) (al : Z.vm.Alike U.vm) {x : Addr} {v0 c0 : Value} (E : RoadKit.Exa Z U.heap x ST) (V : RoadKit.Fld Z U.heap x ST "value" "[B" v0) (C : RoadKit.Fld Z U.heap x ST "coder" "B" c0) :
    ∃ (D : Cell) (fV fC : Field), Blank ST x D U ∧ Found ST "value" "[B" fV U ∧ Found ST "coder" "B" fC U ∧ D.slots[fV.slot]? = some v0 ∧ D.slots[fC.slot]? = some c0 ∧ RoadKit.slotOf Z ST "value" "[B" = fV.slot ∧ RoadKit.slotOf Z ST "coder" "B" = fC.slot := by
  obtain ⟨D, cfV, kV, iV, fV, hD, gV, stV, knV, obV, asV, slV⟩ := V
  obtain ⟨D', cfC, kC, iC, fC, hD', gC, stC, -, -, asC, slC⟩ := C
  cases hD.symm.trans hD'
  obtain ⟨D2, kD, e1, e2, e3, e4, e5⟩ := E
  cases hD.symm.trans e1
  obtain ⟨c2, k2, i1, i2, i3, -⟩ := Cond.instantiable_spec wi
  cases e2.symm.trans i1
  cases e3.symm.trans i2
  obtain ⟨kU, u1, u2⟩ := al.2.2 _ _ e3
  exact ⟨D, fV, fC, ⟨hD, ⟨knV, fun q hq => by rw [hq] at obV; cases obV⟩, by rw [al.findClass]; exact e2, kU, u1, by rw [u2]; exact i3, by rw [u2]; exact e5 i3⟩, ⟨SBG.found_only al ⟨cfV, kV, iV, gV⟩, stV⟩, ⟨SBG.found_only al ⟨cfC, kC, iC, gC⟩, stC⟩, slV, slC, by simp [RoadKit.slotOf, gV], by simp [RoadKit.slotOf, gC]⟩
theorem sta_is {Z U : State} (al : Z.vm.Alike U.vm) {C n d : String} {v : Value} (S : RoadKit.Sta Z U.heap C n d v) : StaticIs U C n d v := by
  obtain ⟨cfS, iS, kS, fS, st, cS, t1, t2, t3, t4, t5, t6, t7⟩ := S
  exact StaticIs.there (s := { Z with heap := U.heap }) ⟨cfS, iS, kS, fS, st, cS, t1, t2, t3, t4, t5, (fun q => by rw [q] at t6; cases t6), t7⟩ al rfl
end StrChars.Road
namespace StrChars
open Jvm Sem ClassFile Op Lib Jvm.Stand Jvm.Free.XT Jvm.Free.ALB Jvm.Free.JM Jvm.Free
open Jvm.Lib.Cold (StaticIs)
/-- what place i of a byte[]'s cell holds -/
def yv (A : Cell) (i : Nat) : Int32 := match A.slots[i]? with | some (.int x) => x | _ => 0
theorem yv_get {a : Addr} {A : Cell} {U : State} (h : XT.Arr .byte a A U) (ht : Typed .byte A) {i : Nat} (hi : i < A.slots.size) : A.slots[i]? = some (.int (yv A i)) := by
  have e := Array.getElem?_eq_getElem hi
  have f := ht i _ e
  unfold yv; rw [e]
  generalize A.slots[i] = v at f
  cases v <;> simp [fits] at f ⊢
/-- the two arrays are equal, place for place -/
def EqC (A B : Cell) : Prop := A.slots.size = B.slots.size ∧ ∀ i, i < A.slots.size → yv A i = yv B i
/-- a boolean that says whether p -/
def Says01 (q : Prop) (r : Option Value) (s u : State) : Prop := ∃ v : Int32, r = some (.int v) ∧ u.heap = s.heap ∧ ((v = 1 ∧ q) ∨ (v = 0 ∧ ¬ q))
theorem Says01.mv {q : Prop} : ∀ r (U U' V V' : State), U'.heap = U.heap → V.vm.Alike V'.vm → V'.heap = V.heap → Says01 q r U V → Says01 q r U' V' :=
  fun r U U' V V' h1 _ h2 ⟨v, a, b, c⟩ => ⟨v, a, by rw [h1, h2]; exact b, c⟩
namespace LEq
def yN : MethodName := ⟨"java/lang/StringLatin1", "equals", "([B[B)Z"⟩
abbrev yB : ByteArray := jdk_43_method_13_code
theorem d0 : decode yB 0 = .ok (.aload_n 0, 1) := by decide +kernel
theorem d1 : decode yB 1 = .ok (.arraylength, 1) := by decide +kernel
theorem d2 : decode yB 2 = .ok (.aload_n 1, 1) := by decide +kernel
theorem d3 : decode yB 3 = .ok (.arraylength, 1) := by decide +kernel
theorem d4 : decode yB 4 = .ok (.if_icmp (.ne) 30, 3) := by decide +kernel
theorem d7 : decode yB 7 = .ok (.iconst 0, 1) := by decide +kernel
theorem d8 : decode yB 8 = .ok (.istore_n 2, 1) := by decide +kernel
theorem d9 : decode yB 9 = .ok (.iload_n 2, 1) := by decide +kernel
theorem d10 : decode yB 10 = .ok (.aload_n 0, 1) := by decide +kernel
theorem d11 : decode yB 11 = .ok (.arraylength, 1) := by decide +kernel
theorem d12 : decode yB 12 = .ok (.if_icmp (.ge) 20, 3) := by decide +kernel
theorem d15 : decode yB 15 = .ok (.aload_n 0, 1) := by decide +kernel
theorem d16 : decode yB 16 = .ok (.iload_n 2, 1) := by decide +kernel
theorem d17 : decode yB 17 = .ok (.baload, 1) := by decide +kernel
theorem d18 : decode yB 18 = .ok (.aload_n 1, 1) := by decide +kernel
theorem d19 : decode yB 19 = .ok (.iload_n 2, 1) := by decide +kernel
theorem d20 : decode yB 20 = .ok (.baload, 1) := by decide +kernel
theorem d21 : decode yB 21 = .ok (.if_icmp (.eq) 5, 3) := by decide +kernel
theorem d24 : decode yB 24 = .ok (.iconst 0, 1) := by decide +kernel
theorem d25 : decode yB 25 = .ok (.ireturn, 1) := by decide +kernel
theorem d26 : decode yB 26 = .ok (.iinc 2 1, 3) := by decide +kernel
theorem d29 : decode yB 29 = .ok (.goto (-20), 3) := by decide +kernel
theorem d32 : decode yB 32 = .ok (.iconst 1, 1) := by decide +kernel
theorem d33 : decode yB 33 = .ok (.ireturn, 1) := by decide +kernel
theorem d34 : decode yB 34 = .ok (.iconst 0, 1) := by decide +kernel
theorem d35 : decode yB 35 = .ok (.ireturn, 1) := by decide +kernel
def site : List Cond := []
def tab : Cond := tabOf yN yB 3 (some .boolean) site
def P (a : Addr) (A : Cell) (b : Addr) (B : Cell) (args : Array Value) (s : State) : Prop := args = #[.ref a, .ref b] ∧ XT.Arr .byte a A s ∧ Typed .byte A ∧ XT.Arr .byte b B s ∧ Typed .byte B
/-- whether two byte[] are equal, place for place -/
theorem law (l : Launch) (a : Addr) (A : Cell) (b : Addr) (B : Cell) : Law l yN 2 2 0 0 yB 3 (some .boolean) site (P a A b B) (Says01 (EqC A B)) [] 0 0 := by
  refine Law.of_walk (plainFor_of_name (by decide +kernel)) (by decide +kernel) (by decide +kernel) (by decide) (fun _ _ h => by rw [h.1]; rfl) (fun _ U U' hal hh h => ⟨h.1, h.2.1.mv hal hh, h.2.2.1, h.2.2.2.1.mv hal hh, h.2.2.2.2⟩) (fun r U U' V V' h1 hal h2 h => Says01.mv r U U' V V' h1 hal h2 h) ?_
  intro p e s m args below meth c s₁ X0 hexec hbytes hml hret hlk hnm hown hh0 W hP
  obtain ⟨rfl, hA, tA, hB, tB⟩ := hP
  have a31 := hA.2.2.2
  have b31 := hB.2.2.2
  have hA0 := hA.mv X0.warmed.alike hh0
  have hB0 := hB.mv X0.warmed.alike hh0
  have c1 : Steps p.tables e below (s₁.setTop (entryFrame m #[.ref a, .ref b] 3)) (s₁.setTop (mkF m 0 #[.val (.ref a), .val (.ref b), .unset] [])) := entry rfl
  have c2 : Steps p.tables e below (s₁.setTop (entryFrame m #[.ref a, .ref b] 3)) (s₁.setTop (mkF m 4 #[.val (.ref a), .val (.ref b), .unset] [.int (Int32.ofNat B.slots.size), .int (Int32.ofNat A.slots.size)])) := c1.trans (by
    refine XS.aloadN X0.here hexec rfl (hb hbytes d0) rfl rfl ?_
    refine X0.alen hexec hA0 rfl rfl (hb hbytes d1) ?_
    refine XS.aloadN X0.here hexec rfl (hb hbytes d2) rfl rfl ?_
    refine X0.alen hexec hB0 rfl rfl (hb hbytes d3) ?_
    exact Steps.refl _)
  by_cases hs : A.slots.size = B.slots.size
  · have c3 : Steps p.tables e below (s₁.setTop (entryFrame m #[.ref a, .ref b] 3)) (s₁.setTop (mkF m 9 #[.val (.ref a), .val (.ref b), .val (.int 0)] [])) := c2.trans (by
      refine XS.icmpNo X0.here hexec rfl (hb hbytes d4) rfl (ii_ne_f (by rw [hs])) ?_
      refine iconstV X0.here hexec rfl 0 (hb hbytes d7) (by decide) ?_
      refine XS.istoreN X0.here hexec rfl (hb hbytes d8) rfl rfl ?_
      exact Steps.refl _)
    have loop : ∀ (r i : Nat), i + r = A.slots.size → (∀ j, j < i → yv A j = yv B j) → Steps p.tables e below (s₁.setTop (entryFrame m #[.ref a, .ref b] 3)) (s₁.setTop (mkF m 9 #[.val (.ref a), .val (.ref b), .val (.int (Int32.ofNat i))] [])) → ∃ (pc : Nat) (Ls : Array Slot) (v : Int32), (pc = 25 ∨ pc = 33) ∧ ((v = 1 ∧ EqC A B) ∨ (v = 0 ∧ ¬ EqC A B)) ∧ Steps p.tables e below (s₁.setTop (entryFrame m #[.ref a, .ref b] 3)) (s₁.setTop (mkF m pc Ls [.int v])) := by
      intro r
      induction r with
      | zero =>
        intro i hi he cl
        exact ⟨33, _, 1, Or.inr rfl, Or.inl ⟨rfl, hs, fun j hj => he j (by omega)⟩, cl.trans (by
          refine XS.iloadN X0.here hexec rfl (hb hbytes d9) rfl ?_
          refine XS.aloadN X0.here hexec rfl (hb hbytes d10) rfl rfl ?_
          refine X0.alen hexec hA0 rfl rfl (hb hbytes d11) ?_
          refine XS.icmpYes X0.here hexec rfl (pc0 := 12) rfl (hb hbytes d12) rfl (ii_ge_t (nlt32 (by omega) (by omega))) (by decide) rfl ?_
          refine iconstV X0.here hexec rfl 1 (hb hbytes d32) (by decide) ?_
          exact Steps.refl _)⟩
      | succ r ih =>
        intro i hi he cl
        have c4 : Steps p.tables e below (s₁.setTop (entryFrame m #[.ref a, .ref b] 3)) (s₁.setTop (mkF m 21 #[.val (.ref a), .val (.ref b), .val (.int (Int32.ofNat i))] [.int (yv B i), .int (yv A i)])) := cl.trans (by
          refine XS.iloadN X0.here hexec rfl (hb hbytes d9) rfl ?_
          refine XS.aloadN X0.here hexec rfl (hb hbytes d10) rfl rfl ?_
          refine X0.alen hexec hA0 rfl rfl (hb hbytes d11) ?_
          refine XS.icmpNo X0.here hexec rfl (hb hbytes d12) rfl (ii_ge_f (lt32 (by omega) (by omega))) ?_
          refine XS.aloadN X0.here hexec rfl (hb hbytes d15) rfl rfl ?_
          refine XS.iloadN X0.here hexec rfl (hb hbytes d16) rfl ?_
          refine X0.aget hexec hA0 rfl (yv_get hA tA (i := i) (by omega)) rfl rfl (hb hbytes d17) ?_
          refine XS.aloadN X0.here hexec rfl (hb hbytes d18) rfl rfl ?_
          refine XS.iloadN X0.here hexec rfl (hb hbytes d19) rfl ?_
          refine X0.aget hexec hB0 rfl (yv_get hB tB (i := i) (by omega)) rfl rfl (hb hbytes d20) ?_
          exact Steps.refl _)
        by_cases hv : yv A i = yv B i
        · have c5 : Steps p.tables e below (s₁.setTop (entryFrame m #[.ref a, .ref b] 3)) (s₁.setTop (mkF m 9 #[.val (.ref a), .val (.ref b), .val (.int (Int32.ofNat i + 1))] [])) := c4.trans (by
            refine XS.icmpYes X0.here hexec rfl (pc0 := 21) rfl (hb hbytes d21) rfl (ii_eq_t hv) (by decide) rfl ?_
            refine iincV X0.here hexec rfl 1 (hb hbytes d26) (by decide) rfl rfl ?_
            refine XS.goto X0.here hexec rfl (pc0 := 29) rfl (hb hbytes d29) (by decide) rfl ?_
            exact Steps.refl _)
          rw [succ32] at c5
          exact ih (i + 1) (by omega) (fun j hj => by
            by_cases e : j = i
            · rw [e]; exact hv
            · exact he j (by omega)) c5
        · exact ⟨25, _, 0, Or.inl rfl, Or.inr ⟨rfl, fun q => hv (q.2 i (by omega))⟩, c4.trans (by
            refine XS.icmpNo X0.here hexec rfl (hb hbytes d21) rfl (ii_eq_f hv) ?_
            refine iconstV X0.here hexec rfl 0 (hb hbytes d24) (by decide) ?_
            exact Steps.refl _)⟩
    obtain ⟨pc, Ls, v, hpc, hv, cz⟩ := loop A.slots.size 0 (by omega) (fun j hj => absurd hj (Nat.not_lt_zero j)) c3
    have nv : narrow .boolean (.int v) = .int v := by rcases hv with ⟨rfl, -⟩ | ⟨rfl, -⟩ <;> rfl
    rcases hpc with rfl | rfl
    · exact ⟨s₁, some (.int v), _, _, _, X0, rfl, rfl, rfl, (fun h => by cases h), ⟨v, rfl, hh0, hv⟩, fun fs hl => cz.trans (X0.ireturnOut hexec hret nv (Or.inr (Or.inl rfl)) (hb hbytes d25) hl)⟩
    · exact ⟨s₁, some (.int v), _, _, _, X0, rfl, rfl, rfl, (fun h => by cases h), ⟨v, rfl, hh0, hv⟩, fun fs hl => cz.trans (X0.ireturnOut hexec hret nv (Or.inr (Or.inl rfl)) (hb hbytes d33) hl)⟩
  · have c3 : Steps p.tables e below (s₁.setTop (entryFrame m #[.ref a, .ref b] 3)) (s₁.setTop (mkF m 35 #[.val (.ref a), .val (.ref b), .unset] [.int 0])) := c2.trans (by
      refine XS.icmpYes X0.here hexec rfl (pc0 := 4) rfl (hb hbytes d4) rfl (ii_ne_t (ne32 a31 b31 hs)) (by decide) rfl ?_
      refine iconstV X0.here hexec rfl 0 (hb hbytes d34) (by decide) ?_
      exact Steps.refl _)
    exact ⟨s₁, some (.int 0), _, _, _, X0, rfl, rfl, rfl, (fun h => by cases h), ⟨0, rfl, hh0, Or.inr ⟨rfl, fun q => hs q.1⟩⟩, fun fs hl => c3.trans (X0.ireturnOut hexec hret rfl (Or.inr (Or.inl rfl)) (hb hbytes d35) hl)⟩
end LEq
theorem Cod.ty {cd : Int32} {n : Nat} {f : Nat → Int32} {V : Cell} (h : Cod cd n f V) : Typed .byte V := fun i v hv => by
  have hi : i < V.slots.size := (Array.getElem?_eq_some_iff.mp hv).1
  rcases h with ⟨-, k1, k2⟩ | ⟨-, k1, k2, -⟩
  · rw [(k2 i (by omega)).1] at hv; cases hv; exact fits_lo8 _
  · rcases Nat.mod_two_eq_zero_or_one i with e | e
    · obtain ⟨j, rfl⟩ : ∃ j, i = 2 * j := ⟨i / 2, by omega⟩
      rw [(k2 j (by omega)).1] at hv; cases hv; exact fits_lo8 _
    · obtain ⟨j, rfl⟩ : ∃ j, i = 2 * j + 1 := ⟨i / 2, by omega⟩
      rw [(k2 j (by omega)).2] at hv; cases hv; exact fits_lo8 _
/-- the same text -/
def SameT (n : Nat) (f : Nat → Int32) (k : Nat) (g : Nat → Int32) : Prop := n = k ∧ ∀ j, j < n → f j = g j
theorem lo8_inj {x y : Int32} (h0 : ¬ x < 0) (h1 : ¬ 255 < x) (k0 : ¬ y < 0) (k1 : ¬ 255 < y) (h : lo8 x = lo8 y) : x = y := by
  rw [← lo8_mask h0 h1, ← lo8_mask k0 k1, h]
/-- arrays coded by one coder are equal just where the texts are -/
theorem Cod.eqv {cd : Int32} {n k : Nat} {f g : Nat → Int32} {V V' : Cell} (h : Cod cd n f V) (h' : Cod cd k g V') (hf : ∀ j, j < n → ¬ f j < 0 ∧ ¬ 65535 < f j) (hg : ∀ j, j < k → ¬ g j < 0 ∧ ¬ 65535 < g j) : EqC V V' ↔ SameT n f k g := by
  have yvv : ∀ {W : Cell} {i : Nat} {x : Int32}, W.slots[i]? = some (.int x) → yv W i = x := fun q => by unfold yv; rw [q]
  rcases h with ⟨rfl, k1, k2⟩ | ⟨rfl, k1, k2, -⟩
  · rcases h' with ⟨-, m1, m2⟩ | ⟨e, -⟩
    · constructor
      · rintro ⟨e1, e2⟩
        refine ⟨by omega, fun j hj => ?_⟩
        have q := e2 j (by omega)
        rw [yvv (k2 j hj).1, yvv (m2 j (by omega)).1] at q
        exact lo8_inj (hf j hj).1 (k2 j hj).2 (hg j (by omega)).1 (m2 j (by omega)).2 q
      · rintro ⟨rfl, e2⟩
        refine ⟨by omega, fun j hj => ?_⟩
        rw [yvv (k2 j (by omega)).1, yvv (m2 j (by omega)).1, e2 j (by omega)]
    · exact absurd e (by decide)
  · rcases h' with ⟨e, -⟩ | ⟨-, m1, m2, -⟩
    · exact absurd e (by decide)
    · constructor
      · rintro ⟨e1, e2⟩
        refine ⟨by omega, fun j hj => ?_⟩
        have q1 := e2 (2 * j) (by omega)
        have q2 := e2 (2 * j + 1) (by omega)
        rw [yvv (k2 j hj).1, yvv (m2 j (by omega)).1] at q1
        rw [yvv (k2 j hj).2, yvv (m2 j (by omega)).2] at q2
        rw [← pair_says (hf j hj).1 (hf j hj).2, ← pair_says (hg j (by omega)).1 (hg j (by omega)).2, q1, q2]
      · rintro ⟨rfl, e2⟩
        refine ⟨by omega, fun i hi => ?_⟩
        rcases Nat.mod_two_eq_zero_or_one i with e | e
        · obtain ⟨j, rfl⟩ : ∃ j, i = 2 * j := ⟨i / 2, by omega⟩
          rw [yvv (k2 j (by omega)).1, yvv (m2 j (by omega)).1, e2 j (by omega)]
        · obtain ⟨j, rfl⟩ : ∃ j, i = 2 * j + 1 := ⟨i / 2, by omega⟩
          rw [yvv (k2 j (by omega)).2, yvv (m2 j (by omega)).2, e2 j (by omega)]
/-- two codings differ: so do the texts -/
theorem Cod.dif {cd cd' : Int32} {n k : Nat} {f g : Nat → Int32} {V V' : Cell} (h : Cod cd n f V) (h' : Cod cd' k g V') (hne : ¬ cd = cd') : ¬ SameT n f k g := by
  rintro ⟨rfl, e⟩
  rcases h with ⟨rfl, -, k2⟩ | ⟨rfl, -, -, j, hj, hw⟩
  · rcases h' with ⟨rfl, -⟩ | ⟨-, -, -, j, hj, hw⟩
    · exact hne rfl
    · exact (k2 j hj).2 (by rw [e j hj]; exact hw)
  · rcases h' with ⟨-, -, m2⟩ | ⟨rfl, -⟩
    · exact (m2 j hj).2 (by rw [← e j hj]; exact hw)
    · exact hne rfl
/-- an object of exactly C is an instance of C -/
theorem cinst {p : Program} {l : Launch} {e : Env} {R : Room} {s : State} {m : MethodId} {args : Array Value} {below : List Frame} {meth : Method} {c : Code} {T : State} {locs : List Loc} {cells slots : Nat} (X : Stand p l e R s m args below meth c T locs cells slots) (hexec : p.tables.exec = Jvm.exec) {own C : String} {index : Nat} (hown : s.vm.findClass own = some m.cls) (hlink : (Cond.classLink own index C).before args s = true) {a : Addr} (hE : Exact C a T)
    {g : JFrame} (hg : g.method = m) {rest : List Value} (hstack : g.stack = .ref a :: rest) (hdg : decode c.code g.pc = .ok (.instanceof index, 3)) :
    ∃ T', Stand p l e R s m args below meth c T' locs cells slots ∧ T'.heap = T.heap ∧ ∀ target, Steps p.tables e below (T'.setTop { g with pc := g.pc + 3, stack := .int 1 :: rest }) target → Steps p.tables e below (T.setTop g) target := by
  obtain ⟨cB, h1, D, h2, h3, h4⟩ := hE
  have h1' : s.vm.findClass C = some cB := by rw [← X.warmed.alike.findClass]; exact h1
  obtain ⟨vm', X', st⟩ := X.instanceofYes hexec hown hlink h2 h4 h1' (by rw [h3]; exact Jvm.Free.SB.assignable_self _ _) hg hstack hdg
  exact ⟨_, X', rfl, st⟩
theorem cself {p : Program} {l : Launch} {e : Env} {R : Room} {s : State} {m : MethodId} {args : Array Value} {below : List Frame} {meth : Method} {c : Code} {T : State} {locs : List Loc} {cells slots : Nat} (X : Stand p l e R s m args below meth c T locs cells slots) (hexec : p.tables.exec = Jvm.exec) {own C : String} {index : Nat} (hown : s.vm.findClass own = some m.cls) (hlink : (Cond.classLink own index C).before args s = true) {a : Addr} (hE : Exact C a T)
    {g : JFrame} (hg : g.method = m) {rest : List Value} (hstack : g.stack = .ref a :: rest) (hdg : decode c.code g.pc = .ok (.checkcast index, 3)) :
    ∃ T', Stand p l e R s m args below meth c T' locs cells slots ∧ T'.heap = T.heap ∧ ∀ target, Steps p.tables e below (T'.setTop { g with pc := g.pc + 3, stack := .ref a :: rest }) target → Steps p.tables e below (T.setTop g) target := by
  obtain ⟨cB, h1, D, h2, h3, h4⟩ := hE
  have h1' : s.vm.findClass C = some cB := by rw [← X.warmed.alike.findClass]; exact h1
  obtain ⟨vm', X', st⟩ := X.checkcastYes hexec hown hlink h2 h4 h1' (by rw [h3]; exact Jvm.Free.SB.assignable_self _ _) hg hstack hdg
  exact ⟨_, X', rfl, fun t h => st t (by rw [← hstack] at h; exact h)⟩
namespace SEq
def yN : MethodName := ⟨"java/lang/String", "equals", "(Ljava/lang/Object;)Z"⟩
abbrev yB : ByteArray := jdk_42_method_66_code
theorem d0 : decode yB 0 = .ok (.aload_n 0, 1) := by decide +kernel
theorem d1 : decode yB 1 = .ok (.aload_n 1, 1) := by decide +kernel
theorem d2 : decode yB 2 = .ok (.if_acmp (.ne) 5, 3) := by decide +kernel
theorem d5 : decode yB 5 = .ok (.iconst 1, 1) := by decide +kernel
theorem d6 : decode yB 6 = .ok (.ireturn, 1) := by decide +kernel
theorem d7 : decode yB 7 = .ok (.aload_n 1, 1) := by decide +kernel
theorem d8 : decode yB 8 = .ok (.instanceof 10, 3) := by decide +kernel
theorem d11 : decode yB 11 = .ok (.ifCond (.eq) 43, 3) := by decide +kernel
theorem d14 : decode yB 14 = .ok (.aload_n 1, 1) := by decide +kernel
theorem d15 : decode yB 15 = .ok (.checkcast 10, 3) := by decide +kernel
theorem d18 : decode yB 18 = .ok (.astore_n 2, 1) := by decide +kernel
theorem d19 : decode yB 19 = .ok (.getstatic 38, 3) := by decide +kernel
theorem d22 : decode yB 22 = .ok (.ifCond (.eq) 14, 3) := by decide +kernel
theorem d25 : decode yB 25 = .ok (.aload_n 0, 1) := by decide +kernel
theorem d26 : decode yB 26 = .ok (.getfield 15, 3) := by decide +kernel
theorem d29 : decode yB 29 = .ok (.aload_n 2, 1) := by decide +kernel
theorem d30 : decode yB 30 = .ok (.getfield 15, 3) := by decide +kernel
theorem d33 : decode yB 33 = .ok (.if_icmp (.ne) 21, 3) := by decide +kernel
theorem d36 : decode yB 36 = .ok (.aload_n 0, 1) := by decide +kernel
theorem d37 : decode yB 37 = .ok (.getfield 9, 3) := by decide +kernel
theorem d40 : decode yB 40 = .ok (.aload_n 2, 1) := by decide +kernel
theorem d41 : decode yB 41 = .ok (.getfield 9, 3) := by decide +kernel
theorem d44 : decode yB 44 = .ok (.invokestatic 541, 3) := by decide +kernel
theorem d47 : decode yB 47 = .ok (.ifCond (.eq) 7, 3) := by decide +kernel
theorem d50 : decode yB 50 = .ok (.iconst 1, 1) := by decide +kernel
theorem d51 : decode yB 51 = .ok (.goto 4, 3) := by decide +kernel
theorem d54 : decode yB 54 = .ok (.iconst 0, 1) := by decide +kernel
theorem d55 : decode yB 55 = .ok (.ireturn, 1) := by decide +kernel
def site : List Cond := [.classLink "java/lang/String" 10 "java/lang/String", .fieldLink "java/lang/String" 38 "java/lang/String" "COMPACT_STRINGS" "Z", .fieldLink "java/lang/String" 15 "java/lang/String" "coder" "B", .fieldLink "java/lang/String" 9 "java/lang/String" "value" "[B", LEq.tab] ++ staticW "java/lang/String" 541 LEq.yN
def tab : Cond := tabOf yN yB 3 (some .boolean) site
def P (x t : Addr) (V : Cell) (cd : Int32) (n : Nat) (f : Nat → Int32) (y t' : Addr) (V' : Cell) (cd' : Int32) (k : Nat) (g : Nat → Int32) (z : Int32) (args : Array Value) (s : State) : Prop := args = #[.ref x, .ref y] ∧ Txt x t V cd n f s ∧ Txt y t' V' cd' k g s ∧ StaticIs s "java/lang/String" "COMPACT_STRINGS" "Z" (.int z) ∧ ¬ z = 0
/-- equals(Object) of two Strings: whether the texts are the same -/
theorem law (l : Launch) (x t : Addr) (V : Cell) (cd : Int32) (n : Nat) (f : Nat → Int32) (y t' : Addr) (V' : Cell) (cd' : Int32) (k : Nat) (g : Nat → Int32) (z : Int32) : Law l yN 2 1 1 14 yB 3 (some .boolean) site (P x t V cd n f y t' V' cd' k g z) (Says01 (SameT n f k g)) [] 0 0 := by
  refine Law.of_walk (plainFor_of_name (by decide +kernel)) (by decide +kernel) (by decide +kernel) (by decide) (fun _ _ h => by rw [h.1]; rfl) (fun _ U U' hal hh h => ⟨h.1, h.2.1.mv hal hh, h.2.2.1.mv hal hh, h.2.2.2.1.there hal hh, h.2.2.2.2⟩) (fun r U U' V V' h1 hal h2 h => Says01.mv r U U' V V' h1 hal h2 h) ?_
  intro p e s m args below meth c s₁ X0 hexec hbytes hml hret hlk hnm hown hh0 W hP
  obtain ⟨rfl, hx, hy, s1, hz⟩ := hP
  have c1 : Steps p.tables e below (s₁.setTop (entryFrame m #[.ref x, .ref y] 3)) (s₁.setTop (mkF m 2 #[.val (.ref x), .val (.ref y), .unset] [.ref y, .ref x])) := Steps.trans (entry rfl) (by
    show Steps p.tables e below (s₁.setTop (mkF m 0 #[.val (.ref x), .val (.ref y), .unset] [])) _
    refine XS.aloadN X0.here hexec rfl (hb hbytes d0) rfl rfl ?_
    refine XS.aloadN X0.here hexec rfl (hb hbytes d1) rfl rfl ?_
    exact Steps.refl _)
  by_cases hxy : x = y
  · have c2 : Steps p.tables e below (s₁.setTop (entryFrame m #[.ref x, .ref y] 3)) (s₁.setTop (mkF m 6 #[.val (.ref x), .val (.ref y), .unset] [.int 1])) := c1.trans (by
      refine acmpNo X0.here hexec rfl (hb hbytes d2) rfl rfl rfl (by simp [acmp, hxy]) ?_
      refine iconstV X0.here hexec rfl 1 (hb hbytes d5) (by decide) ?_
      exact Steps.refl _)
    subst hxy
    have ec : cd = cd' := by
      obtain ⟨D, fd, a1, a2, a3⟩ := hx.2.2.1
      obtain ⟨D', fd', b1, b2, b3⟩ := hy.2.2.1
      cases a1.symm.trans b1
      obtain ⟨q1, q2, q3, q4⟩ := a2.1
      obtain ⟨r1, r2, r3, r4⟩ := b2.1
      cases q4.symm.trans r4
      cases a3.symm.trans b3; rfl
    have et : t = t' := by
      obtain ⟨D, fd, a1, a2, a3⟩ := hx.2.1
      obtain ⟨D', fd', b1, b2, b3⟩ := hy.2.1
      cases a1.symm.trans b1
      obtain ⟨q1, q2, q3, q4⟩ := a2.1
      obtain ⟨r1, r2, r3, r4⟩ := b2.1
      cases q4.symm.trans r4
      cases a3.symm.trans b3; rfl
    subst ec et
    have ev : V = V' := by cases hx.2.2.2.1.1.symm.trans hy.2.2.2.1.1; rfl
    subst ev
    have hs : SameT n f k g := (Cod.eqv hx.2.2.2.2.1 hy.2.2.2.2.1 hx.2.2.2.2.2 hy.2.2.2.2.2).mp ⟨rfl, fun _ _ => rfl⟩
    exact ⟨s₁, some (.int 1), _, _, _, X0, rfl, rfl, rfl, (fun h => by cases h), ⟨1, rfl, hh0, Or.inl ⟨rfl, hs⟩⟩, fun fs hl => c2.trans (X0.ireturnOut hexec hret rfl (Or.inr (Or.inl rfl)) (hb hbytes d6) hl)⟩
  · have c2 : Steps p.tables e below (s₁.setTop (entryFrame m #[.ref x, .ref y] 3)) (s₁.setTop (mkF m 8 #[.val (.ref x), .val (.ref y), .unset] [.ref y])) := c1.trans (by
      refine acmpYes X0.here hexec rfl (pc0 := 2) rfl (hb hbytes d2) rfl rfl rfl (by simp [acmp, hxy]) (by decide) rfl ?_
      refine XS.aloadN X0.here hexec rfl (hb hbytes d7) rfl rfl ?_
      exact Steps.refl _)
    obtain ⟨T3, X3, q3, st3⟩ := cinst X0 hexec hown (wk W (.classLink "java/lang/String" 10 "java/lang/String")) (hy.mv X0.warmed.alike hh0).1 (g := (mkF m 8 #[.val (.ref x), .val (.ref y), .unset] [.ref y])) rfl (rest := []) rfl (hb hbytes d8)
    have hh3 := q3.trans hh0
    have c4 : Steps p.tables e below (s₁.setTop (entryFrame m #[.ref x, .ref y] 3)) (T3.setTop (mkF m 15 #[.val (.ref x), .val (.ref y), .unset] [.ref y])) := (c2.trans (st3 _ (Steps.refl _))).trans (by
      refine XS.ifNo X3.here hexec rfl (hb hbytes d11) rfl (i0_eq_f (by decide)) ?_
      refine XS.aloadN X3.here hexec rfl (hb hbytes d14) rfl rfl ?_
      exact Steps.refl _)
    obtain ⟨T5, X5, q5, st5⟩ := cself X3 hexec hown (wk W (.classLink "java/lang/String" 10 "java/lang/String")) (hy.mv X3.warmed.alike hh3).1 (g := (mkF m 15 #[.val (.ref x), .val (.ref y), .unset] [.ref y])) rfl (rest := []) rfl (hb hbytes d15)
    have hh5 := q5.trans hh3
    have c6 : Steps p.tables e below (s₁.setTop (entryFrame m #[.ref x, .ref y] 3)) (T5.setTop (mkF m 19 #[.val (.ref x), .val (.ref y), .val (.ref y)] [])) := (c4.trans (st5 _ (Steps.refl _))).trans (by
      refine XS.astoreN X5.here hexec rfl (hb hbytes d18) rfl rfl rfl ?_
      exact Steps.refl _)
    obtain ⟨T7, X7, q7, st7⟩ := X5.sget hexec hown (wk W (.fieldLink "java/lang/String" 38 "java/lang/String" "COMPACT_STRINGS" "Z")) s1 (fun _ _ h => by rw [hh5]; exact h) (g := (mkF m 19 #[.val (.ref x), .val (.ref y), .val (.ref y)] [])) rfl (hb hbytes d19)
    have hh7 := q7.trans hh5
    have c8 : Steps p.tables e below (s₁.setTop (entryFrame m #[.ref x, .ref y] 3)) (T7.setTop (mkF m 26 #[.val (.ref x), .val (.ref y), .val (.ref y)] [.ref x])) := (c6.trans (st7 _ (Steps.refl _))).trans (by
      refine XS.ifNo X7.here hexec rfl (hb hbytes d22) rfl (i0_eq_f hz) ?_
      refine XS.aloadN X7.here hexec rfl (hb hbytes d25) rfl rfl ?_
      exact Steps.refl _)
    obtain ⟨T9, X9, q9, st9⟩ := X7.hget hexec hown (wk W (.fieldLink "java/lang/String" 15 "java/lang/String" "coder" "B")) (hx.mv X7.warmed.alike hh7).2.2.1 (g := (mkF m 26 #[.val (.ref x), .val (.ref y), .val (.ref y)] [.ref x])) rfl (rest := []) rfl (hb hbytes d26)
    have hh9 := q9.trans hh7
    have c10 : Steps p.tables e below (s₁.setTop (entryFrame m #[.ref x, .ref y] 3)) (T9.setTop (mkF m 30 #[.val (.ref x), .val (.ref y), .val (.ref y)] [.ref y, .int cd])) := (c8.trans (st9 _ (Steps.refl _))).trans (by
      refine XS.aloadN X9.here hexec rfl (hb hbytes d29) rfl rfl ?_
      exact Steps.refl _)
    obtain ⟨T11, X11, q11, st11⟩ := X9.hget hexec hown (wk W (.fieldLink "java/lang/String" 15 "java/lang/String" "coder" "B")) (hy.mv X9.warmed.alike hh9).2.2.1 (g := (mkF m 30 #[.val (.ref x), .val (.ref y), .val (.ref y)] [.ref y, .int cd])) rfl (rest := [.int cd]) rfl (hb hbytes d30)
    have hh11 := q11.trans hh9
    have c12 : Steps p.tables e below (s₁.setTop (entryFrame m #[.ref x, .ref y] 3)) (T11.setTop (mkF m 33 #[.val (.ref x), .val (.ref y), .val (.ref y)] [.int cd', .int cd])) := c10.trans (st11 _ (Steps.refl _))
    by_cases hcd : cd = cd'
    · subst hcd
      have c13 : Steps p.tables e below (s₁.setTop (entryFrame m #[.ref x, .ref y] 3)) (T11.setTop (mkF m 37 #[.val (.ref x), .val (.ref y), .val (.ref y)] [.ref x])) := c12.trans (by
        refine XS.icmpNo X11.here hexec rfl (hb hbytes d33) rfl (ii_ne_f rfl) ?_
        refine XS.aloadN X11.here hexec rfl (hb hbytes d36) rfl rfl ?_
        exact Steps.refl _)
      obtain ⟨T14, X14, q14, st14⟩ := X11.hget hexec hown (wk W (.fieldLink "java/lang/String" 9 "java/lang/String" "value" "[B")) (hx.mv X11.warmed.alike hh11).2.1 (g := (mkF m 37 #[.val (.ref x), .val (.ref y), .val (.ref y)] [.ref x])) rfl (rest := []) rfl (hb hbytes d37)
      have hh14 := q14.trans hh11
      have c15 : Steps p.tables e below (s₁.setTop (entryFrame m #[.ref x, .ref y] 3)) (T14.setTop (mkF m 41 #[.val (.ref x), .val (.ref y), .val (.ref y)] [.ref y, .ref t])) := (c13.trans (st14 _ (Steps.refl _))).trans (by
        refine XS.aloadN X14.here hexec rfl (hb hbytes d40) rfl rfl ?_
        exact Steps.refl _)
      obtain ⟨T16, X16, q16, st16⟩ := X14.hget hexec hown (wk W (.fieldLink "java/lang/String" 9 "java/lang/String" "value" "[B")) (hy.mv X14.warmed.alike hh14).2.1 (g := (mkF m 41 #[.val (.ref x), .val (.ref y), .val (.ref y)] [.ref y, .ref t])) rfl (rest := [.ref t]) rfl (hb hbytes d41)
      have hh16 := q16.trans hh14
      have c17 : Steps p.tables e below (s₁.setTop (entryFrame m #[.ref x, .ref y] 3)) (T16.setTop (mkF m 44 #[.val (.ref x), .val (.ref y), .val (.ref y)] [.ref t', .ref t])) := c15.trans (st16 _ (Steps.refl _))
      obtain ⟨v18, T18, X18, E18, g18⟩ := X16.callS hexec (LEq.law l t V t' V') hown (wks W (staticW "java/lang/String" 541 LEq.yN)) (wk W LEq.tab) (W := 0) (Nat.le_of_ble_eq_true rfl) (Nat.le_of_ble_eq_true rfl) (Nat.le_refl _) (Nat.le_refl _) (g := (mkF m 44 #[.val (.ref x), .val (.ref y), .val (.ref y)] [.ref t', .ref t])) rfl (by rw [hml]; rfl) c17 (argsL := [.ref t, .ref t']) (rest := []) rfl rfl (by show 2 * 0 + 0 ≤ _; decide) (hb hbytes d44) (⟨rfl, hx.2.2.2.1.mv X16.warmed.alike hh16, hx.2.2.2.2.1.ty, hy.2.2.2.1.mv X16.warmed.alike hh16, hy.2.2.2.2.1.ty⟩)
      obtain ⟨v, rfl, q18, hv⟩ := E18
      have iff := Cod.eqv hx.2.2.2.2.1 hy.2.2.2.2.1 hx.2.2.2.2.2 hy.2.2.2.2.2
      rcases hv with ⟨rfl, he⟩ | ⟨rfl, he⟩
      · have c19 : Steps p.tables e below (s₁.setTop (entryFrame m #[.ref x, .ref y] 3)) (T18.setTop (mkF m 55 #[.val (.ref x), .val (.ref y), .val (.ref y)] [.int 1])) := Steps.trans g18 (by
          refine XS.ifNo X18.here hexec rfl (hb hbytes d47) rfl (i0_eq_f (by decide)) ?_
          refine iconstV X18.here hexec rfl 1 (hb hbytes d50) (by decide) ?_
          refine XS.goto X18.here hexec rfl (pc0 := 51) rfl (hb hbytes d51) (by decide) rfl ?_
          exact Steps.refl _)
        exact ⟨T18, some (.int 1), _, _, _, X18, rfl, rfl, rfl, (fun h => by cases h), ⟨1, rfl, q18.trans hh16, Or.inl ⟨rfl, iff.mp he⟩⟩, fun fs hl => c19.trans (X18.ireturnOut hexec hret rfl (Or.inr (Or.inl rfl)) (hb hbytes d55) hl)⟩
      · have c19 : Steps p.tables e below (s₁.setTop (entryFrame m #[.ref x, .ref y] 3)) (T18.setTop (mkF m 55 #[.val (.ref x), .val (.ref y), .val (.ref y)] [.int 0])) := Steps.trans g18 (by
          refine XS.ifYes X18.here hexec rfl (pc0 := 47) rfl (hb hbytes d47) rfl (i0_eq_t rfl) (by decide) rfl ?_
          refine iconstV X18.here hexec rfl 0 (hb hbytes d54) (by decide) ?_
          exact Steps.refl _)
        exact ⟨T18, some (.int 0), _, _, _, X18, rfl, rfl, rfl, (fun h => by cases h), ⟨0, rfl, q18.trans hh16, Or.inr ⟨rfl, fun q => he (iff.mpr q)⟩⟩, fun fs hl => c19.trans (X18.ireturnOut hexec hret rfl (Or.inr (Or.inl rfl)) (hb hbytes d55) hl)⟩
    · have c13 : Steps p.tables e below (s₁.setTop (entryFrame m #[.ref x, .ref y] 3)) (T11.setTop (mkF m 55 #[.val (.ref x), .val (.ref y), .val (.ref y)] [.int 0])) := c12.trans (by
        refine XS.icmpYes X11.here hexec rfl (pc0 := 33) rfl (hb hbytes d33) rfl (ii_ne_t hcd) (by decide) rfl ?_
        refine iconstV X11.here hexec rfl 0 (hb hbytes d54) (by decide) ?_
        exact Steps.refl _)
      exact ⟨T11, some (.int 0), _, _, _, X11, rfl, rfl, rfl, (fun h => by cases h), ⟨0, rfl, hh11, Or.inr ⟨rfl, Cod.dif hx.2.2.2.2.1 hy.2.2.2.2.1 hcd⟩⟩, fun fs hl => c13.trans (X11.ireturnOut hexec hret rfl (Or.inr (Or.inl rfl)) (hb hbytes d55) hl)⟩
theorem pays {l : Launch} {R : Room} {p : Program} {e : Env} {below : List Frame} {s : State} {sargs : Array Value} {len W : Nat} (x t : Addr) (V : Cell) (cd : Int32) (n : Nat) (f : Nat → Int32) (y t' : Addr) (V' : Cell) (cd' : Int32) (k : Nat) (g : Nat → Int32) (z : Int32) (htab : tab.before sargs s = true) (hfr : 2 ≤ R.frames) (hlo : W + 28 ≤ R.locals) :
    Back l R p e below s sargs yN len W (fun A₁ a₁ => A₁.cells + 0 ≤ R.cells ∧ A₁.slots + 0 ≤ R.slots ∧ P x t V cd n f y t' V' cd' k g z a₁ A₁.U) (fun A₁ _ v₁ B₁ => Says01 (SameT n f k g) v₁ A₁.U B₁.U ∧ B₁.locs = A₁.locs ++ [] ∧ B₁.cells = A₁.cells + 0 ∧ B₁.slots = A₁.slots + 0) :=
  (law l x t V cd n f y t' V' cd' k g z).pays htab hfr (by omega)
end SEq
end StrChars
namespace StrChars.Road
open Jvm Sem ClassFile Op Lib Jvm.Stand Jvm.Free Jvm.Free.XT
open Jvm.Lib.Cold (StaticIs)
/-- the words of String.equals(Object) -/
abbrev wordsEq : List Jvm.Cond := [.code SEq.yN SEq.yB 3 (some .boolean), .initialized ST, .classLink ST 10 ST, .fieldLink ST 38 ST "COMPACT_STRINGS" "Z", .fieldLink ST 15 ST "coder" "B", .fieldLink ST 9 ST "value" "[B", .methodLink ST 541 LEq.yN, .static LEq.yN, .code LEq.yN LEq.yB 3 (some .boolean), .initialized "java/lang/StringLatin1"]
theorem tabEq_of {a : Array Value} {s : State} (h : ∀ w ∈ wordsEq, w.before a s = true) : SEq.tab.before a s = true := by
  have hl : LEq.tab.before a s = true := unparts (wk h (.code LEq.yN LEq.yB 3 (some .boolean))) (wks h (.initialized LEq.yN.cls :: LEq.site))
  have q := consq hl h
  exact unparts (wk q (.code SEq.yN SEq.yB 3 (some .boolean))) (wks q (.initialized SEq.yN.cls :: SEq.site))
theorem movedEq {Z s : State} {a0 args : Array Value} (hZ : Z.Warmed39 s.vm) (hw : ∀ d ∈ wordsEq, d.before a0 Z = true) : ∀ d ∈ wordsEq, d.before args s = true := fun d hd => by
  have t : ∀ d ∈ wordsEq, (d.onTables && d.keepsFace) = true := by decide +kernel
  exact RoadKit.mv hZ (hw d hd) (t d hd)
/-- the road's facts of a String, as the laws ask it -/
theorem txt_of {Z U : State} {a0 : Array Value} {kI : Nat} (wi : (Jvm.Cond.instantiable ST kI).before a0 Z = true) (al : Z.vm.Alike U.vm) {x t : Addr} {kb : ClassId} {cs : List Int32} {cd N2 : Int32} {vs : List Value} (E : RoadKit.Exa Z U.heap x ST) (V : RoadKit.Fld Z U.heap x ST "value" "[B" (.ref t)) (C : RoadKit.Fld Z U.heap x ST "coder" "B" (.int cd)) (K : RoadKit.Arv Z U.heap t kb .byte N2 vs (.int 0)) (hc : CodA cs cd N2 vs) (hb : ∀ c ∈ cs, ¬ c < 0 ∧ ¬ (65535 : Int32) < c) (l2 : cs.length ≤ 4000) :
    ∃ A, Txt x t A cd cs.length (fun j => cs.getD j 0) U := by
  obtain ⟨A, K1, K2, K3, K4, K5, K6⟩ := K
  have hcod := hc.cod (by omega) K3 K5
  obtain ⟨D, fV, fC, hB, F1, F2, g1, g2, -, -⟩ := strObj wi al E V C
  exact ⟨A, ⟨_, hB.2.2.1, D, hB.1, rfl, by cases q : D.vm <;> first | rfl | exact absurd q (hB.2.1.2 _)⟩, Has.of hB F1 g1, Has.of hB F2 g2, ⟨K1.1, State.isArrayOf_alike al K1.2.1, K1.2.2, by rcases hcod with ⟨-, q, -⟩ | ⟨-, q, -⟩ <;> omega⟩, hcod, fun j hj => by
    have e : cs.getD j 0 = cs[j] := by simp [List.getD_eq_getElem?_getD, hj]
    show ¬ cs.getD j 0 < 0 ∧ ¬ 65535 < cs.getD j 0
    rw [e]; exact hb _ (List.getElem_mem _)⟩
theorem same_list (cs ds : List Int32) : SameT cs.length (fun j => cs.getD j 0) ds.length (fun j => ds.getD j 0) ↔ cs = ds := by
  constructor
  · rintro ⟨e, q⟩
    refine List.ext_getElem e fun j h1 h2 => ?_
    have := q j h1
    simpa [List.getD_eq_getElem?_getD, h1, h2] using this
  · rintro rfl
    exact ⟨rfl, fun _ _ => rfl⟩
/-- **equals(Object) OF TWO SUCH STRINGS**: 1 just where the chars are the same -/
theorem eqW {p : Program} {l : Launch} {e : Env} {R : Room} {s : State} {args : Array Value} {below : List Frame} {len W : Nat} {Z : State} {a0 : Array Value} {h : Heap} (hZ : Z.Warmed39 s.vm) (hw : ∀ d ∈ wordsEq, d.before a0 Z = true) {kI : Nat} (wi : (Jvm.Cond.instantiable ST kI).before a0 Z = true)
    {x t : Addr} {kb : ClassId} {cs : List Int32} {cd N2 : Int32} {vs : List Value} (E : RoadKit.Exa Z h x ST) (V : RoadKit.Fld Z h x ST "value" "[B" (.ref t)) (C : RoadKit.Fld Z h x ST "coder" "B" (.int cd)) (K : RoadKit.Arv Z h t kb .byte N2 vs (.int 0)) (hc : CodA cs cd N2 vs) (hb : ∀ c ∈ cs, ¬ c < 0 ∧ ¬ (65535 : Int32) < c) (l2 : cs.length ≤ 4000)
    {y t' : Addr} {kb' : ClassId} {ds : List Int32} {cd' N2' : Int32} {vs' : List Value} (E' : RoadKit.Exa Z h y ST) (V' : RoadKit.Fld Z h y ST "value" "[B" (.ref t')) (C' : RoadKit.Fld Z h y ST "coder" "B" (.int cd')) (K' : RoadKit.Arv Z h t' kb' .byte N2' vs' (.int 0)) (hc' : CodA ds cd' N2' vs') (hb' : ∀ c ∈ ds, ¬ c < 0 ∧ ¬ (65535 : Int32) < c) (l2' : ds.length ≤ 4000)
    {z : Int32} (S : RoadKit.Sta Z h ST "COMPACT_STRINGS" "Z" (.int z)) (hz : ¬ z = 0) (hfr : 2 ≤ R.frames) (hlo : W + 28 ≤ R.locals) :
    Back l R p e below s args (⟨"java/lang/String", "equals", "(Ljava/lang/Object;)Z"⟩ : MethodName) len W (fun P a => a = #[.ref x, .ref y] ∧ P.U.heap = h ∧ P.cells + 0 ≤ R.cells ∧ P.slots + 0 ≤ R.slots)
      (fun P _ v B => ∃ L, (((v = some (.int 1) ∧ cs = ds) ∨ (v = some (.int 0) ∧ ¬ cs = ds)) ∧ L = [] ∧ B.U.heap = h) ∧ B.locs = P.locs ++ L ∧ B.cells = P.cells + 0 ∧ B.slots = P.slots + 0) := by
  intro m meth c P g ig mk a X hg hsize hdg hW hn hp'
  obtain ⟨rfl, rfl, r1, r2⟩ := hp'
  have al : Z.vm.Alike P.U.vm := hZ.alike.trans X.warmed.alike
  obtain ⟨A, hx⟩ := txt_of wi al E V C K hc hb l2
  obtain ⟨A', hy⟩ := txt_of wi al E' V' C' K' hc' hb' l2'
  obtain ⟨v, B, X', ⟨⟨w, hv, hh, hq⟩, hl, hk, hs⟩, st⟩ := SEq.pays x t A cd cs.length (fun j => cs.getD j 0) y t' A' cd' ds.length (fun j => ds.getD j 0) z (tabEq_of (movedEq hZ hw)) hfr hlo m meth c P g ig mk _ X hg hsize hdg hW hn ⟨r1, r2, rfl, hx, hy, sta_is al S, hz⟩
  refine ⟨v, B, X', ⟨[], ⟨?_, rfl, hh⟩, hl, hk, hs⟩, st⟩
  rcases hq with ⟨rfl, q⟩ | ⟨rfl, q⟩
  · exact Or.inl ⟨hv, (same_list cs ds).mp q⟩
  · exact Or.inr ⟨hv, fun e => q ((same_list cs ds).mpr e)⟩
end StrChars.Road
namespace StrChars.Road
open Jvm Sem ClassFile Op Lib Jvm.Stand Jvm.Free Jvm.Free.XT
open Jvm.Lib.Cold (StaticIs)
/-- what backV says of its String, as the contracts of this text ask it: cs's low bytes, coder 0 -/
theorem codOf {cs : List Int32} {n : Nat} (hn : cs.length = n) (hb : ∀ c ∈ cs, ¬ 255 < c) : CodA cs 0 (Int32.ofNat n) ((cs.map lo8).map Value.int) := Or.inl ⟨rfl, by rw [hn], by simp [List.map_map, Function.comp_def], hb⟩
end StrChars.Road
end Jvm.Pilot.@@N@@
namespace Jvm.Pilot.@@N@@
open Jvm Jvm.ClassFile Sem Op Lib Jvm.Free Jvm.Stand Jvm.LawKit Jvm.RoadKit Bundle Jvm.Pilot.@@N@@.Jvm.D
theorem own_and255 (x : Int32) : ¬ nar .char ((x &&& (255 : Int32)).toUInt32.toUInt16.toUInt32.toInt32) < 0 ∧ ¬ (255 : Int32) < nar .char ((x &&& (255 : Int32)).toUInt32.toUInt16.toUInt32.toInt32) := by
  have t : ∀ k : Fin 256, ¬ nar .char ((Int32.ofNat k.val).toUInt32.toUInt16.toUInt32.toInt32) < 0 ∧ ¬ (255 : Int32) < nar .char ((Int32.ofNat k.val).toUInt32.toUInt16.toUInt32.toInt32) := by decide +kernel
  have h : (x &&& 255).toBitVec.toNat < 256 := by
    simp only [Int32.toBitVec_and, BitVec.toNat_and]
    exact Nat.lt_succ_of_le Nat.and_le_right
  have e : (x &&& 255) = Int32.ofNat (x &&& 255).toBitVec.toNat := by
    apply Int32.toBitVec_inj.mp
    show _ = BitVec.ofNat 32 _
    rw [BitVec.ofNat_toNat]; simp
  rw [e]
  exact t ⟨_, h⟩
theorem own_up (cs : List Int32) (h : ∀ c ∈ cs, ¬ c < 0 ∧ ¬ (255 : Int32) < c) : ∀ c ∈ cs, ¬ c < 0 ∧ ¬ (65535 : Int32) < c := fun c hc => ⟨(h c hc).1, fun q => (h c hc).2 (by rw [Int32.lt_iff_toInt_lt] at q ⊢; have e1 : (65535 : Int32).toInt = 65535 := rfl; have e2 : (255 : Int32).toInt = 255 := rfl; omega)⟩
theorem own_wS : ∀ d ∈ Bundle.stringAtoms, d ∈ tables_1 := by decide +kernel
theorem own_wE : ∀ d ∈ StrChars.Road.wordsEq, d ∈ tables_1 := by decide +kernel
theorem own_wB : ∀ d ∈ StrChars.Road.words, d ∈ tables_1 := by decide +kernel
abbrev own_n0 : List Int32 := [101, 114, 114, 111, 114, 115, 45, 108, 105, 115, 116]
abbrev own_c0 : List Int32 := [69, 82, 82, 79, 82, 83, 95, 76, 73, 83, 84]
abbrev own_n1 : List Int32 := [115, 105, 110, 103, 108, 101, 45, 101, 114, 114, 111, 114]
abbrev own_c1 : List Int32 := [83, 73, 78, 71, 76, 69, 95, 69, 82, 82, 79, 82]
abbrev own_n2 : List Int32 := [112, 114, 111, 98, 108, 101, 109]
abbrev own_c2 : List Int32 := [80, 82, 79, 66, 76, 69, 77]
def own_exp (cs : List Int32) : Int32 := if cs = own_n0 then 0 else if cs = own_n1 then 1 else if cs = own_n2 then 2 else -1
def own_cn (k : Int32) : List Int32 := if k = 0 then own_c0 else if k = 1 then own_c1 else own_c2
def own_res (ad0 ad1 ad2 : Addr) (cs : List Int32) : Value := if own_n0 = cs then .ref ad0 else if own_n1 = cs then .ref ad1 else if own_n2 = cs then .ref ad2 else .null
theorem own_eq {p : Program} {l : Launch} {e : Env} {R : Room} {s : State} {args : Array Value} {below : List Frame} {len W : Nat} {Z : State} {a0 : Array Value} {h : Heap} (hZ : Z.Warmed39 s.vm) (hw : ∀ d ∈ tables_1, d.before a0 Z = true)
    {x y : Addr} {cs ds : List Int32} (A : own_St Z h x cs) (B : own_St Z h y ds) {z : Int32} (S : Sta Z h "java/lang/String" "COMPACT_STRINGS" "Z" (.int z)) (hz : ¬ z = 0) (hfr : 2 ≤ R.frames) (hlo : W + 28 ≤ R.locals) :
    Back l R p e below s args (⟨"java/lang/String", "equals", "(Ljava/lang/Object;)Z"⟩ : MethodName) len W (fun P a => a = #[.ref x, .ref y] ∧ P.U.heap = h ∧ P.cells + 0 ≤ R.cells ∧ P.slots + 0 ≤ R.slots)
      (fun P _ v B => ∃ L, (v = some (.int (if cs = ds then 1 else 0)) ∧ L = [] ∧ B.U.heap = h) ∧ B.locs = P.locs ++ L ∧ B.cells = P.cells + 0 ∧ B.slots = P.slots + 0) := by
  obtain ⟨t, kb, h1, h2, h3, h4, h5, h6⟩ := A
  obtain ⟨t', kb', g1, g2, g3, g4, g5, g6⟩ := B
  have k := StrChars.Road.eqW (p := p) (l := l) (e := e) (R := R) (args := args) (below := below) (len := len) (W := W) hZ (fun d hd => hw d (own_wE d hd)) (kI := 4) (hw _ (List.mem_of_getElem? (i := 2) rfl)) h1 h2 h3 h4 (StrChars.Road.codOf rfl fun c hc => (h5 c hc).2) (own_up cs h5) h6 g1 g2 g3 g4 (StrChars.Road.codOf rfl fun c hc => (g5 c hc).2) (own_up ds g5) g6 S hz hfr hlo
  intro m meth cc P g ig mk a X hg hsize hdg hW hn hp
  obtain ⟨v, B, X', ⟨L, ⟨q, r1, r2⟩, r3⟩, st⟩ := k m meth cc P g ig mk a X hg hsize hdg hW hn hp
  refine ⟨v, B, X', ⟨L, ⟨?_, r1, r2⟩, r3⟩, st⟩
  rcases q with ⟨rfl, q⟩ | ⟨rfl, q⟩
  · rw [if_pos q]
  · rw [if_neg q]
theorem d21_0 : decode method_4_code 0 = .ok (.iload_n 0, 1) := by decide +kernel
theorem d21_1 : decode method_4_code 1 = .ok (.ifCond .ne 6, 3) := by decide +kernel
theorem d21_4 : decode method_4_code 4 = .ok (.ldc 7, 2) := by decide +kernel
theorem d21_6 : decode method_4_code 6 = .ok (.areturn, 1) := by decide +kernel
theorem d21_7 : decode method_4_code 7 = .ok (.iload_n 0, 1) := by decide +kernel
theorem d21_8 : decode method_4_code 8 = .ok (.iconst 1, 1) := by decide +kernel
theorem d21_9 : decode method_4_code 9 = .ok (.if_icmp .ne 6, 3) := by decide +kernel
theorem d21_12 : decode method_4_code 12 = .ok (.ldc 9, 2) := by decide +kernel
theorem d21_14 : decode method_4_code 14 = .ok (.areturn, 1) := by decide +kernel
theorem d21_15 : decode method_4_code 15 = .ok (.ldc 11, 2) := by decide +kernel
theorem d21_17 : decode method_4_code 17 = .ok (.areturn, 1) := by decide +kernel
theorem pn_0 : plainName "com/example/fault/fault/EnvelopeNamedPinLaw" = true := by first | (simp [plainName, overriddenIn]; done) | decide +kernel
theorem ef_21 (m : MethodId) (kw : Int32) : entryFrame m #[(.int kw)] 1 = mkF m 0 #[iv kw] [] := by first | (simp [entryFrame, mkF, argsToLocals, Value.category]; done) | rfl
def Q21 (Z : State) (kw : Int32) (h0 : Heap) (n0 : Nat) (v : Option Value) (h : Heap) (L : List Loc) : Prop := ∃ a, v = some (.ref a) ∧ Fr n0 L ∧ Keep h0 h [] ∧ own_St Z h a (own_cn kw)
set_option maxRecDepth 65536 in
set_option maxHeartbeats 40000000 in
theorem rm21 (l : Launch) (Z : State) (a0 : Array Value) (hw : ∀ d ∈ tables_1, d.before a0 Z = true) (ws : List Jvm.Cond) (kw : Int32) (h0 : Heap) (n0 : Nat) (Z0 : n0 ≤ h0.size) (Od : Old Z n0 h0) (Hc : ∀ q ∈ consts_1, Jvm.Lit.constHeld Z q.1 q.2) (hcw : Jvm.Lit.compactW.before a0 Z = true) :
    MetFree l (⟨"com/example/fault/fault/EnvelopeNamedPinLaw", "constName", "(I)Ljava/lang/String;"⟩ : MethodName) (head1 (Jvm.Cond.code (⟨"com/example/fault/fault/EnvelopeNamedPinLaw", "constName", "(I)Ljava/lang/String;"⟩ : MethodName) method_4_code 1 (some (.object "java/lang/String")) :: ws) ({ frames := 0, cells := 2, slots := 52, locals := 0 } : Room)) (fun a U => a = #[(.int kw)] ∧ Z.Warmed39 U.vm ∧ U.heap = h0 ∧ IB Z U.vm ([] : List String)) (fun _ _ _ _ _ => True) (fun _ U o U' => ∃ v L, o = .returned v ∧ Q21 Z kw h0 n0 v U'.heap L ∧ IB Z U'.vm ["ERRORS_LIST", "SINGLE_ERROR", "PROBLEM"] ∧ ReturnedEndW U o U' L ({ frames := 0, cells := 2, slots := 52, locals := 0 } : Room).cells ({ frames := 0, cells := 2, slots := 52, locals := 0 } : Room).slots) := by
  refine MetFree.of_bodySF (plainFor_of_name pn_0) hisR ?_
  intro p e s m args below meth c s₁ Bd hml0 hP hK
  obtain ⟨rfl, hZ, hh, I0⟩ := hP
  have hx := Bd.exec
  have hby := Bd.bytes
  have hml : c.maxLocals = 1 := hml0
  have hown : s.vm.findClass "com/example/fault/fault/EnvelopeNamedPinLaw" = some m.cls := findClass_of_methodNamed Bd.named
  have hnm := (name_of_methodNamed Bd.named Bd.method).1
  have hlk : meth.locks = false := Bd.notSynchronized
  have hrt := Bd.returns
  have X0 : Stand p l e ({ frames := 0, cells := 2, slots := 52, locals := 0 } : Room) s m #[(.int kw)] below meth c s₁ [] 0 0 := Stand.of_body Bd
  have e0 : s₁.heap = h0 := by rw [← hh, Bd.state]; rfl
  have N0 := Fr.nil n0
  replace X0 : Stand p l e ({ frames := 0, cells := 2, slots := 52, locals := 0 } : Room) (s.setVm s.vm) m #[(.int kw)] below meth c s₁ [] 0 0 := X0
  replace hZ : Z.Warmed39 (s.setVm s.vm).vm := hZ
  replace hown : (s.setVm s.vm).vm.findClass "com/example/fault/fault/EnvelopeNamedPinLaw" = some m.cls := hown
  have hS0 := own_since s
  have Le0 : own_Le s.heap.size h0 := Nat.le_of_eq (congrArg Array.size hh)
  show own_Endz p.tables e below (own_EndW Z s ["ERRORS_LIST", "SINGLE_ERROR", "PROBLEM"] ({ frames := 0, cells := 2, slots := 52, locals := 0 } : Room).cells ({ frames := 0, cells := 2, slots := 52, locals := 0 } : Room).slots (Q21 Z kw h0 n0)) (s₁.setTop (entryFrame m #[(.int kw)] 1))
  refine own_cast (ef_21 m kw) ?_
  have hkeep : ∀ (b : Addr) (cl : Cell), Z.heap[b]? = some cl → s.heap[b]? = some cl := fun b cl q => by rw [hh]; exact Od.2.2 b cl q
  refine own_go (b := s₁.setTop (mkF m 1 #[iv kw] [(.int kw)])) (fun t k => XS.iloadN X0.here hx rfl (hb hby d21_0) rfl  k) ?_
  by_cases hc1 : kw = (0 : Int32)
  · refine own_go (b := s₁.setTop (mkF m 4 #[iv kw] [])) (fun t k => XS.ifNo X0.here hx rfl (hb hby d21_1) rfl ((if0 _ _).trans (teq hc1).2) k) ?_
    obtain ⟨ax2, T2, h2, k2, X2, e2, E2, hS2, Le2, hZ, hown, Sv2, I2, Lt2, st2⟩ := own_ldc X0 hx hZ hown (hw _ (List.mem_of_getElem? (i := 123) rfl)) (fun a ha => hw a (own_wS a ha)) e0 hS0 Le0 (Fr.nil _) hkeep I0 (by simp) (Hc _ (List.mem_of_getElem? (i := 0) rfl)) hcw (cs := [69, 82, 82, 79, 82, 83, 95, 76, 73, 83, 84]) ⟨by decide +kernel, by decide +kernel⟩ (by decide +kernel) (by decide) (g := (mkF m 4 #[iv kw] [])) rfl (hb hby d21_4) (n := 44) (by decide +kernel) (by decide) (by decide) (by decide)
    have Zs2 : n0 ≤ h2.size := Nat.le_trans Z0 E2.1
    have Kp2 : Keep h0 h2 [] := (Keep.refl h0 []).ext E2
    have Ol2 := Od.ext E2
    refine own_go (b := T2.setTop (mkF m 6 #[iv kw] [(.ref ax2)])) st2 ?_
    exact own_retAW X2 hx hlk hS2 (own_LeT Le2 e2) I2 (by simp) hrt rfl rfl (hb hby d21_6) (Nat.le_of_ble_eq_true rfl) (Nat.le_of_ble_eq_true rfl) (⟨_, rfl, N0, by rw [e2]; exact Kp2, by rw [e2, own_cn]; simp only [eq_true hc1, if_true, if_false]; exact Sv2⟩)
  · refine own_go (b := s₁.setTop (mkF m 7 #[iv kw] [])) (fun t k => XS.ifYes X0.here hx rfl (pc0 := 1) (pc' := 7) rfl (hb hby d21_1) rfl ((if0 _ _).trans (feq hc1).2) (by decide) (by decide) k) ?_
    refine own_go (b := s₁.setTop (mkF m 8 #[iv kw] [(.int kw)])) (fun t k => XS.iloadN X0.here hx rfl (hb hby d21_7) rfl  k) ?_
    refine own_go (b := s₁.setTop (mkF m 9 #[iv kw] [(.int 1), (.int kw)])) (fun t k => XS.iconst X0.here hx rfl (hb hby d21_8) k) ?_
    by_cases hc3 : kw = (1 : Int32)
    · refine own_go (b := s₁.setTop (mkF m 12 #[iv kw] [])) (fun t k => XS.icmpNo X0.here hx rfl (hb hby d21_9) rfl (teq hc3).2 k) ?_
      obtain ⟨ax4, T4, h4, k4, X4, e4, E4, hS4, Le4, hZ, hown, Sv4, I4, Lt4, st4⟩ := own_ldc X0 hx hZ hown (hw _ (List.mem_of_getElem? (i := 124) rfl)) (fun a ha => hw a (own_wS a ha)) e0 hS0 Le0 (Fr.nil _) hkeep I0 (by simp) (Hc _ (List.mem_of_getElem? (i := 1) rfl)) hcw (cs := [83, 73, 78, 71, 76, 69, 95, 69, 82, 82, 79, 82]) ⟨by decide +kernel, by decide +kernel⟩ (by decide +kernel) (by decide) (g := (mkF m 12 #[iv kw] [])) rfl (hb hby d21_12) (n := 48) (by decide +kernel) (by decide) (by decide) (by decide)
      have Zs4 : n0 ≤ h4.size := Nat.le_trans Z0 E4.1
      have Kp4 : Keep h0 h4 [] := (Keep.refl h0 []).ext E4
      have Ol4 := Od.ext E4
      refine own_go (b := T4.setTop (mkF m 14 #[iv kw] [(.ref ax4)])) st4 ?_
      exact own_retAW X4 hx hlk hS4 (own_LeT Le4 e4) I4 (by simp) hrt rfl rfl (hb hby d21_14) (Nat.le_of_ble_eq_true rfl) (Nat.le_of_ble_eq_true rfl) (⟨_, rfl, N0, by rw [e4]; exact Kp4, by rw [e4, own_cn]; simp only [eq_false hc1, eq_true hc3, if_true, if_false]; exact Sv4⟩)
    · refine own_go (b := s₁.setTop (mkF m 15 #[iv kw] [])) (fun t k => XS.icmpYes X0.here hx rfl (pc0 := 9) (pc' := 15) rfl (hb hby d21_9) rfl (feq hc3).2 (by decide) (by decide) k) ?_
      obtain ⟨ax5, T5, h5, k5, X5, e5, E5, hS5, Le5, hZ, hown, Sv5, I5, Lt5, st5⟩ := own_ldc X0 hx hZ hown (hw _ (List.mem_of_getElem? (i := 122) rfl)) (fun a ha => hw a (own_wS a ha)) e0 hS0 Le0 (Fr.nil _) hkeep I0 (by simp) (Hc _ (List.mem_of_getElem? (i := 2) rfl)) hcw (cs := [80, 82, 79, 66, 76, 69, 77]) ⟨by decide +kernel, by decide +kernel⟩ (by decide +kernel) (by decide) (g := (mkF m 15 #[iv kw] [])) rfl (hb hby d21_15) (n := 28) (by decide +kernel) (by decide) (by decide) (by decide)
      have Zs5 : n0 ≤ h5.size := Nat.le_trans Z0 E5.1
      have Kp5 : Keep h0 h5 [] := (Keep.refl h0 []).ext E5
      have Ol5 := Od.ext E5
      refine own_go (b := T5.setTop (mkF m 17 #[iv kw] [(.ref ax5)])) st5 ?_
      exact own_retAW X5 hx hlk hS5 (own_LeT Le5 e5) I5 (by simp) hrt rfl rfl (hb hby d21_17) (Nat.le_of_ble_eq_true rfl) (Nat.le_of_ble_eq_true rfl) (⟨_, rfl, N0, by rw [e5]; exact Kp5, by rw [e5, own_cn]; simp only [eq_false hc1, eq_false hc3, if_true, if_false]; exact Sv5⟩)
theorem d8_0 : decode method_6_code 0 = .ok (.aload_n 0, 1) := by decide +kernel
theorem d8_1 : decode method_6_code 1 = .ok (.ldc 13, 2) := by decide +kernel
theorem d8_3 : decode method_6_code 3 = .ok (.invokevirtual 15, 3) := by decide +kernel
theorem d8_6 : decode method_6_code 6 = .ok (.ifCond .eq 5, 3) := by decide +kernel
theorem d8_9 : decode method_6_code 9 = .ok (.iconst 0, 1) := by decide +kernel
theorem d8_10 : decode method_6_code 10 = .ok (.ireturn, 1) := by decide +kernel
theorem d8_11 : decode method_6_code 11 = .ok (.aload_n 0, 1) := by decide +kernel
theorem d8_12 : decode method_6_code 12 = .ok (.ldc 21, 2) := by decide +kernel
theorem d8_14 : decode method_6_code 14 = .ok (.invokevirtual 15, 3) := by decide +kernel
theorem d8_17 : decode method_6_code 17 = .ok (.ifCond .eq 5, 3) := by decide +kernel
theorem d8_20 : decode method_6_code 20 = .ok (.iconst 1, 1) := by decide +kernel
theorem d8_21 : decode method_6_code 21 = .ok (.ireturn, 1) := by decide +kernel
theorem d8_22 : decode method_6_code 22 = .ok (.aload_n 0, 1) := by decide +kernel
theorem d8_23 : decode method_6_code 23 = .ok (.ldc 23, 2) := by decide +kernel
theorem d8_25 : decode method_6_code 25 = .ok (.invokevirtual 15, 3) := by decide +kernel
theorem d8_28 : decode method_6_code 28 = .ok (.ifCond .eq 5, 3) := by decide +kernel
theorem d8_31 : decode method_6_code 31 = .ok (.iconst 2, 1) := by decide +kernel
theorem d8_32 : decode method_6_code 32 = .ok (.ireturn, 1) := by decide +kernel
theorem d8_33 : decode method_6_code 33 = .ok (.iconst (-1), 1) := by decide +kernel
theorem d8_34 : decode method_6_code 34 = .ok (.ireturn, 1) := by decide +kernel
theorem pd_0 : parseMethodDescriptor "(Ljava/lang/Object;)Z" = some ⟨[(.object "java/lang/Object")], some .boolean⟩ := by decide +kernel
theorem ef_8 (m : MethodId) (xs : Addr) : entryFrame m #[(.ref xs)] 1 = mkF m 0 #[rv xs] [] := by first | (simp [entryFrame, mkF, argsToLocals, Value.category]; done) | rfl
def Q8 (Z : State) (xs : Addr) (cs : List Int32) (G1 : Int32) (h0 : Heap) (n0 : Nat) (v : Option Value) (h : Heap) (L : List Loc) : Prop := v = some (.int (own_exp cs)) ∧ Fr n0 L ∧ Keep h0 h []
set_option maxRecDepth 65536 in
set_option maxHeartbeats 40000000 in
theorem rm8 (l : Launch) (Z : State) (a0 : Array Value) (hw : ∀ d ∈ tables_1, d.before a0 Z = true) (ws : List Jvm.Cond) (xs : Addr) (cs : List Int32) (G1 : Int32) (h0 : Heap) (n0 : Nat) (Z0 : n0 ≤ h0.size) (Od : Old Z n0 h0) (Hc : ∀ q ∈ consts_1, Jvm.Lit.constHeld Z q.1 q.2) (hcw : Jvm.Lit.compactW.before a0 Z = true) (O2 : Sta Z Z.heap "java/lang/String" "COMPACT_STRINGS" "Z" (.int G1)) (P5 : ¬ (G1 = (0 : Int32))) (Sx : own_St Z h0 xs cs) :
    MetFree l (⟨"com/example/fault/fault/EnvelopeNamedPinLaw", "expected", "(Ljava/lang/String;)I"⟩ : MethodName) (head1 (Jvm.Cond.code (⟨"com/example/fault/fault/EnvelopeNamedPinLaw", "expected", "(Ljava/lang/String;)I"⟩ : MethodName) method_6_code 1 (some .int) :: ws) ({ frames := 2, cells := 6, slots := 132, locals := 29 } : Room)) (fun a U => a = #[(.ref xs)] ∧ Z.Warmed39 U.vm ∧ U.heap = h0 ∧ IB Z U.vm ["", "ERRORS_LIST", "SINGLE_ERROR", "PROBLEM"]) (fun _ _ _ _ _ => True) (fun _ U o U' => ∃ v L, o = .returned v ∧ Q8 Z xs cs G1 h0 n0 v U'.heap L ∧ IB Z U'.vm ["", "ERRORS_LIST", "SINGLE_ERROR", "PROBLEM", "errors-list", "single-error", "problem"] ∧ ReturnedEndW U o U' L ({ frames := 2, cells := 6, slots := 132, locals := 29 } : Room).cells ({ frames := 2, cells := 6, slots := 132, locals := 29 } : Room).slots) := by
  refine MetFree.of_bodySF (plainFor_of_name pn_0) hisR ?_
  intro p e s m args below meth c s₁ Bd hml0 hP hK
  obtain ⟨rfl, hZ, hh, I0⟩ := hP
  have hx := Bd.exec
  have hby := Bd.bytes
  have hml : c.maxLocals = 1 := hml0
  have hown : s.vm.findClass "com/example/fault/fault/EnvelopeNamedPinLaw" = some m.cls := findClass_of_methodNamed Bd.named
  have hnm := (name_of_methodNamed Bd.named Bd.method).1
  have hlk : meth.locks = false := Bd.notSynchronized
  have hrt := Bd.returns
  have X0 : Stand p l e ({ frames := 2, cells := 6, slots := 132, locals := 29 } : Room) s m #[(.ref xs)] below meth c s₁ [] 0 0 := Stand.of_body Bd
  have e0 : s₁.heap = h0 := by rw [← hh, Bd.state]; rfl
  have N0 := Fr.nil n0
  replace X0 : Stand p l e ({ frames := 2, cells := 6, slots := 132, locals := 29 } : Room) (s.setVm s.vm) m #[(.ref xs)] below meth c s₁ [] 0 0 := X0
  replace hZ : Z.Warmed39 (s.setVm s.vm).vm := hZ
  replace hown : (s.setVm s.vm).vm.findClass "com/example/fault/fault/EnvelopeNamedPinLaw" = some m.cls := hown
  have hS0 := own_since s
  have Le0 : own_Le s.heap.size h0 := Nat.le_of_eq (congrArg Array.size hh)
  show own_Endz p.tables e below (own_EndW Z s ["", "ERRORS_LIST", "SINGLE_ERROR", "PROBLEM", "errors-list", "single-error", "problem"] ({ frames := 2, cells := 6, slots := 132, locals := 29 } : Room).cells ({ frames := 2, cells := 6, slots := 132, locals := 29 } : Room).slots (Q8 Z xs cs G1 h0 n0)) (s₁.setTop (entryFrame m #[(.ref xs)] 1))
  refine own_cast (ef_8 m xs) ?_
  have hkeep : ∀ (b : Addr) (cl : Cell), Z.heap[b]? = some cl → s.heap[b]? = some cl := fun b cl q => by rw [hh]; exact Od.2.2 b cl q
  refine own_go (b := s₁.setTop (mkF m 1 #[rv xs] [(.ref xs)])) (fun t k => XS.aloadN X0.here hx rfl (hb hby d8_0) rfl rfl k) ?_
  obtain ⟨ax1, T1, h1, k1, X1, e1, E1, hS1, Le1, hZ, hown, Sv1, I1, Lt1, st1⟩ := own_ldc X0 hx hZ hown (hw _ (List.mem_of_getElem? (i := 38) rfl)) (fun a ha => hw a (own_wS a ha)) e0 hS0 Le0 (Fr.nil _) hkeep I0 (by simp) (Hc _ (List.mem_of_getElem? (i := 3) rfl)) hcw (cs := [101, 114, 114, 111, 114, 115, 45, 108, 105, 115, 116]) ⟨by decide +kernel, by decide +kernel⟩ (by decide +kernel) (by decide) (g := (mkF m 1 #[rv xs] [(.ref xs)])) rfl (hb hby d8_1) (n := 44) (by decide +kernel) (by decide) (by decide) (by decide)
  have Zs1 : n0 ≤ h1.size := Nat.le_trans Z0 E1.1
  have Kp1 : Keep h0 h1 [] := (Keep.refl h0 []).ext E1
  have Ol1 := Od.ext E1
  refine own_go (b := T1.setTop (mkF m 3 #[rv xs] [(.ref ax1), (.ref xs)])) st1 ?_
  obtain ⟨cq2, kq2, q2a, q2b, q2c⟩ := isOf hZ e1 (own_St.exa (Sx.ext E1))
  obtain ⟨_, _, ⟨T2, L2, k2, n2⟩, -, X2, ⟨Lc2, hQ2, l2, y2, z2⟩, st2⟩ := X1.virtualBack hx (y := (⟨"java/lang/String", "equals", "(Ljava/lang/Object;)Z"⟩ : MethodName)) (z := (⟨"java/lang/String", "equals", "(Ljava/lang/Object;)Z"⟩ : MethodName)) hown (mvT hZ (hw _ (List.mem_of_getElem? (i := 41) rfl))) (mvT hZ (hw _ (List.mem_of_getElem? (i := 42) rfl))) (notFace_of_selects (args := #[]) (mvT hZ (hw _ (List.mem_of_getElem? (i := 44) rfl)))) (mvT hZ (hw _ (List.mem_of_getElem? (i := 44) rfl))) (mvT hZ (hw _ (List.mem_of_getElem? (i := 43) rfl))) (by decide) (own_eq (W := 0) hZ hw (cs := cs) (ds := own_n0) (Sx.ext E1) Sv1 (O2.ext Ol1.2) P5 (by decide) (by decide)) q2a q2c (g := (mkF m 3 #[rv xs] [(.ref ax1), (.ref xs)])) rfl (by rw [hml]; rfl) (Steps.refl _) (argsL := [(.ref ax1)]) (rest := []) (lenOf pd_0 rfl) rfl (by show 2 * 0 + _ ≤ _; exact Nat.le_of_eq rfl) (hb hby d8_3) (fun _ _ => ⟨rfl, e1, (by decide : 2 + 0 ≤ _), (by decide : 48 + 0 ≤ _)⟩)
  dsimp only [Pt.U, Pt.locs, Pt.cells, Pt.slots] at X2 l2 y2 z2 st2 hQ2
  subst l2 y2 z2
  obtain ⟨rfl, rfl, e2⟩ := hQ2
  replace X2 : Stand p l e ({ frames := 2, cells := 6, slots := 132, locals := 29 } : Room) (s.setVm T1.vm) m #[(.ref xs)] below meth c T2 [] 2 48 := X2
  refine own_tr (b := T2.setTop (mkF m 6 #[rv xs] [(.int (if cs = own_n0 then 1 else 0))])) st2 ?_
  by_cases hc3 : cs = own_n0
  · rw [if_pos hc3]
    refine own_go (b := T2.setTop (mkF m 9 #[rv xs] [])) (fun t k => XS.ifNo X2.here hx rfl (hb hby d8_6) rfl ((if0 _ _).trans (feq (by decide : ¬ ((1 : Int32) = (0 : Int32)))).1) k) ?_
    refine own_go (b := T2.setTop (mkF m 10 #[rv xs] [(.int 0)])) (fun t k => XS.iconst X2.here hx rfl (hb hby d8_9) k) ?_
    exact own_retIW X2 hx hlk hS1 (own_LeT Le1 e2) I1 (by simp) hrt (hb hby d8_10) (Nat.le_of_ble_eq_true rfl) (Nat.le_of_ble_eq_true rfl) (⟨by rw [own_exp, if_pos hc3], N0, by rw [e2]; exact Kp1⟩)
  · rw [if_neg hc3]
    refine own_go (b := T2.setTop (mkF m 11 #[rv xs] [])) (fun t k => XS.ifYes X2.here hx rfl (pc0 := 6) (pc' := 11) rfl (hb hby d8_6) rfl ((if0 _ _).trans (teq (rfl : (0 : Int32) = (0 : Int32))).1) (by decide) (by decide) k) ?_
    refine own_go (b := T2.setTop (mkF m 12 #[rv xs] [(.ref xs)])) (fun t k => XS.aloadN X2.here hx rfl (hb hby d8_11) rfl rfl k) ?_
    obtain ⟨ax4, T4, h4, k4, X4, e4, E4, hS4, Le4, hZ, hown, Sv4, I4, Lt4, st4⟩ := own_ldc X2 hx hZ hown (hw _ (List.mem_of_getElem? (i := 107) rfl)) (fun a ha => hw a (own_wS a ha)) e2 hS1 Le1 (Fr.nil _) hkeep I1 (by simp) (Hc _ (List.mem_of_getElem? (i := 4) rfl)) hcw (cs := [115, 105, 110, 103, 108, 101, 45, 101, 114, 114, 111, 114]) ⟨by decide +kernel, by decide +kernel⟩ (by decide +kernel) (by decide) (g := (mkF m 12 #[rv xs] [(.ref xs)])) rfl (hb hby d8_12) (n := 48) (by decide +kernel) (by decide) (by decide) (by decide)
    have Zs4 : n0 ≤ h4.size := Nat.le_trans Zs1 E4.1
    have Kp4 : Keep h0 h4 [] := Kp1.ext E4
    have Ol4 := Ol1.ext E4
    refine own_go (b := T4.setTop (mkF m 14 #[rv xs] [(.ref ax4), (.ref xs)])) st4 ?_
    obtain ⟨cq5, kq5, q5a, q5b, q5c⟩ := isOf hZ e4 (own_St.exa ((Sx.ext E1).ext E4))
    obtain ⟨_, _, ⟨T5, L5, k5, n5⟩, -, X5, ⟨Lc5, hQ5, l5, y5, z5⟩, st5⟩ := X4.virtualBack hx (y := (⟨"java/lang/String", "equals", "(Ljava/lang/Object;)Z"⟩ : MethodName)) (z := (⟨"java/lang/String", "equals", "(Ljava/lang/Object;)Z"⟩ : MethodName)) hown (mvT hZ (hw _ (List.mem_of_getElem? (i := 41) rfl))) (mvT hZ (hw _ (List.mem_of_getElem? (i := 42) rfl))) (notFace_of_selects (args := #[]) (mvT hZ (hw _ (List.mem_of_getElem? (i := 44) rfl)))) (mvT hZ (hw _ (List.mem_of_getElem? (i := 44) rfl))) (mvT hZ (hw _ (List.mem_of_getElem? (i := 43) rfl))) (by decide) (own_eq (W := 0) hZ hw (cs := cs) (ds := own_n1) ((Sx.ext E1).ext E4) Sv4 (O2.ext Ol4.2) P5 (by decide) (by decide)) q5a q5c (g := (mkF m 14 #[rv xs] [(.ref ax4), (.ref xs)])) rfl (by rw [hml]; rfl) (Steps.refl _) (argsL := [(.ref ax4)]) (rest := []) (lenOf pd_0 rfl) rfl (by show 2 * 0 + _ ≤ _; exact Nat.le_of_eq rfl) (hb hby d8_14) (fun _ _ => ⟨rfl, e4, (by decide : 4 + 0 ≤ _), (by decide : 100 + 0 ≤ _)⟩)
    dsimp only [Pt.U, Pt.locs, Pt.cells, Pt.slots] at X5 l5 y5 z5 st5 hQ5
    subst l5 y5 z5
    obtain ⟨rfl, rfl, e5⟩ := hQ5
    replace X5 : Stand p l e ({ frames := 2, cells := 6, slots := 132, locals := 29 } : Room) (s.setVm T4.vm) m #[(.ref xs)] below meth c T5 [] 4 100 := X5
    refine own_tr (b := T5.setTop (mkF m 17 #[rv xs] [(.int (if cs = own_n1 then 1 else 0))])) st5 ?_
    by_cases hc6 : cs = own_n1
    · rw [if_pos hc6]
      refine own_go (b := T5.setTop (mkF m 20 #[rv xs] [])) (fun t k => XS.ifNo X5.here hx rfl (hb hby d8_17) rfl ((if0 _ _).trans (feq (by decide : ¬ ((1 : Int32) = (0 : Int32)))).1) k) ?_
      refine own_go (b := T5.setTop (mkF m 21 #[rv xs] [(.int 1)])) (fun t k => XS.iconst X5.here hx rfl (hb hby d8_20) k) ?_
      exact own_retIW X5 hx hlk hS4 (own_LeT Le4 e5) I4 (by simp) hrt (hb hby d8_21) (Nat.le_of_ble_eq_true rfl) (Nat.le_of_ble_eq_true rfl) (⟨by rw [own_exp, if_neg hc3, if_pos hc6], N0, by rw [e5]; exact Kp4⟩)
    · rw [if_neg hc6]
      refine own_go (b := T5.setTop (mkF m 22 #[rv xs] [])) (fun t k => XS.ifYes X5.here hx rfl (pc0 := 17) (pc' := 22) rfl (hb hby d8_17) rfl ((if0 _ _).trans (teq (rfl : (0 : Int32) = (0 : Int32))).1) (by decide) (by decide) k) ?_
      refine own_go (b := T5.setTop (mkF m 23 #[rv xs] [(.ref xs)])) (fun t k => XS.aloadN X5.here hx rfl (hb hby d8_22) rfl rfl k) ?_
      obtain ⟨ax7, T7, h7, k7, X7, e7, E7, hS7, Le7, hZ, hown, Sv7, I7, Lt7, st7⟩ := own_ldc X5 hx hZ hown (hw _ (List.mem_of_getElem? (i := 108) rfl)) (fun a ha => hw a (own_wS a ha)) e5 hS4 Le4 (Fr.nil _) hkeep I4 (by simp) (Hc _ (List.mem_of_getElem? (i := 5) rfl)) hcw (cs := [112, 114, 111, 98, 108, 101, 109]) ⟨by decide +kernel, by decide +kernel⟩ (by decide +kernel) (by decide) (g := (mkF m 23 #[rv xs] [(.ref xs)])) rfl (hb hby d8_23) (n := 28) (by decide +kernel) (by decide) (by decide) (by decide)
      have Zs7 : n0 ≤ h7.size := Nat.le_trans Zs4 E7.1
      have Kp7 : Keep h0 h7 [] := Kp4.ext E7
      have Ol7 := Ol4.ext E7
      refine own_go (b := T7.setTop (mkF m 25 #[rv xs] [(.ref ax7), (.ref xs)])) st7 ?_
      obtain ⟨cq8, kq8, q8a, q8b, q8c⟩ := isOf hZ e7 (own_St.exa (((Sx.ext E1).ext E4).ext E7))
      obtain ⟨_, _, ⟨T8, L8, k8, n8⟩, -, X8, ⟨Lc8, hQ8, l8, y8, z8⟩, st8⟩ := X7.virtualBack hx (y := (⟨"java/lang/String", "equals", "(Ljava/lang/Object;)Z"⟩ : MethodName)) (z := (⟨"java/lang/String", "equals", "(Ljava/lang/Object;)Z"⟩ : MethodName)) hown (mvT hZ (hw _ (List.mem_of_getElem? (i := 41) rfl))) (mvT hZ (hw _ (List.mem_of_getElem? (i := 42) rfl))) (notFace_of_selects (args := #[]) (mvT hZ (hw _ (List.mem_of_getElem? (i := 44) rfl)))) (mvT hZ (hw _ (List.mem_of_getElem? (i := 44) rfl))) (mvT hZ (hw _ (List.mem_of_getElem? (i := 43) rfl))) (by decide) (own_eq (W := 0) hZ hw (cs := cs) (ds := own_n2) (((Sx.ext E1).ext E4).ext E7) Sv7 (O2.ext Ol7.2) P5 (by decide) (by decide)) q8a q8c (g := (mkF m 25 #[rv xs] [(.ref ax7), (.ref xs)])) rfl (by rw [hml]; rfl) (Steps.refl _) (argsL := [(.ref ax7)]) (rest := []) (lenOf pd_0 rfl) rfl (by show 2 * 0 + _ ≤ _; exact Nat.le_of_eq rfl) (hb hby d8_25) (fun _ _ => ⟨rfl, e7, (by decide : 6 + 0 ≤ _), (by decide : 132 + 0 ≤ _)⟩)
      dsimp only [Pt.U, Pt.locs, Pt.cells, Pt.slots] at X8 l8 y8 z8 st8 hQ8
      subst l8 y8 z8
      obtain ⟨rfl, rfl, e8⟩ := hQ8
      replace X8 : Stand p l e ({ frames := 2, cells := 6, slots := 132, locals := 29 } : Room) (s.setVm T7.vm) m #[(.ref xs)] below meth c T8 [] 6 132 := X8
      refine own_tr (b := T8.setTop (mkF m 28 #[rv xs] [(.int (if cs = own_n2 then 1 else 0))])) st8 ?_
      by_cases hc9 : cs = own_n2
      · rw [if_pos hc9]
        refine own_go (b := T8.setTop (mkF m 31 #[rv xs] [])) (fun t k => XS.ifNo X8.here hx rfl (hb hby d8_28) rfl ((if0 _ _).trans (feq (by decide : ¬ ((1 : Int32) = (0 : Int32)))).1) k) ?_
        refine own_go (b := T8.setTop (mkF m 32 #[rv xs] [(.int 2)])) (fun t k => XS.iconst X8.here hx rfl (hb hby d8_31) k) ?_
        exact own_retIW X8 hx hlk hS7 (own_LeT Le7 e8) I7 (by simp) hrt (hb hby d8_32) (Nat.le_of_ble_eq_true rfl) (Nat.le_of_ble_eq_true rfl) (⟨by rw [own_exp, if_neg hc3, if_neg hc6, if_pos hc9], N0, by rw [e8]; exact Kp7⟩)
      · rw [if_neg hc9]
        refine own_go (b := T8.setTop (mkF m 33 #[rv xs] [])) (fun t k => XS.ifYes X8.here hx rfl (pc0 := 28) (pc' := 33) rfl (hb hby d8_28) rfl ((if0 _ _).trans (teq (rfl : (0 : Int32) = (0 : Int32))).1) (by decide) (by decide) k) ?_
        refine own_go (b := T8.setTop (mkF m 34 #[rv xs] [(.int (-1))])) (fun t k => XS.iconst X8.here hx rfl (hb hby d8_33) k) ?_
        exact own_retIW X8 hx hlk hS7 (own_LeT Le7 e8) I7 (by simp) hrt (hb hby d8_34) (Nat.le_of_ble_eq_true rfl) (Nat.le_of_ble_eq_true rfl) (⟨by rw [own_exp, if_neg hc3, if_neg hc6, if_neg hc9], N0, by rw [e8]; exact Kp7⟩)
theorem d3_0 : decode jdk_42_method_149_code 0 = .ok (.aload_n 0, 1) := by decide +kernel
theorem d3_1 : decode jdk_42_method_149_code 1 = .ok (.invokespecial 1, 3) := by decide +kernel
theorem d3_4 : decode jdk_42_method_149_code 4 = .ok (.iload_n 3, 1) := by decide +kernel
theorem d3_5 : decode jdk_42_method_149_code 5 = .ok (.ifCond .ne 22, 3) := by decide +kernel
theorem d3_8 : decode jdk_42_method_149_code 8 = .ok (.aload_n 0, 1) := by decide +kernel
theorem d3_9 : decode jdk_42_method_149_code 9 = .ok (.ldc 7, 2) := by decide +kernel
theorem d3_11 : decode jdk_42_method_149_code 11 = .ok (.getfield 9, 3) := by decide +kernel
theorem d3_14 : decode jdk_42_method_149_code 14 = .ok (.putfield 9, 3) := by decide +kernel
theorem d3_17 : decode jdk_42_method_149_code 17 = .ok (.aload_n 0, 1) := by decide +kernel
theorem d3_18 : decode jdk_42_method_149_code 18 = .ok (.ldc 7, 2) := by decide +kernel
theorem d3_20 : decode jdk_42_method_149_code 20 = .ok (.getfield 15, 3) := by decide +kernel
theorem d3_23 : decode jdk_42_method_149_code 23 = .ok (.putfield 15, 3) := by decide +kernel
theorem d3_26 : decode jdk_42_method_149_code 26 = .ok (.return_, 1) := by decide +kernel
theorem d3_27 : decode jdk_42_method_149_code 27 = .ok (.getstatic 38, 3) := by decide +kernel
theorem d3_30 : decode jdk_42_method_149_code 30 = .ok (.ifCond .eq 28, 3) := by decide +kernel
theorem d3_33 : decode jdk_42_method_149_code 33 = .ok (.aload_n 1, 1) := by decide +kernel
theorem d3_34 : decode jdk_42_method_149_code 34 = .ok (.iload_n 2, 1) := by decide +kernel
theorem d3_35 : decode jdk_42_method_149_code 35 = .ok (.iload_n 3, 1) := by decide +kernel
theorem d3_36 : decode jdk_42_method_149_code 36 = .ok (.invokestatic 177, 3) := by decide +kernel
theorem d3_39 : decode jdk_42_method_149_code 39 = .ok (.astore 5, 2) := by decide +kernel
theorem d3_41 : decode jdk_42_method_149_code 41 = .ok (.aload_n 0, 1) := by decide +kernel
theorem d3_42 : decode jdk_42_method_149_code 42 = .ok (.aload 5, 2) := by decide +kernel
theorem d3_44 : decode jdk_42_method_149_code 44 = .ok (.iload_n 3, 1) := by decide +kernel
theorem d3_45 : decode jdk_42_method_149_code 45 = .ok (.invokestatic 47, 3) := by decide +kernel
theorem d3_48 : decode jdk_42_method_149_code 48 = .ok (.putfield 15, 3) := by decide +kernel
theorem d3_51 : decode jdk_42_method_149_code 51 = .ok (.aload_n 0, 1) := by decide +kernel
theorem d3_52 : decode jdk_42_method_149_code 52 = .ok (.aload 5, 2) := by decide +kernel
theorem d3_54 : decode jdk_42_method_149_code 54 = .ok (.putfield 9, 3) := by decide +kernel
theorem d3_57 : decode jdk_42_method_149_code 57 = .ok (.return_, 1) := by decide +kernel
theorem d3_58 : decode jdk_42_method_149_code 58 = .ok (.aload_n 0, 1) := by decide +kernel
theorem d3_59 : decode jdk_42_method_149_code 59 = .ok (.iconst 1, 1) := by decide +kernel
theorem d3_60 : decode jdk_42_method_149_code 60 = .ok (.putfield 15, 3) := by decide +kernel
theorem d3_63 : decode jdk_42_method_149_code 63 = .ok (.aload_n 0, 1) := by decide +kernel
theorem d3_64 : decode jdk_42_method_149_code 64 = .ok (.aload_n 1, 1) := by decide +kernel
theorem d3_65 : decode jdk_42_method_149_code 65 = .ok (.iload_n 2, 1) := by decide +kernel
theorem d3_66 : decode jdk_42_method_149_code 66 = .ok (.iload_n 3, 1) := by decide +kernel
theorem d3_67 : decode jdk_42_method_149_code 67 = .ok (.invokestatic 180, 3) := by decide +kernel
theorem d3_70 : decode jdk_42_method_149_code 70 = .ok (.putfield 9, 3) := by decide +kernel
theorem d3_73 : decode jdk_42_method_149_code 73 = .ok (.return_, 1) := by decide +kernel
theorem pn_1 : plainName "java/lang/String" = true := by first | (simp [plainName, overriddenIn]; done) | decide +kernel
theorem pd_1 : parseMethodDescriptor "()V" = some ⟨[], none⟩ := by decide +kernel
theorem ef_3 (m : MethodId) (tt : Addr) (aa : Addr) (of : Int32) (ln : Int32) : entryFrame m #[(.ref tt), (.ref aa), (.int of), (.int ln), .null] 6 = mkF m 0 #[rv tt, rv aa, iv of, iv ln, .val .null, .unset] [] := by first | (simp [entryFrame, mkF, argsToLocals, Value.category]; done) | rfl
def Q3 (Z : State) (tt : Addr) (aa : Addr) (of : Int32) (ln : Int32) (h0 : Heap) (n0 : Nat) (v : Option Value) (h : Heap) (L : List Loc) : Prop := v = none ∧ Fr n0 L ∧ Keep h0 h [tt] ∧ own_St Z h tt []
set_option maxRecDepth 65536 in
set_option maxHeartbeats 40000000 in
theorem rm3 (l : Launch) (Z : State) (a0 : Array Value) (hw : ∀ d ∈ tables_1, d.before a0 Z = true) (ws : List Jvm.Cond) (tt : Addr) (aa : Addr) (of : Int32) (ln : Int32) (h0 : Heap) (n0 : Nat) (Z0 : n0 ≤ h0.size) (Od : Old Z n0 h0) (Hc : ∀ q ∈ consts_1, Jvm.Lit.constHeld Z q.1 q.2) (hcw : Jvm.Lit.compactW.before a0 Z = true) (Ex : Exa Z h0 tt "java/lang/String") (F1 : Fld Z h0 tt "java/lang/String" "value" "[B" .null) (F2 : Fld Z h0 tt "java/lang/String" "coder" "B" (.int 0)) (gt : n0 ≤ tt) (hl0 : ln = (0 : Int32)) :
    MetFree l (⟨"java/lang/String", "<init>", "([CIILjava/lang/Void;)V"⟩ : MethodName) (head1 (Jvm.Cond.code (⟨"java/lang/String", "<init>", "([CIILjava/lang/Void;)V"⟩ : MethodName) jdk_42_method_149_code 6 none :: ws) ({ frames := 1, cells := 2, slots := 4, locals := 12 } : Room)) (fun a U => a = #[(.ref tt), (.ref aa), (.int of), (.int ln), .null] ∧ Z.Warmed39 U.vm ∧ U.heap = h0 ∧ IB Z U.vm ([] : List String)) (fun _ _ _ _ _ => True) (fun _ U o U' => ∃ v L, o = .returned v ∧ Q3 Z tt aa of ln h0 n0 v U'.heap L ∧ IB Z U'.vm [""] ∧ ReturnedEndW U o U' L ({ frames := 1, cells := 2, slots := 4, locals := 12 } : Room).cells ({ frames := 1, cells := 2, slots := 4, locals := 12 } : Room).slots) := by
  refine MetFree.of_bodySF (plainFor_of_name pn_1) hisR ?_
  intro p e s m args below meth c s₁ Bd hml0 hP hK
  obtain ⟨rfl, hZ, hh, I0⟩ := hP
  have hx := Bd.exec
  have hby := Bd.bytes
  have hml : c.maxLocals = 6 := hml0
  have hown : s.vm.findClass "java/lang/String" = some m.cls := findClass_of_methodNamed Bd.named
  have hnm := (name_of_methodNamed Bd.named Bd.method).1
  have hlk : meth.locks = false := Bd.notSynchronized
  have hrt := Bd.returns
  have X0 : Stand p l e ({ frames := 1, cells := 2, slots := 4, locals := 12 } : Room) s m #[(.ref tt), (.ref aa), (.int of), (.int ln), .null] below meth c s₁ [] 0 0 := Stand.of_body Bd
  have e0 : s₁.heap = h0 := by rw [← hh, Bd.state]; rfl
  have N0 := Fr.nil n0
  replace X0 : Stand p l e ({ frames := 1, cells := 2, slots := 4, locals := 12 } : Room) (s.setVm s.vm) m #[(.ref tt), (.ref aa), (.int of), (.int ln), .null] below meth c s₁ [] 0 0 := X0
  replace hZ : Z.Warmed39 (s.setVm s.vm).vm := hZ
  replace hown : (s.setVm s.vm).vm.findClass "java/lang/String" = some m.cls := hown
  have hS0 := own_since s
  have Le0 : own_Le s.heap.size h0 := Nat.le_of_eq (congrArg Array.size hh)
  show own_Endz p.tables e below (own_EndW Z s [""] ({ frames := 1, cells := 2, slots := 4, locals := 12 } : Room).cells ({ frames := 1, cells := 2, slots := 4, locals := 12 } : Room).slots (Q3 Z tt aa of ln h0 n0)) (s₁.setTop (entryFrame m #[(.ref tt), (.ref aa), (.int of), (.int ln), .null] 6))
  refine own_cast (ef_3 m tt aa of ln) ?_
  have hkeep : ∀ (b : Addr) (cl : Cell), Z.heap[b]? = some cl → s.heap[b]? = some cl := fun b cl q => by rw [hh]; exact Od.2.2 b cl q
  refine own_go (b := s₁.setTop (mkF m 1 #[rv tt, rv aa, iv of, iv ln, .val .null, .unset] [(.ref tt)])) (fun t k => XS.aloadN X0.here hx rfl (hb hby d3_0) rfl rfl k) ?_
  obtain ⟨T1, X1, e1, st1⟩ := initO X0 hx hZ hown (hw _ (List.mem_of_getElem? (i := 16) rfl)) (hw _ (List.mem_of_getElem? (i := 17) rfl)) (hw _ (List.mem_of_getElem? (i := 18) rfl)) e0 (g := (mkF m 1 #[rv tt, rv aa, iv of, iv ln, .val .null, .unset] [(.ref tt)])) rfl (by rw [hml]; rfl) rfl (hb hby d3_1) (by decide) (W := 0) (by show 2 * 0 + _ ≤ _; exact Nat.le_of_eq rfl) (by decide)
  refine own_go (b := T1.setTop (mkF m 4 #[rv tt, rv aa, iv of, iv ln, .val .null, .unset] [])) st1 ?_
  refine own_go (b := T1.setTop (mkF m 5 #[rv tt, rv aa, iv of, iv ln, .val .null, .unset] [(.int ln)])) (fun t k => XS.iloadN X1.here hx rfl (hb hby d3_4) rfl  k) ?_
  refine own_go (b := T1.setTop (mkF m 8 #[rv tt, rv aa, iv of, iv ln, .val .null, .unset] [])) (fun t k => XS.ifNo X1.here hx rfl (hb hby d3_5) rfl ((if0 _ _).trans (teq hl0).2) k) ?_
  refine own_go (b := T1.setTop (mkF m 9 #[rv tt, rv aa, iv of, iv ln, .val .null, .unset] [(.ref tt)])) (fun t k => XS.aloadN X1.here hx rfl (hb hby d3_8) rfl rfl k) ?_
  obtain ⟨ax2, T2, h2, k2, X2, e2, E2, hS2, Le2, hZ, hown, Sv2, I2, Lt2, st2⟩ := own_ldc X1 hx hZ hown (hw _ (List.mem_of_getElem? (i := 118) rfl)) (fun a ha => hw a (own_wS a ha)) e1 hS0 Le0 (Fr.nil _) hkeep I0 (by simp) (Hc _ (List.mem_of_getElem? (i := 6) rfl)) hcw (cs := []) ⟨by decide +kernel, by decide +kernel⟩ (by decide +kernel) (by decide) (g := (mkF m 9 #[rv tt, rv aa, iv of, iv ln, .val .null, .unset] [(.ref tt)])) rfl (hb hby d3_9) (n := 0) (by decide +kernel) (by decide) (by decide) (by decide)
  have Zs2 : n0 ≤ h2.size := Nat.le_trans Z0 E2.1
  have Kp2 : Keep h0 h2 [tt] := (Keep.refl h0 [tt]).ext E2
  have Ol2 := Od.ext E2
  refine own_go (b := T2.setTop (mkF m 11 #[rv tt, rv aa, iv of, iv ln, .val .null, .unset] [(.ref ax2), (.ref tt)])) st2 ?_
  obtain ⟨tb, kb, Es, Vs, Cs, Ks, -, -⟩ := id Sv2
  have nt : tt ≠ tb := Exa.neArv (Ex.ext E2) Ks (hw _ (List.mem_of_getElem? (i := 2) rfl))
  obtain ⟨T3, X3, e3, st3⟩ := getF X2 hx hZ hown (host := "") (Or.inl (hw _ (List.mem_of_getElem? (i := 33) rfl))) Via.refl e2 Vs (g := (mkF m 11 #[rv tt, rv aa, iv of, iv ln, .val .null, .unset] [(.ref ax2), (.ref tt)])) rfl rfl (hb hby d3_11)
  refine own_go (b := T3.setTop (mkF m 14 #[rv tt, rv aa, iv of, iv ln, .val .null, .unset] [(.ref tb), (.ref tt)])) st3 ?_
  obtain ⟨T4, h4, X4, e4, W4, st4⟩ := putF X3 hx hZ hown (host := "") (Or.inl (hw _ (List.mem_of_getElem? (i := 33) rfl))) Via.refl e3 (F1.ext E2) (Ex.ext E2) (Or.inr ⟨(hw _ (List.mem_of_getElem? (i := 34) rfl)), rfl, hnm⟩) (hw _ (List.mem_of_getElem? (i := 2) rfl)) (ty := (.array .byte)) (by decide) rfl rfl (g := (mkF m 14 #[rv tt, rv aa, iv of, iv ln, .val .null, .unset] [(.ref tb), (.ref tt)])) rfl rfl (hb hby d3_14)
  have Fw4 : Fld Z h4 tt "java/lang/String" "value" "[B" (.ref tb) := Fld.same W4 (F1.ext E2)
  have Zs4 : n0 ≤ h4.size := Nat.le_trans Zs2 (Keep.of_wr W4).1
  have N4 := Fr.snoc X4 N0 gt
  have Kp4 : Keep h0 h4 [tt] := Kp2.wr W4 (Or.inl (List.mem_of_getElem? (i := 0) rfl))
  have Ol4 := Ol2.wr W4 gt
  refine own_go (b := T4.setTop (mkF m 17 #[rv tt, rv aa, iv of, iv ln, .val .null, .unset] [])) st4 ?_
  have Cs2 := Cs.other W4 (Or.inr (slot_ne (Or.inr (hw _ (List.mem_of_getElem? (i := 32) rfl))) (Or.inr (hw _ (List.mem_of_getElem? (i := 34) rfl))) (by decide) (t := .byte) (t' := (.array .byte)) (by decide) (by decide)))
  have Ks2 := Ks.other W4 (Ne.symm nt)
  refine own_go (b := T4.setTop (mkF m 18 #[rv tt, rv aa, iv of, iv ln, .val .null, .unset] [(.ref tt)])) (fun t k => XS.aloadN X4.here hx rfl (hb hby d3_17) rfl rfl k) ?_
  refine own_go (b := T4.setTop (mkF m 20 #[rv tt, rv aa, iv of, iv ln, .val .null, .unset] [(.ref ax2), (.ref tt)])) (fun t k => ldcAgain X4 hx hZ hown (hw _ (List.mem_of_getElem? (i := 118) rfl)) Lt2 (g := (mkF m 18 #[rv tt, rv aa, iv of, iv ln, .val .null, .unset] [(.ref tt)])) rfl (hb hby d3_18) t k) ?_
  obtain ⟨T5, X5, e5, st5⟩ := getF X4 hx hZ hown (host := "") (Or.inl (hw _ (List.mem_of_getElem? (i := 31) rfl))) Via.refl e4 Cs2 (g := (mkF m 20 #[rv tt, rv aa, iv of, iv ln, .val .null, .unset] [(.ref ax2), (.ref tt)])) rfl rfl (hb hby d3_20)
  refine own_go (b := T5.setTop (mkF m 23 #[rv tt, rv aa, iv of, iv ln, .val .null, .unset] [(.int 0), (.ref tt)])) st5 ?_
  obtain ⟨T6, h6, X6, e6, W6, st6⟩ := putFN X5 hx hZ hown (hw _ (List.mem_of_getElem? (i := 31) rfl)) Via.refl e5 ((F2.ext E2).other W4 (Or.inr (slot_ne (Or.inr (hw _ (List.mem_of_getElem? (i := 32) rfl))) (Or.inr (hw _ (List.mem_of_getElem? (i := 34) rfl))) (by decide) (t := .byte) (t' := (.array .byte)) (by decide) (by decide)))) ((Ex.ext E2).wr W4) (Or.inr ⟨(hw _ (List.mem_of_getElem? (i := 32) rfl)), rfl, hnm⟩) (hw _ (List.mem_of_getElem? (i := 2) rfl)) (ty := .byte) (v' := (.int (nar .byte (0 : Int32)))) (by decide) rfl (fits_nar_byte _) (g := (mkF m 23 #[rv tt, rv aa, iv of, iv ln, .val .null, .unset] [(.int 0), (.ref tt)])) rfl rfl (hb hby d3_23)
  have Fw6 : Fld Z h6 tt "java/lang/String" "coder" "B" (.int (nar .byte (0 : Int32))) := Fld.same W6 ((F2.ext E2).other W4 (Or.inr (slot_ne (Or.inr (hw _ (List.mem_of_getElem? (i := 32) rfl))) (Or.inr (hw _ (List.mem_of_getElem? (i := 34) rfl))) (by decide) (t := .byte) (t' := (.array .byte)) (by decide) (by decide))))
  have Zs6 : n0 ≤ h6.size := Nat.le_trans Zs4 (Keep.of_wr W6).1
  have N6 := Fr.snoc X6 N4 gt
  have Kp6 : Keep h0 h6 [tt] := Kp4.wr W6 (Or.inl (List.mem_of_getElem? (i := 0) rfl))
  have Ol6 := Ol4.wr W6 gt
  refine own_go (b := T6.setTop (mkF m 26 #[rv tt, rv aa, iv of, iv ln, .val .null, .unset] [])) st6 ?_
  have Ks3 := Ks2.other W6 (Ne.symm nt)
  exact own_retVW X6 hx hlk hS2 (own_LeT ((Le2.wr W4).wr W6) e6) I2 (by simp) hrt (hb hby d3_26) (Nat.le_of_ble_eq_true rfl) (Nat.le_of_ble_eq_true rfl) (⟨rfl, N6, by rw [e6]; exact Kp6, by rw [e6]; exact ⟨tb, kb, (((Ex.ext E2).wr W4).wr W6), (Fw4.other W6 (Or.inr (slot_ne (Or.inr (hw _ (List.mem_of_getElem? (i := 34) rfl))) (Or.inr (hw _ (List.mem_of_getElem? (i := 32) rfl))) (by decide) (t := (.array .byte)) (t' := .byte) (by decide) (by decide)))), Fw6, Ks3, by simp, by simp⟩⟩)
theorem d2_0 : decode jdk_42_method_3_code 0 = .ok (.aload_n 0, 1) := by decide +kernel
theorem d2_1 : decode jdk_42_method_3_code 1 = .ok (.aload_n 1, 1) := by decide +kernel
theorem d2_2 : decode jdk_42_method_3_code 2 = .ok (.iconst 0, 1) := by decide +kernel
theorem d2_3 : decode jdk_42_method_3_code 3 = .ok (.aload_n 1, 1) := by decide +kernel
theorem d2_4 : decode jdk_42_method_3_code 4 = .ok (.arraylength, 1) := by decide +kernel
theorem d2_5 : decode jdk_42_method_3_code 5 = .ok (.aconst_null, 1) := by decide +kernel
theorem d2_6 : decode jdk_42_method_3_code 6 = .ok (.invokespecial 27, 3) := by decide +kernel
theorem d2_9 : decode jdk_42_method_3_code 9 = .ok (.return_, 1) := by decide +kernel
theorem pd_2 : parseMethodDescriptor "([CIILjava/lang/Void;)V" = some ⟨[(.array .char), .int, .int, (.object "java/lang/Void")], none⟩ := by decide +kernel
theorem ef_2 (m : MethodId) (tt : Addr) (aa : Addr) : entryFrame m #[(.ref tt), (.ref aa)] 2 = mkF m 0 #[rv tt, rv aa] [] := by first | (simp [entryFrame, mkF, argsToLocals, Value.category]; done) | rfl
def Q2 (Z : State) (tt : Addr) (aa : Addr) (kA : ClassId) (h0 : Heap) (n0 : Nat) (v : Option Value) (h : Heap) (L : List Loc) : Prop := v = none ∧ Fr n0 L ∧ Keep h0 h [tt] ∧ own_St Z h tt []
set_option maxRecDepth 65536 in
set_option maxHeartbeats 40000000 in
theorem rm2 (l : Launch) (Z : State) (a0 : Array Value) (hw : ∀ d ∈ tables_1, d.before a0 Z = true) (ws : List Jvm.Cond) (tt : Addr) (aa : Addr) (kA : ClassId) (h0 : Heap) (n0 : Nat) (Z0 : n0 ≤ h0.size) (Od : Old Z n0 h0) (Hc : ∀ q ∈ consts_1, Jvm.Lit.constHeld Z q.1 q.2) (hcw : Jvm.Lit.compactW.before a0 Z = true) (Ex : Exa Z h0 tt "java/lang/String") (F1 : Fld Z h0 tt "java/lang/String" "value" "[B" .null) (F2 : Fld Z h0 tt "java/lang/String" "coder" "B" (.int 0)) (gt : n0 ≤ tt) (Va : Arv Z h0 aa kA .char (0 : Int32) [] (.int (0 : Int32))) :
    MetFree l (⟨"java/lang/String", "<init>", "([C)V"⟩ : MethodName) (head1 (Jvm.Cond.code (⟨"java/lang/String", "<init>", "([C)V"⟩ : MethodName) jdk_42_method_3_code 2 none :: ws) ({ frames := 2, cells := 2, slots := 4, locals := 32 } : Room)) (fun a U => a = #[(.ref tt), (.ref aa)] ∧ Z.Warmed39 U.vm ∧ U.heap = h0 ∧ IB Z U.vm ([] : List String)) (fun _ _ _ _ _ => True) (fun _ U o U' => ∃ v L, o = .returned v ∧ Q2 Z tt aa kA h0 n0 v U'.heap L ∧ IB Z U'.vm [""] ∧ ReturnedEndW U o U' L ({ frames := 2, cells := 2, slots := 4, locals := 32 } : Room).cells ({ frames := 2, cells := 2, slots := 4, locals := 32 } : Room).slots) := by
  refine MetFree.of_bodySF (plainFor_of_name pn_1) hisR ?_
  intro p e s m args below meth c s₁ Bd hml0 hP hK
  obtain ⟨rfl, hZ, hh, I0⟩ := hP
  have hx := Bd.exec
  have hby := Bd.bytes
  have hml : c.maxLocals = 2 := hml0
  have hown : s.vm.findClass "java/lang/String" = some m.cls := findClass_of_methodNamed Bd.named
  have hnm := (name_of_methodNamed Bd.named Bd.method).1
  have hlk : meth.locks = false := Bd.notSynchronized
  have hrt := Bd.returns
  have X0 : Stand p l e ({ frames := 2, cells := 2, slots := 4, locals := 32 } : Room) s m #[(.ref tt), (.ref aa)] below meth c s₁ [] 0 0 := Stand.of_body Bd
  have e0 : s₁.heap = h0 := by rw [← hh, Bd.state]; rfl
  have N0 := Fr.nil n0
  replace X0 : Stand p l e ({ frames := 2, cells := 2, slots := 4, locals := 32 } : Room) (s.setVm s.vm) m #[(.ref tt), (.ref aa)] below meth c s₁ [] 0 0 := X0
  replace hZ : Z.Warmed39 (s.setVm s.vm).vm := hZ
  replace hown : (s.setVm s.vm).vm.findClass "java/lang/String" = some m.cls := hown
  have hS0 := own_since s
  have Le0 : own_Le s.heap.size h0 := Nat.le_of_eq (congrArg Array.size hh)
  show own_Endz p.tables e below (own_EndW Z s [""] ({ frames := 2, cells := 2, slots := 4, locals := 32 } : Room).cells ({ frames := 2, cells := 2, slots := 4, locals := 32 } : Room).slots (Q2 Z tt aa kA h0 n0)) (s₁.setTop (entryFrame m #[(.ref tt), (.ref aa)] 2))
  refine own_cast (ef_2 m tt aa) ?_
  refine own_go (b := s₁.setTop (mkF m 1 #[rv tt, rv aa] [(.ref tt)])) (fun t k => XS.aloadN X0.here hx rfl (hb hby d2_0) rfl rfl k) ?_
  refine own_go (b := s₁.setTop (mkF m 2 #[rv tt, rv aa] [(.ref aa), (.ref tt)])) (fun t k => XS.aloadN X0.here hx rfl (hb hby d2_1) rfl rfl k) ?_
  refine own_go (b := s₁.setTop (mkF m 3 #[rv tt, rv aa] [(.int 0), (.ref aa), (.ref tt)])) (fun t k => XS.iconst X0.here hx rfl (hb hby d2_2) k) ?_
  refine own_go (b := s₁.setTop (mkF m 4 #[rv tt, rv aa] [(.ref aa), (.int 0), (.ref aa), (.ref tt)])) (fun t k => XS.aloadN X0.here hx rfl (hb hby d2_3) rfl rfl k) ?_
  obtain ⟨cl1, Ar1, qc1, Sz1, Ng1, Hs1, Ft1⟩ := id Va
  refine own_go (b := s₁.setTop (mkF m 5 #[rv tt, rv aa] [(.int (cl1.slots.size.toInt32)), (.int 0), (.ref aa), (.ref tt)])) (fun t k => X0.arraylength hx (own_at e0 Ar1.1) (State.isArrayOf_alike hZ.alike Ar1.2.1) (g := (mkF m 4 #[rv tt, rv aa] [(.ref aa), (.int 0), (.ref aa), (.ref tt)])) rfl rfl (hb hby d2_4) t k) ?_
  rw [(len_of Sz1 Ng1)]
  refine own_go (b := s₁.setTop (mkF m 6 #[rv tt, rv aa] [.null, (.int 0), (.int 0), (.ref aa), (.ref tt)])) (fun t k => XS.aconstNull X0.here hx rfl (hb hby d2_5) k) ?_
  obtain ⟨_, _, ⟨T2, L2, k2, n2⟩, -, X2, hSa2, hG2, ⟨Lc2, ⟨hQ2, I2⟩, l2, y2, z2⟩, st2⟩ := X0.specialBackS hx (y := (⟨"java/lang/String", "<init>", "([CIILjava/lang/Void;)V"⟩ : MethodName)) rfl hown (mvT hZ (hw _ (List.mem_of_getElem? (i := 12) rfl))) (mvT hZ (hw _ (List.mem_of_getElem? (i := 13) rfl))) (mvT hZ (hw _ (List.mem_of_getElem? (i := 15) rfl))) (by decide) (own_backS (W := 0) (rm3 l Z a0 hw [] tt aa (0 : Int32) (0 : Int32)  h0 n0 Z0 Od Hc hcw Ex F1 F2 gt rfl) hZ (own_IBm (Te := ([] : List String)) I0 rfl (by simp)) (hw _ (List.mem_of_getElem? (i := 15) rfl)) (hw _ (List.mem_of_getElem? (i := 3) rfl)) (by decide) (by decide)) (g := (mkF m 6 #[rv tt, rv aa] [.null, (.int 0), (.int 0), (.ref aa), (.ref tt)])) rfl (by rw [hml]; rfl) (Steps.refl _) (a := tt) (argsL := [(.ref aa), (.int 0), (.int 0), .null]) (rest := []) (lenOf pd_2 rfl) rfl (by show 2 * 0 + _ ≤ _; exact Nat.le_of_eq rfl) (hb hby d2_6) (fun _ _ => ⟨rfl, e0, (by decide : 0 + 2 ≤ _), (by decide : 0 + 4 ≤ _)⟩)
  dsimp only [Pt.U, Pt.locs, Pt.cells, Pt.slots] at X2 l2 y2 z2 st2 hQ2 hSa2 hG2 I2
  subst l2 y2 z2
  obtain ⟨hS2, hZ, hown⟩ := own_reb hS0 (own_LeT Le0 e0) hSa2 hG2 hZ hown
  have Le2 : own_Le T2.heap.size T2.heap := Nat.le_refl _
  obtain ⟨rfl, N2q, K2, Sz2⟩ := hQ2
  have Zs2 : n0 ≤ T2.heap.size := Nat.le_trans Z0 K2.1
  have N2 := Fr.app N0 N2q
  have Kp2 : Keep h0 T2.heap [tt] := (Keep.refl h0 [tt]).trans K2 (by intro x hx; simp only [List.mem_cons, List.not_mem_nil, or_false] at hx; rcases hx with rfl <;> first | exact Or.inr (by assumption) | exact Or.inl (by simp))
  have Ol2 := Od.keep K2 (allS gt all0)
  obtain ⟨lq2, X2, N2⟩ : ∃ lq, Stand p l e ({ frames := 2, cells := 2, slots := 4, locals := 32 } : Room) (s.setVm T2.vm) m #[(.ref tt), (.ref aa)] below meth c T2 lq 2 4 ∧ Fr n0 lq := ⟨_, X2, N2⟩
  refine own_tr (b := T2.setTop (mkF m 9 #[rv tt, rv aa] [])) st2 ?_
  exact own_retVW X2 hx hlk hS2 (own_LeT Le2 rfl) I2 (by simp) hrt (hb hby d2_9) (Nat.le_of_ble_eq_true rfl) (Nat.le_of_ble_eq_true rfl) (⟨rfl, N2, Kp2, Sz2⟩)
theorem d14_0 : decode jdk_31_method_10_code 0 = .ok (.aload_n 0, 1) := by decide +kernel
theorem d14_1 : decode jdk_31_method_10_code 1 = .ok (.ifnonnull 11, 3) := by decide +kernel
theorem d14_4 : decode jdk_31_method_10_code 4 = .ok (.new 84, 3) := by decide +kernel
theorem d14_7 : decode jdk_31_method_10_code 7 = .ok (.dup, 1) := by decide +kernel
theorem d14_8 : decode jdk_31_method_10_code 8 = .ok (.invokespecial 86, 3) := by decide +kernel
theorem d14_11 : decode jdk_31_method_10_code 11 = .ok (.athrow, 1) := by decide +kernel
theorem d14_12 : decode jdk_31_method_10_code 12 = .ok (.aload_n 0, 1) := by decide +kernel
theorem d14_13 : decode jdk_31_method_10_code 13 = .ok (.areturn, 1) := by decide +kernel
theorem pn_2 : plainName "java/util/Objects" = true := by first | (simp [plainName, overriddenIn]; done) | decide +kernel
theorem ef_14 (m : MethodId) (oo : Addr) : entryFrame m #[(.ref oo)] 1 = mkF m 0 #[rv oo] [] := by first | (simp [entryFrame, mkF, argsToLocals, Value.category]; done) | rfl
def Q14 (Z : State) (oo : Addr) (h0 : Heap) (n0 : Nat) (v : Option Value) (h : Heap) (L : List Loc) : Prop := v = some (.ref oo) ∧ Fr n0 L ∧ h = h0
set_option maxRecDepth 65536 in
set_option maxHeartbeats 40000000 in
theorem rm14 (l : Launch) (Z : State) (a0 : Array Value) (hw : ∀ d ∈ tables_1, d.before a0 Z = true) (ws : List Jvm.Cond) (oo : Addr) (h0 : Heap) (n0 : Nat) (Z0 : n0 ≤ h0.size) :
    MetFree l (⟨"java/util/Objects", "requireNonNull", "(Ljava/lang/Object;)Ljava/lang/Object;"⟩ : MethodName) (head1 (Jvm.Cond.code (⟨"java/util/Objects", "requireNonNull", "(Ljava/lang/Object;)Ljava/lang/Object;"⟩ : MethodName) jdk_31_method_10_code 1 (some (.object "java/lang/Object")) :: ws) ({ frames := 0, cells := 0, slots := 0, locals := 0 } : Room)) (fun a U => a = #[(.ref oo)] ∧ Z.Warmed39 U.vm ∧ U.heap = h0) (fun _ _ _ _ _ => True) (fun _ U o U' => ∃ v L, o = .returned v ∧ Q14 Z oo h0 n0 v U'.heap L ∧ FrameEnd U o U' L ({ frames := 0, cells := 0, slots := 0, locals := 0 } : Room).cells ({ frames := 0, cells := 0, slots := 0, locals := 0 } : Room).slots) := by
  refine MetFree.of_bodySF (plainFor_of_name pn_2) hisR ?_
  intro p e s m args below meth c s₁ Bd hml0 hP hK
  obtain ⟨rfl, hZ, hh⟩ := hP
  have hx := Bd.exec
  have hby := Bd.bytes
  have hml : c.maxLocals = 1 := hml0
  have hown : s.vm.findClass "java/util/Objects" = some m.cls := findClass_of_methodNamed Bd.named
  have hnm := (name_of_methodNamed Bd.named Bd.method).1
  have hlk : meth.locks = false := Bd.notSynchronized
  have hrt := Bd.returns
  have X0 : Stand p l e ({ frames := 0, cells := 0, slots := 0, locals := 0 } : Room) s m #[(.ref oo)] below meth c s₁ [] 0 0 := Stand.of_body Bd
  have e0 : s₁.heap = h0 := by rw [← hh, Bd.state]; rfl
  have N0 := Fr.nil n0
  show own_Endz p.tables e below (own_EndQ s ({ frames := 0, cells := 0, slots := 0, locals := 0 } : Room).cells ({ frames := 0, cells := 0, slots := 0, locals := 0 } : Room).slots (Q14 Z oo h0 n0)) (s₁.setTop (entryFrame m #[(.ref oo)] 1))
  refine own_cast (ef_14 m oo) ?_
  refine own_go (b := s₁.setTop (mkF m 1 #[rv oo] [(.ref oo)])) (fun t k => XS.aloadN X0.here hx rfl (hb hby d14_0) rfl rfl k) ?_
  refine own_go (b := s₁.setTop (mkF m 12 #[rv oo] [])) (fun t k => XS.ifnonnullYes X0.here hx rfl (pc0 := 1) (pc' := 12) rfl (hb hby d14_1) rfl (by decide) (by decide) k) ?_
  refine own_go (b := s₁.setTop (mkF m 13 #[rv oo] [(.ref oo)])) (fun t k => XS.aloadN X0.here hx rfl (hb hby d14_12) rfl rfl k) ?_
  exact own_retA X0 hx hlk hrt rfl rfl (hb hby d14_13) (Nat.le_of_ble_eq_true rfl) (Nat.le_of_ble_eq_true rfl) (⟨by first | rfl | (simp only [if_true, if_true, if_false]; done) | (simp only [if_true, if_true, if_false]; rfl) | (simp []; done) | (simp []; rfl), N0, e0⟩)
theorem d15_0 : decode jdk_32_method_2_code 0 = .ok (.aload_n 0, 1) := by decide +kernel
theorem d15_1 : decode jdk_32_method_2_code 1 = .ok (.invokespecial 7, 3) := by decide +kernel
theorem d15_4 : decode jdk_32_method_2_code 4 = .ok (.aload_n 0, 1) := by decide +kernel
theorem d15_5 : decode jdk_32_method_2_code 5 = .ok (.aload_n 1, 1) := by decide +kernel
theorem d15_6 : decode jdk_32_method_2_code 6 = .ok (.putfield 13, 3) := by decide +kernel
theorem d15_9 : decode jdk_32_method_2_code 9 = .ok (.return_, 1) := by decide +kernel
theorem pn_3 : plainName "java/util/Optional" = true := by first | (simp [plainName, overriddenIn]; done) | decide +kernel
theorem ef_15 (m : MethodId) (tt : Addr) (oo : Addr) : entryFrame m #[(.ref tt), (.ref oo)] 2 = mkF m 0 #[rv tt, rv oo] [] := by first | (simp [entryFrame, mkF, argsToLocals, Value.category]; done) | rfl
def Q15 (Z : State) (tt : Addr) (oo : Addr) (h0 : Heap) (n0 : Nat) (v : Option Value) (h : Heap) (L : List Loc) : Prop := v = none ∧ Fr n0 L ∧ Keep h0 h [tt] ∧ Exa Z h tt "java/util/Optional" ∧ Fld Z h tt "java/util/Optional" "value" "Ljava/lang/Object;" (.ref oo)
set_option maxRecDepth 65536 in
set_option maxHeartbeats 40000000 in
theorem rm15 (l : Launch) (Z : State) (a0 : Array Value) (hw : ∀ d ∈ tables_1, d.before a0 Z = true) (ws : List Jvm.Cond) (tt : Addr) (oo : Addr) (h0 : Heap) (n0 : Nat) (Z0 : n0 ≤ h0.size) (Ex : Exa Z h0 tt "java/util/Optional") (F1 : Fld Z h0 tt "java/util/Optional" "value" "Ljava/lang/Object;" .null) (gt : n0 ≤ tt) :
    MetFree l (⟨"java/util/Optional", "<init>", "(Ljava/lang/Object;)V"⟩ : MethodName) (head1 (Jvm.Cond.code (⟨"java/util/Optional", "<init>", "(Ljava/lang/Object;)V"⟩ : MethodName) jdk_32_method_2_code 2 none :: ws) ({ frames := 1, cells := 0, slots := 0, locals := 12 } : Room)) (fun a U => a = #[(.ref tt), (.ref oo)] ∧ Z.Warmed39 U.vm ∧ U.heap = h0) (fun _ _ _ _ _ => True) (fun _ U o U' => ∃ v L, o = .returned v ∧ Q15 Z tt oo h0 n0 v U'.heap L ∧ FrameEnd U o U' L ({ frames := 1, cells := 0, slots := 0, locals := 12 } : Room).cells ({ frames := 1, cells := 0, slots := 0, locals := 12 } : Room).slots) := by
  refine MetFree.of_bodySF (plainFor_of_name pn_3) hisR ?_
  intro p e s m args below meth c s₁ Bd hml0 hP hK
  obtain ⟨rfl, hZ, hh⟩ := hP
  have hx := Bd.exec
  have hby := Bd.bytes
  have hml : c.maxLocals = 2 := hml0
  have hown : s.vm.findClass "java/util/Optional" = some m.cls := findClass_of_methodNamed Bd.named
  have hnm := (name_of_methodNamed Bd.named Bd.method).1
  have hlk : meth.locks = false := Bd.notSynchronized
  have hrt := Bd.returns
  have X0 : Stand p l e ({ frames := 1, cells := 0, slots := 0, locals := 12 } : Room) s m #[(.ref tt), (.ref oo)] below meth c s₁ [] 0 0 := Stand.of_body Bd
  have e0 : s₁.heap = h0 := by rw [← hh, Bd.state]; rfl
  have N0 := Fr.nil n0
  show own_Endz p.tables e below (own_EndQ s ({ frames := 1, cells := 0, slots := 0, locals := 12 } : Room).cells ({ frames := 1, cells := 0, slots := 0, locals := 12 } : Room).slots (Q15 Z tt oo h0 n0)) (s₁.setTop (entryFrame m #[(.ref tt), (.ref oo)] 2))
  refine own_cast (ef_15 m tt oo) ?_
  refine own_go (b := s₁.setTop (mkF m 1 #[rv tt, rv oo] [(.ref tt)])) (fun t k => XS.aloadN X0.here hx rfl (hb hby d15_0) rfl rfl k) ?_
  obtain ⟨T1, X1, e1, st1⟩ := initO X0 hx hZ hown (hw _ (List.mem_of_getElem? (i := 90) rfl)) (hw _ (List.mem_of_getElem? (i := 17) rfl)) (hw _ (List.mem_of_getElem? (i := 18) rfl)) e0 (g := (mkF m 1 #[rv tt, rv oo] [(.ref tt)])) rfl (by rw [hml]; rfl) rfl (hb hby d15_1) (by decide) (W := 0) (by show 2 * 0 + _ ≤ _; exact Nat.le_of_eq rfl) (by decide)
  refine own_go (b := T1.setTop (mkF m 4 #[rv tt, rv oo] [])) st1 ?_
  refine own_go (b := T1.setTop (mkF m 5 #[rv tt, rv oo] [(.ref tt)])) (fun t k => XS.aloadN X1.here hx rfl (hb hby d15_4) rfl rfl k) ?_
  refine own_go (b := T1.setTop (mkF m 6 #[rv tt, rv oo] [(.ref oo), (.ref tt)])) (fun t k => XS.aloadN X1.here hx rfl (hb hby d15_5) rfl rfl k) ?_
  obtain ⟨T2, h2, X2, e2, W2, st2⟩ := putF X1 hx hZ hown (host := "") (Or.inl (hw _ (List.mem_of_getElem? (i := 91) rfl))) Via.refl e1 F1 Ex (Or.inr ⟨(hw _ (List.mem_of_getElem? (i := 92) rfl)), rfl, hnm⟩) (hw _ (List.mem_of_getElem? (i := 81) rfl)) (ty := (.object "java/lang/Object")) (by decide) rfl rfl (g := (mkF m 6 #[rv tt, rv oo] [(.ref oo), (.ref tt)])) rfl rfl (hb hby d15_6)
  have Fw2 : Fld Z h2 tt "java/util/Optional" "value" "Ljava/lang/Object;" (.ref oo) := Fld.same W2 F1
  have Zs2 : n0 ≤ h2.size := Nat.le_trans Z0 (Keep.of_wr W2).1
  have N2 := Fr.snoc X2 N0 gt
  have Kp2 : Keep h0 h2 [tt] := (Keep.refl h0 [tt]).wr W2 (Or.inl (List.mem_of_getElem? (i := 0) rfl))
  refine own_go (b := T2.setTop (mkF m 9 #[rv tt, rv oo] [])) st2 ?_
  exact own_retV X2 hx hlk hrt (hb hby d15_9) (Nat.le_of_ble_eq_true rfl) (Nat.le_of_ble_eq_true rfl) (⟨rfl, N2, by rw [e2]; exact Kp2, by rw [e2]; exact (Ex.wr W2), by rw [e2]; exact Fw2⟩)
theorem d13_0 : decode jdk_32_method_3_code 0 = .ok (.new 2, 3) := by decide +kernel
theorem d13_3 : decode jdk_32_method_3_code 3 = .ok (.dup, 1) := by decide +kernel
theorem d13_4 : decode jdk_32_method_3_code 4 = .ok (.aload_n 0, 1) := by decide +kernel
theorem d13_5 : decode jdk_32_method_3_code 5 = .ok (.invokestatic 17, 3) := by decide +kernel
theorem d13_8 : decode jdk_32_method_3_code 8 = .ok (.invokespecial 23, 3) := by decide +kernel
theorem d13_11 : decode jdk_32_method_3_code 11 = .ok (.areturn, 1) := by decide +kernel
theorem pd_3 : parseMethodDescriptor "(Ljava/lang/Object;)Ljava/lang/Object;" = some ⟨[(.object "java/lang/Object")], some (.object "java/lang/Object")⟩ := by decide +kernel
theorem pd_4 : parseMethodDescriptor "(Ljava/lang/Object;)V" = some ⟨[(.object "java/lang/Object")], none⟩ := by decide +kernel
theorem ef_13 (m : MethodId) (oo : Addr) : entryFrame m #[(.ref oo)] 1 = mkF m 0 #[rv oo] [] := by first | (simp [entryFrame, mkF, argsToLocals, Value.category]; done) | rfl
def Q13 (Z : State) (oo : Addr) (h0 : Heap) (n0 : Nat) (v : Option Value) (h : Heap) (L : List Loc) : Prop := ∃ r, v = some (.ref r) ∧ Fr n0 L ∧ Keep h0 h [] ∧ Exa Z h r "java/util/Optional" ∧ Fld Z h r "java/util/Optional" "value" "Ljava/lang/Object;" (.ref oo)
set_option maxRecDepth 65536 in
set_option maxHeartbeats 40000000 in
theorem rm13 (l : Launch) (Z : State) (a0 : Array Value) (hw : ∀ d ∈ tables_1, d.before a0 Z = true) (ws : List Jvm.Cond) (oo : Addr) (h0 : Heap) (n0 : Nat) (Z0 : n0 ≤ h0.size) :
    MetFree l (⟨"java/util/Optional", "of", "(Ljava/lang/Object;)Ljava/util/Optional;"⟩ : MethodName) (head1 (Jvm.Cond.code (⟨"java/util/Optional", "of", "(Ljava/lang/Object;)Ljava/util/Optional;"⟩ : MethodName) jdk_32_method_3_code 1 (some (.object "java/util/Optional")) :: ws) ({ frames := 2, cells := 1, slots := 1, locals := 26 } : Room)) (fun a U => a = #[(.ref oo)] ∧ Z.Warmed39 U.vm ∧ U.heap = h0) (fun _ _ _ _ _ => True) (fun _ U o U' => ∃ v L, o = .returned v ∧ Q13 Z oo h0 n0 v U'.heap L ∧ FrameEnd U o U' L ({ frames := 2, cells := 1, slots := 1, locals := 26 } : Room).cells ({ frames := 2, cells := 1, slots := 1, locals := 26 } : Room).slots) := by
  refine MetFree.of_bodySF (plainFor_of_name pn_3) hisR ?_
  intro p e s m args below meth c s₁ Bd hml0 hP hK
  obtain ⟨rfl, hZ, hh⟩ := hP
  have hx := Bd.exec
  have hby := Bd.bytes
  have hml : c.maxLocals = 1 := hml0
  have hown : s.vm.findClass "java/util/Optional" = some m.cls := findClass_of_methodNamed Bd.named
  have hnm := (name_of_methodNamed Bd.named Bd.method).1
  have hlk : meth.locks = false := Bd.notSynchronized
  have hrt := Bd.returns
  have X0 : Stand p l e ({ frames := 2, cells := 1, slots := 1, locals := 26 } : Room) s m #[(.ref oo)] below meth c s₁ [] 0 0 := Stand.of_body Bd
  have e0 : s₁.heap = h0 := by rw [← hh, Bd.state]; rfl
  have N0 := Fr.nil n0
  show own_Endz p.tables e below (own_EndQ s ({ frames := 2, cells := 1, slots := 1, locals := 26 } : Room).cells ({ frames := 2, cells := 1, slots := 1, locals := 26 } : Room).slots (Q13 Z oo h0 n0)) (s₁.setTop (entryFrame m #[(.ref oo)] 1))
  refine own_cast (ef_13 m oo) ?_
  obtain ⟨T1, h1, X1, e1, E1, A1, D1, -, st1⟩ := newO X0 hx hZ hown (hw _ (List.mem_of_getElem? (i := 80) rfl)) (hw _ (List.mem_of_getElem? (i := 81) rfl)) (hw _ (List.mem_of_getElem? (i := 78) rfl)) e0 (g := (mkF m 0 #[rv oo] [])) rfl (hb hby d13_0) (by decide) (by decide)
  obtain ⟨b1, g1⟩ : ∃ z, z = h0.size := ⟨_, rfl⟩
  rw [← g1] at A1 D1 st1
  have g_b1 : n0 ≤ b1 := Nat.le_trans Z0 (Nat.le_of_eq g1.symm)
  have sz_b1 : h0.size ≤ b1 := Nat.le_trans (Keep.refl h0 []).1 (Nat.le_of_eq g1.symm)
  have Zs1 : n0 ≤ h1.size := Nat.le_trans Z0 E1.1
  have Kp1 : Keep h0 h1 [] := (Keep.refl h0 []).ext E1
  have F_value_b1 : Fld Z h1 b1 "java/util/Optional" "value" "Ljava/lang/Object;" .null := D1 (Or.inr (hw _ (List.mem_of_getElem? (i := 92) rfl))) (ty := (.object "java/lang/Object")) (by decide)
  refine own_go (b := T1.setTop (mkF m 3 #[rv oo] [(.ref b1)])) st1 ?_
  refine own_go (b := T1.setTop (mkF m 4 #[rv oo] [(.ref b1), (.ref b1)])) (fun t k => XS.dup X1.here hx rfl (hb hby d13_3) rfl rfl k) ?_
  refine own_go (b := T1.setTop (mkF m 5 #[rv oo] [(.ref oo), (.ref b1), (.ref b1)])) (fun t k => XS.aloadN X1.here hx rfl (hb hby d13_4) rfl rfl k) ?_
  obtain ⟨_, _, ⟨T2, L2, k2, n2⟩, -, X2, ⟨Lc2, hQ2, l2, y2, z2⟩, st2⟩ := Jvm.LawKit.callS X1 hx (y := (⟨"java/util/Objects", "requireNonNull", "(Ljava/lang/Object;)Ljava/lang/Object;"⟩ : MethodName)) hown (mvT hZ (hw _ (List.mem_of_getElem? (i := 82) rfl))) (mvT hZ (hw _ (List.mem_of_getElem? (i := 83) rfl))) (mvT hZ (hw _ (List.mem_of_getElem? (i := 84) rfl))) (mvT hZ (hw _ (List.mem_of_getElem? (i := 85) rfl))) (by decide) (backOf (W := 2) (rm14 l Z a0 hw [] oo  h1 n0 Zs1 ) hZ (hw _ (List.mem_of_getElem? (i := 85) rfl)) (hw _ (List.mem_of_getElem? (i := 84) rfl)) (by decide) (by decide)) (g := (mkF m 5 #[rv oo] [(.ref oo), (.ref b1), (.ref b1)])) rfl (by rw [hml]; rfl) (argsL := [(.ref oo)]) (rest := [(.ref b1), (.ref b1)]) (lenOf pd_3 rfl) rfl (by show 2 * 0 + _ ≤ _; exact Nat.le_of_eq rfl) (hb hby d13_5) (fun _ _ => ⟨rfl, e1, (by decide : 1 + 0 ≤ _), (by decide : 1 + 0 ≤ _)⟩)
  dsimp only [Pt.U, Pt.locs, Pt.cells, Pt.slots] at X2 l2 y2 z2 st2 hQ2
  subst l2 y2 z2
  obtain ⟨rfl, N2q, e2⟩ := hQ2
  have N2 := Fr.app N0 N2q
  obtain ⟨lq2, X2, N2⟩ : ∃ lq, Stand p l e ({ frames := 2, cells := 1, slots := 1, locals := 26 } : Room) s m #[(.ref oo)] below meth c T2 lq 1 1 ∧ Fr n0 lq := ⟨_, X2, N2⟩
  refine own_go (b := T2.setTop (mkF m 8 #[rv oo] [(.ref oo), (.ref b1), (.ref b1)])) st2 ?_
  obtain ⟨_, _, ⟨T3, L3, k3, n3⟩, -, X3, ⟨Lc3, hQ3, l3, y3, z3⟩, st3⟩ := X2.specialBack hx (y := (⟨"java/util/Optional", "<init>", "(Ljava/lang/Object;)V"⟩ : MethodName)) rfl hown (mvT hZ (hw _ (List.mem_of_getElem? (i := 86) rfl))) (mvT hZ (hw _ (List.mem_of_getElem? (i := 87) rfl))) (mvT hZ (hw _ (List.mem_of_getElem? (i := 89) rfl))) (by decide) (backOf (W := 1) (rm15 l Z a0 hw [] b1 oo  h1 n0 Zs1 A1 F_value_b1 g_b1) hZ (hw _ (List.mem_of_getElem? (i := 89) rfl)) (hw _ (List.mem_of_getElem? (i := 78) rfl)) (by decide) (by decide)) (g := (mkF m 8 #[rv oo] [(.ref oo), (.ref b1), (.ref b1)])) rfl (by rw [hml]; rfl) (Steps.refl _) (a := b1) (argsL := [(.ref oo)]) (rest := [(.ref b1)]) (lenOf pd_4 rfl) rfl (by show 2 * 0 + _ ≤ _; exact Nat.le_of_eq rfl) (hb hby d13_8) (fun _ _ => ⟨rfl, e2, (by decide : 1 + 0 ≤ _), (by decide : 1 + 0 ≤ _)⟩)
  dsimp only [Pt.U, Pt.locs, Pt.cells, Pt.slots] at X3 l3 y3 z3 st3 hQ3
  subst l3 y3 z3
  obtain ⟨rfl, N3q, K3, Ek3, Fk3⟩ := hQ3
  have Zs3 : n0 ≤ T3.heap.size := Nat.le_trans Zs1 K3.1
  have N3 := Fr.app N2 N3q
  have Kp3 : Keep h0 T3.heap [] := Kp1.trans K3 (by intro x hx; simp only [List.mem_cons, List.not_mem_nil, or_false] at hx; rcases hx with rfl <;> first | exact Or.inr (by assumption) | exact Or.inl (by simp))
  obtain ⟨lq3, X3, N3⟩ : ∃ lq, Stand p l e ({ frames := 2, cells := 1, slots := 1, locals := 26 } : Room) s m #[(.ref oo)] below meth c T3 lq 1 1 ∧ Fr n0 lq := ⟨_, X3, N3⟩
  refine own_tr (b := T3.setTop (mkF m 11 #[rv oo] [(.ref b1)])) st3 ?_
  exact own_retA X3 hx hlk hrt rfl rfl (hb hby d13_11) (Nat.le_of_ble_eq_true rfl) (Nat.le_of_ble_eq_true rfl) (⟨_, rfl, N3, Kp3, Ek3, Fk3⟩)
theorem d16_0 : decode jdk_32_method_6_code 0 = .ok (.aload_n 0, 1) := by decide +kernel
theorem d16_1 : decode jdk_32_method_6_code 1 = .ok (.getfield 13, 3) := by decide +kernel
theorem d16_4 : decode jdk_32_method_6_code 4 = .ok (.ifnull 7, 3) := by decide +kernel
theorem d16_7 : decode jdk_32_method_6_code 7 = .ok (.iconst 1, 1) := by decide +kernel
theorem d16_8 : decode jdk_32_method_6_code 8 = .ok (.goto 4, 3) := by decide +kernel
theorem d16_11 : decode jdk_32_method_6_code 11 = .ok (.iconst 0, 1) := by decide +kernel
theorem d16_12 : decode jdk_32_method_6_code 12 = .ok (.ireturn, 1) := by decide +kernel
theorem ef_16n (m : MethodId) (oo : Addr) : entryFrame m #[(.ref oo)] 1 = mkF m 0 #[rv oo] [] := by first | (simp [entryFrame, mkF, argsToLocals, Value.category]; done) | rfl
def Q16n (Z : State) (oo : Addr) (h0 : Heap) (n0 : Nat) (v : Option Value) (h : Heap) (L : List Loc) : Prop := v = some (.int 0) ∧ Fr n0 L ∧ h = h0
set_option maxRecDepth 65536 in
set_option maxHeartbeats 40000000 in
theorem rm16n (l : Launch) (Z : State) (a0 : Array Value) (hw : ∀ d ∈ tables_1, d.before a0 Z = true) (ws : List Jvm.Cond) (oo : Addr) (h0 : Heap) (n0 : Nat) (Z0 : n0 ≤ h0.size) (Fv : Fld Z h0 oo "java/util/Optional" "value" "Ljava/lang/Object;" .null) :
    MetFree l (⟨"java/util/Optional", "isPresent", "()Z"⟩ : MethodName) (head1 (Jvm.Cond.code (⟨"java/util/Optional", "isPresent", "()Z"⟩ : MethodName) jdk_32_method_6_code 1 (some .boolean) :: ws) ({ frames := 0, cells := 0, slots := 0, locals := 0 } : Room)) (fun a U => a = #[(.ref oo)] ∧ Z.Warmed39 U.vm ∧ U.heap = h0) (fun _ _ _ _ _ => True) (fun _ U o U' => ∃ v L, o = .returned v ∧ Q16n Z oo h0 n0 v U'.heap L ∧ FrameEnd U o U' L ({ frames := 0, cells := 0, slots := 0, locals := 0 } : Room).cells ({ frames := 0, cells := 0, slots := 0, locals := 0 } : Room).slots) := by
  refine MetFree.of_bodySF (plainFor_of_name pn_3) hisR ?_
  intro p e s m args below meth c s₁ Bd hml0 hP hK
  obtain ⟨rfl, hZ, hh⟩ := hP
  have hx := Bd.exec
  have hby := Bd.bytes
  have hml : c.maxLocals = 1 := hml0
  have hown : s.vm.findClass "java/util/Optional" = some m.cls := findClass_of_methodNamed Bd.named
  have hnm := (name_of_methodNamed Bd.named Bd.method).1
  have hlk : meth.locks = false := Bd.notSynchronized
  have hrt := Bd.returns
  have X0 : Stand p l e ({ frames := 0, cells := 0, slots := 0, locals := 0 } : Room) s m #[(.ref oo)] below meth c s₁ [] 0 0 := Stand.of_body Bd
  have e0 : s₁.heap = h0 := by rw [← hh, Bd.state]; rfl
  have N0 := Fr.nil n0
  show own_Endz p.tables e below (own_EndQ s ({ frames := 0, cells := 0, slots := 0, locals := 0 } : Room).cells ({ frames := 0, cells := 0, slots := 0, locals := 0 } : Room).slots (Q16n Z oo h0 n0)) (s₁.setTop (entryFrame m #[(.ref oo)] 1))
  refine own_cast (ef_16n m oo) ?_
  refine own_go (b := s₁.setTop (mkF m 1 #[rv oo] [(.ref oo)])) (fun t k => XS.aloadN X0.here hx rfl (hb hby d16_0) rfl rfl k) ?_
  obtain ⟨T1, X1, e1, st1⟩ := getF X0 hx hZ hown (host := "") (Or.inl (hw _ (List.mem_of_getElem? (i := 91) rfl))) Via.refl e0 Fv (g := (mkF m 1 #[rv oo] [(.ref oo)])) rfl rfl (hb hby d16_1)
  refine own_go (b := T1.setTop (mkF m 4 #[rv oo] [.null])) st1 ?_
  refine own_go (b := T1.setTop (mkF m 11 #[rv oo] [])) (fun t k => XS.ifnullYes X1.here hx rfl (pc0 := 4) (pc' := 11) rfl (hb hby d16_4) rfl (by decide) (by decide) k) ?_
  refine own_go (b := T1.setTop (mkF m 12 #[rv oo] [(.int 0)])) (fun t k => XS.iconst X1.here hx rfl (hb hby d16_11) k) ?_
  exact own_retN X1 hx hlk (t := .boolean) hrt (by simp) (hb hby d16_12) (Nat.le_of_ble_eq_true rfl) (Nat.le_of_ble_eq_true rfl) (⟨by first | rfl | (simp only [nar, if_true, if_false]; done) | (simp only [nar, if_true, if_false]; rfl) | (simp [nar]; done) | (simp [nar]; rfl), N0, e1⟩)
theorem ef_16v (m : MethodId) (oo : Addr) : entryFrame m #[(.ref oo)] 1 = mkF m 0 #[rv oo] [] := by first | (simp [entryFrame, mkF, argsToLocals, Value.category]; done) | rfl
def Q16v (Z : State) (oo : Addr) (vv : Addr) (h0 : Heap) (n0 : Nat) (v : Option Value) (h : Heap) (L : List Loc) : Prop := v = some (.int 1) ∧ Fr n0 L ∧ h = h0
set_option maxRecDepth 65536 in
set_option maxHeartbeats 40000000 in
theorem rm16v (l : Launch) (Z : State) (a0 : Array Value) (hw : ∀ d ∈ tables_1, d.before a0 Z = true) (ws : List Jvm.Cond) (oo : Addr) (vv : Addr) (h0 : Heap) (n0 : Nat) (Z0 : n0 ≤ h0.size) (Fv : Fld Z h0 oo "java/util/Optional" "value" "Ljava/lang/Object;" (.ref vv)) :
    MetFree l (⟨"java/util/Optional", "isPresent", "()Z"⟩ : MethodName) (head1 (Jvm.Cond.code (⟨"java/util/Optional", "isPresent", "()Z"⟩ : MethodName) jdk_32_method_6_code 1 (some .boolean) :: ws) ({ frames := 0, cells := 0, slots := 0, locals := 0 } : Room)) (fun a U => a = #[(.ref oo)] ∧ Z.Warmed39 U.vm ∧ U.heap = h0) (fun _ _ _ _ _ => True) (fun _ U o U' => ∃ v L, o = .returned v ∧ Q16v Z oo vv h0 n0 v U'.heap L ∧ FrameEnd U o U' L ({ frames := 0, cells := 0, slots := 0, locals := 0 } : Room).cells ({ frames := 0, cells := 0, slots := 0, locals := 0 } : Room).slots) := by
  refine MetFree.of_bodySF (plainFor_of_name pn_3) hisR ?_
  intro p e s m args below meth c s₁ Bd hml0 hP hK
  obtain ⟨rfl, hZ, hh⟩ := hP
  have hx := Bd.exec
  have hby := Bd.bytes
  have hml : c.maxLocals = 1 := hml0
  have hown : s.vm.findClass "java/util/Optional" = some m.cls := findClass_of_methodNamed Bd.named
  have hnm := (name_of_methodNamed Bd.named Bd.method).1
  have hlk : meth.locks = false := Bd.notSynchronized
  have hrt := Bd.returns
  have X0 : Stand p l e ({ frames := 0, cells := 0, slots := 0, locals := 0 } : Room) s m #[(.ref oo)] below meth c s₁ [] 0 0 := Stand.of_body Bd
  have e0 : s₁.heap = h0 := by rw [← hh, Bd.state]; rfl
  have N0 := Fr.nil n0
  show own_Endz p.tables e below (own_EndQ s ({ frames := 0, cells := 0, slots := 0, locals := 0 } : Room).cells ({ frames := 0, cells := 0, slots := 0, locals := 0 } : Room).slots (Q16v Z oo vv h0 n0)) (s₁.setTop (entryFrame m #[(.ref oo)] 1))
  refine own_cast (ef_16v m oo) ?_
  refine own_go (b := s₁.setTop (mkF m 1 #[rv oo] [(.ref oo)])) (fun t k => XS.aloadN X0.here hx rfl (hb hby d16_0) rfl rfl k) ?_
  obtain ⟨T1, X1, e1, st1⟩ := getF X0 hx hZ hown (host := "") (Or.inl (hw _ (List.mem_of_getElem? (i := 91) rfl))) Via.refl e0 Fv (g := (mkF m 1 #[rv oo] [(.ref oo)])) rfl rfl (hb hby d16_1)
  refine own_go (b := T1.setTop (mkF m 4 #[rv oo] [(.ref vv)])) st1 ?_
  refine own_go (b := T1.setTop (mkF m 7 #[rv oo] [])) (fun t k => XS.ifnullNo X1.here hx rfl (hb hby d16_4) rfl k) ?_
  refine own_go (b := T1.setTop (mkF m 8 #[rv oo] [(.int 1)])) (fun t k => XS.iconst X1.here hx rfl (hb hby d16_7) k) ?_
  refine own_go (b := T1.setTop (mkF m 12 #[rv oo] [(.int 1)])) (fun t k => XS.goto X1.here hx rfl (pc0 := 8) (pc' := 12) rfl (hb hby d16_8) (by decide) (by decide) k) ?_
  exact own_retN X1 hx hlk (t := .boolean) hrt (by simp) (hb hby d16_12) (Nat.le_of_ble_eq_true rfl) (Nat.le_of_ble_eq_true rfl) (⟨by first | rfl | (simp only [nar, if_true, if_false]; done) | (simp only [nar, if_true, if_false]; rfl) | (simp [nar]; done) | (simp [nar]; rfl), N0, e1⟩)
theorem d17_0 : decode jdk_32_method_5_code 0 = .ok (.aload_n 0, 1) := by decide +kernel
theorem d17_1 : decode jdk_32_method_5_code 1 = .ok (.getfield 13, 3) := by decide +kernel
theorem d17_4 : decode jdk_32_method_5_code 4 = .ok (.ifnonnull 13, 3) := by decide +kernel
theorem d17_7 : decode jdk_32_method_5_code 7 = .ok (.new 26, 3) := by decide +kernel
theorem d17_10 : decode jdk_32_method_5_code 10 = .ok (.dup, 1) := by decide +kernel
theorem d17_11 : decode jdk_32_method_5_code 11 = .ok (.ldc 28, 2) := by decide +kernel
theorem d17_13 : decode jdk_32_method_5_code 13 = .ok (.invokespecial 30, 3) := by decide +kernel
theorem d17_16 : decode jdk_32_method_5_code 16 = .ok (.athrow, 1) := by decide +kernel
theorem d17_17 : decode jdk_32_method_5_code 17 = .ok (.aload_n 0, 1) := by decide +kernel
theorem d17_18 : decode jdk_32_method_5_code 18 = .ok (.getfield 13, 3) := by decide +kernel
theorem d17_21 : decode jdk_32_method_5_code 21 = .ok (.areturn, 1) := by decide +kernel
theorem ef_17 (m : MethodId) (oo : Addr) : entryFrame m #[(.ref oo)] 1 = mkF m 0 #[rv oo] [] := by first | (simp [entryFrame, mkF, argsToLocals, Value.category]; done) | rfl
def Q17 (Z : State) (oo : Addr) (vv : Addr) (h0 : Heap) (n0 : Nat) (v : Option Value) (h : Heap) (L : List Loc) : Prop := v = some (.ref vv) ∧ Fr n0 L ∧ h = h0
set_option maxRecDepth 65536 in
set_option maxHeartbeats 40000000 in
theorem rm17 (l : Launch) (Z : State) (a0 : Array Value) (hw : ∀ d ∈ tables_1, d.before a0 Z = true) (ws : List Jvm.Cond) (oo : Addr) (vv : Addr) (h0 : Heap) (n0 : Nat) (Z0 : n0 ≤ h0.size) (Fv : Fld Z h0 oo "java/util/Optional" "value" "Ljava/lang/Object;" (.ref vv)) :
    MetFree l (⟨"java/util/Optional", "get", "()Ljava/lang/Object;"⟩ : MethodName) (head1 (Jvm.Cond.code (⟨"java/util/Optional", "get", "()Ljava/lang/Object;"⟩ : MethodName) jdk_32_method_5_code 1 (some (.object "java/lang/Object")) :: ws) ({ frames := 0, cells := 0, slots := 0, locals := 0 } : Room)) (fun a U => a = #[(.ref oo)] ∧ Z.Warmed39 U.vm ∧ U.heap = h0) (fun _ _ _ _ _ => True) (fun _ U o U' => ∃ v L, o = .returned v ∧ Q17 Z oo vv h0 n0 v U'.heap L ∧ FrameEnd U o U' L ({ frames := 0, cells := 0, slots := 0, locals := 0 } : Room).cells ({ frames := 0, cells := 0, slots := 0, locals := 0 } : Room).slots) := by
  refine MetFree.of_bodySF (plainFor_of_name pn_3) hisR ?_
  intro p e s m args below meth c s₁ Bd hml0 hP hK
  obtain ⟨rfl, hZ, hh⟩ := hP
  have hx := Bd.exec
  have hby := Bd.bytes
  have hml : c.maxLocals = 1 := hml0
  have hown : s.vm.findClass "java/util/Optional" = some m.cls := findClass_of_methodNamed Bd.named
  have hnm := (name_of_methodNamed Bd.named Bd.method).1
  have hlk : meth.locks = false := Bd.notSynchronized
  have hrt := Bd.returns
  have X0 : Stand p l e ({ frames := 0, cells := 0, slots := 0, locals := 0 } : Room) s m #[(.ref oo)] below meth c s₁ [] 0 0 := Stand.of_body Bd
  have e0 : s₁.heap = h0 := by rw [← hh, Bd.state]; rfl
  have N0 := Fr.nil n0
  show own_Endz p.tables e below (own_EndQ s ({ frames := 0, cells := 0, slots := 0, locals := 0 } : Room).cells ({ frames := 0, cells := 0, slots := 0, locals := 0 } : Room).slots (Q17 Z oo vv h0 n0)) (s₁.setTop (entryFrame m #[(.ref oo)] 1))
  refine own_cast (ef_17 m oo) ?_
  refine own_go (b := s₁.setTop (mkF m 1 #[rv oo] [(.ref oo)])) (fun t k => XS.aloadN X0.here hx rfl (hb hby d17_0) rfl rfl k) ?_
  obtain ⟨T1, X1, e1, st1⟩ := getF X0 hx hZ hown (host := "") (Or.inl (hw _ (List.mem_of_getElem? (i := 91) rfl))) Via.refl e0 Fv (g := (mkF m 1 #[rv oo] [(.ref oo)])) rfl rfl (hb hby d17_1)
  refine own_go (b := T1.setTop (mkF m 4 #[rv oo] [(.ref vv)])) st1 ?_
  refine own_go (b := T1.setTop (mkF m 17 #[rv oo] [])) (fun t k => XS.ifnonnullYes X1.here hx rfl (pc0 := 4) (pc' := 17) rfl (hb hby d17_4) rfl (by decide) (by decide) k) ?_
  refine own_go (b := T1.setTop (mkF m 18 #[rv oo] [(.ref oo)])) (fun t k => XS.aloadN X1.here hx rfl (hb hby d17_17) rfl rfl k) ?_
  obtain ⟨T2, X2, e2, st2⟩ := getF X1 hx hZ hown (host := "") (Or.inl (hw _ (List.mem_of_getElem? (i := 91) rfl))) Via.refl e1 Fv (g := (mkF m 18 #[rv oo] [(.ref oo)])) rfl rfl (hb hby d17_18)
  refine own_go (b := T2.setTop (mkF m 21 #[rv oo] [(.ref vv)])) st2 ?_
  exact own_retA X2 hx hlk hrt rfl rfl (hb hby d17_21) (Nat.le_of_ble_eq_true rfl) (Nat.le_of_ble_eq_true rfl) (⟨by first | rfl | (simp only [if_true, if_true, if_false]; done) | (simp only [if_true, if_true, if_false]; rfl) | (simp []; done) | (simp []; rfl), N0, e2⟩)
theorem d19_0 : decode jdk_32_method_1_code 0 = .ok (.getstatic 1, 3) := by decide +kernel
theorem d19_3 : decode jdk_32_method_1_code 3 = .ok (.astore_n 0, 1) := by decide +kernel
theorem d19_4 : decode jdk_32_method_1_code 4 = .ok (.aload_n 0, 1) := by decide +kernel
theorem d19_5 : decode jdk_32_method_1_code 5 = .ok (.areturn, 1) := by decide +kernel
theorem ef_19 (m : MethodId)  : entryFrame m #[] 1 = mkF m 0 #[.unset] [] := by first | (simp [entryFrame, mkF, argsToLocals, Value.category]; done) | rfl
def Q19 (Z : State) (em : Addr) (h0 : Heap) (n0 : Nat) (v : Option Value) (h : Heap) (L : List Loc) : Prop := v = some (.ref em) ∧ Fr n0 L ∧ h = h0
set_option maxRecDepth 65536 in
set_option maxHeartbeats 40000000 in
theorem rm19 (l : Launch) (Z : State) (a0 : Array Value) (hw : ∀ d ∈ tables_1, d.before a0 Z = true) (ws : List Jvm.Cond) (em : Addr) (h0 : Heap) (n0 : Nat) (Z0 : n0 ≤ h0.size) (Sm : Sta Z h0 "java/util/Optional" "EMPTY" "Ljava/util/Optional;" (.ref em)) :
    MetFree l (⟨"java/util/Optional", "empty", "()Ljava/util/Optional;"⟩ : MethodName) (head1 (Jvm.Cond.code (⟨"java/util/Optional", "empty", "()Ljava/util/Optional;"⟩ : MethodName) jdk_32_method_1_code 1 (some (.object "java/util/Optional")) :: ws) ({ frames := 0, cells := 0, slots := 0, locals := 0 } : Room)) (fun a U => a = #[] ∧ Z.Warmed39 U.vm ∧ U.heap = h0) (fun _ _ _ _ _ => True) (fun _ U o U' => ∃ v L, o = .returned v ∧ Q19 Z em h0 n0 v U'.heap L ∧ FrameEnd U o U' L ({ frames := 0, cells := 0, slots := 0, locals := 0 } : Room).cells ({ frames := 0, cells := 0, slots := 0, locals := 0 } : Room).slots) := by
  refine MetFree.of_bodySF (plainFor_of_name pn_3) hisR ?_
  intro p e s m args below meth c s₁ Bd hml0 hP hK
  obtain ⟨rfl, hZ, hh⟩ := hP
  have hx := Bd.exec
  have hby := Bd.bytes
  have hml : c.maxLocals = 1 := hml0
  have hown : s.vm.findClass "java/util/Optional" = some m.cls := findClass_of_methodNamed Bd.named
  have hnm := (name_of_methodNamed Bd.named Bd.method).1
  have hlk : meth.locks = false := Bd.notSynchronized
  have hrt := Bd.returns
  have X0 : Stand p l e ({ frames := 0, cells := 0, slots := 0, locals := 0 } : Room) s m #[] below meth c s₁ [] 0 0 := Stand.of_body Bd
  have e0 : s₁.heap = h0 := by rw [← hh, Bd.state]; rfl
  have N0 := Fr.nil n0
  show own_Endz p.tables e below (own_EndQ s ({ frames := 0, cells := 0, slots := 0, locals := 0 } : Room).cells ({ frames := 0, cells := 0, slots := 0, locals := 0 } : Room).slots (Q19 Z em h0 n0)) (s₁.setTop (entryFrame m #[] 1))
  refine own_cast (ef_19 m ) ?_
  obtain ⟨T1, X1, e1, st1⟩ := getS2 X0 hx hZ hown (host := "") (Or.inl (hw _ (List.mem_of_getElem? (i := 112) rfl))) Via.refl e0 Sm (g := (mkF m 0 #[.unset] [])) rfl (hb hby d19_0)
  refine own_go (b := T1.setTop (mkF m 3 #[.unset] [(.ref em)])) st1 ?_
  refine own_go (b := T1.setTop (mkF m 4 #[rv em] [])) (fun t k => XS.astoreN X1.here hx rfl (hb hby d19_3) rfl rfl (l' := #[rv em]) rfl k) ?_
  refine own_go (b := T1.setTop (mkF m 5 #[rv em] [(.ref em)])) (fun t k => XS.aloadN X1.here hx rfl (hb hby d19_4) rfl rfl k) ?_
  exact own_retA X1 hx hlk hrt rfl rfl (hb hby d19_5) (Nat.le_of_ble_eq_true rfl) (Nat.le_of_ble_eq_true rfl) (⟨by first | rfl | (simp only [if_true, if_true, if_false]; done) | (simp only [if_true, if_true, if_false]; rfl) | (simp []; done) | (simp []; rfl), N0, e1⟩)
theorem own_cloneV {p : Program} {l : Launch} {e : Env} {R : Room} {s Z : State} {m : MethodId} {args a0 : Array Value} {below : List Frame} {meth : Method} {c : Code} {T : State} {locs : List Loc} {cells slots : Nat} {h : Heap} (X : Stand p l e R s m args below meth c T locs cells slots) (hx : p.tables.exec = Jvm.exec) (hZ : Z.Warmed39 s.vm) {own ad : String} {index : Nat} (hown : s.vm.findClass own = some m.cls)
    (w1 : (Cond.methodLink own index ⟨ad, "clone", "()Ljava/lang/Object;"⟩).before a0 Z = true) (w2 : (Cond.sameMethod ad "java/lang/Object" "clone" "()Ljava/lang/Object;").before a0 Z = true) (w3 : (Cond.native ⟨"java/lang/Object", "clone", "()Ljava/lang/Object;"⟩).before a0 Z = true)
    (w4 : (Cond.instanceMethod ⟨"java/lang/Object", "clone", "()Ljava/lang/Object;"⟩).before a0 Z = true) (w5 : (Cond.selects ad ⟨ad, "clone", "()Ljava/lang/Object;"⟩ ⟨"java/lang/Object", "clone", "()Ljava/lang/Object;"⟩).before a0 Z = true) (w6 : (Cond.castable ad "java/lang/Cloneable").before a0 Z = true)
    (eT : T.heap = h) {a : Addr} {k : ClassId} {ty : FieldType} {z : Int32} {vs : List Value} {dv : Value} (F : Arv Z h a k ty z vs dv) (E : Exa Z h a ad) {g : JFrame} (hg : g.method = m) (hsize : g.locals.size = c.maxLocals) {rest : List Value} (hs : g.stack = .ref a :: rest) (hd : decode c.code g.pc = .ok (.invokevirtual index, 3))
    (hf : 1 ≤ R.frames) {W cap : Nat} (hW : 2 * g.monitorRoom + (rest.map fun v => v.category).sum ≤ W) (hl : W + 14 ≤ R.locals) (hcap : z.toNatClampNeg ≤ cap) (hc : cells + 1 ≤ R.cells) (hsl : slots + cap ≤ R.slots) :
    ∃ T' h', Stand p l e R s m args below meth c T' locs (cells + 1) (slots + cap) ∧ T'.heap = h' ∧ Ext h h' ∧ Arv Z h' h.size k ty z vs dv ∧ Exa Z h' h.size ad ∧
      ∀ target, Steps p.tables e below (T'.setTop { g with pc := g.pc + 3, stack := .ref h.size :: rest }) target → Steps p.tables e below (T.setTop g) target := by
  obtain ⟨cl, A, q1, S, q3, H, G⟩ := F
  obtain ⟨T', h', X', e', ex, A', E', st⟩ := cloneA X hx hZ hown w1 w2 w3 w4 w5 w6 eT A E (fitC_of A fun i hi v hv => by rw [H i hi] at hv; cases hv; exact G i hi) hg hsize hs hd hf hW hl (by rw [S]; exact hcap) hc hsl
  exact ⟨T', h', X', e', ex, ⟨_, A', q1, S, q3, H, G⟩, E', st⟩
theorem d12_0 : decode prog_5_method_1_code 0 = .ok (.getstatic 13, 3) := by decide +kernel
theorem d12_3 : decode prog_5_method_1_code 3 = .ok (.invokevirtual 17, 3) := by decide +kernel
theorem d12_6 : decode prog_5_method_1_code 6 = .ok (.checkcast 18, 3) := by decide +kernel
theorem d12_9 : decode prog_5_method_1_code 9 = .ok (.areturn, 1) := by decide +kernel
theorem pn_4 : plainName "com/example/fault/fault/Envelope" = true := by first | (simp [plainName, overriddenIn]; done) | decide +kernel
theorem ef_12 (m : MethodId)  : entryFrame m #[] 0 = mkF m 0 #[] [] := by first | (simp [entryFrame, mkF, argsToLocals, Value.category]; done) | rfl
def Q12 (Z : State) (ad0 : Addr) (ad1 : Addr) (ad2 : Addr) (al : Addr) (kl : ClassId) (h0 : Heap) (n0 : Nat) (v : Option Value) (h : Heap) (L : List Loc) : Prop := ∃ a k, v = some (.ref a) ∧ Fr n0 L ∧ Keep h0 h [] ∧ Arv Z h a k (.object "com/example/fault/fault/Envelope") (3 : Int32) [.ref ad0, .ref ad1, .ref ad2] .null
set_option maxRecDepth 65536 in
set_option maxHeartbeats 40000000 in
theorem rm12 (l : Launch) (Z : State) (a0 : Array Value) (hw : ∀ d ∈ tables_1, d.before a0 Z = true) (ws : List Jvm.Cond) (ad0 : Addr) (ad1 : Addr) (ad2 : Addr) (al : Addr) (kl : ClassId) (h0 : Heap) (n0 : Nat) (Z0 : n0 ≤ h0.size) (Sv : Sta Z h0 "com/example/fault/fault/Envelope" "$VALUES" "[Lcom/example/fault/fault/Envelope;" (.ref al)) (Ev : Exa Z h0 al "[Lcom/example/fault/fault/Envelope;") (Vv : Arv Z h0 al kl (.object "com/example/fault/fault/Envelope") (3 : Int32) [.ref ad0, .ref ad1, .ref ad2] .null) :
    MetFree l (⟨"com/example/fault/fault/Envelope", "values", "()[Lcom/example/fault/fault/Envelope;"⟩ : MethodName) (head1 (Jvm.Cond.code (⟨"com/example/fault/fault/Envelope", "values", "()[Lcom/example/fault/fault/Envelope;"⟩ : MethodName) prog_5_method_1_code 0 (some (.array (.object "com/example/fault/fault/Envelope"))) :: ws) ({ frames := 1, cells := 1, slots := 3, locals := 14 } : Room)) (fun a U => a = #[] ∧ Z.Warmed39 U.vm ∧ U.heap = h0) (fun _ _ _ _ _ => True) (fun _ U o U' => ∃ v L, o = .returned v ∧ Q12 Z ad0 ad1 ad2 al kl h0 n0 v U'.heap L ∧ FrameEnd U o U' L ({ frames := 1, cells := 1, slots := 3, locals := 14 } : Room).cells ({ frames := 1, cells := 1, slots := 3, locals := 14 } : Room).slots) := by
  refine MetFree.of_bodySF (plainFor_of_name pn_4) hisR ?_
  intro p e s m args below meth c s₁ Bd hml0 hP hK
  obtain ⟨rfl, hZ, hh⟩ := hP
  have hx := Bd.exec
  have hby := Bd.bytes
  have hml : c.maxLocals = 0 := hml0
  have hown : s.vm.findClass "com/example/fault/fault/Envelope" = some m.cls := findClass_of_methodNamed Bd.named
  have hnm := (name_of_methodNamed Bd.named Bd.method).1
  have hlk : meth.locks = false := Bd.notSynchronized
  have hrt := Bd.returns
  have X0 : Stand p l e ({ frames := 1, cells := 1, slots := 3, locals := 14 } : Room) s m #[] below meth c s₁ [] 0 0 := Stand.of_body Bd
  have e0 : s₁.heap = h0 := by rw [← hh, Bd.state]; rfl
  have N0 := Fr.nil n0
  show own_Endz p.tables e below (own_EndQ s ({ frames := 1, cells := 1, slots := 3, locals := 14 } : Room).cells ({ frames := 1, cells := 1, slots := 3, locals := 14 } : Room).slots (Q12 Z ad0 ad1 ad2 al kl h0 n0)) (s₁.setTop (entryFrame m #[] 0))
  refine own_cast (ef_12 m ) ?_
  obtain ⟨T1, X1, e1, st1⟩ := getS2 X0 hx hZ hown (host := "") (Or.inl (hw _ (List.mem_of_getElem? (i := 58) rfl))) Via.refl e0 Sv (g := (mkF m 0 #[] [])) rfl (hb hby d12_0)
  refine own_go (b := T1.setTop (mkF m 3 #[] [(.ref al)])) st1 ?_
  obtain ⟨T2, h2, X2, e2, E2, A2, D2, st2⟩ := own_cloneV X1 hx hZ hown (hw _ (List.mem_of_getElem? (i := 60) rfl)) (hw _ (List.mem_of_getElem? (i := 61) rfl)) (hw _ (List.mem_of_getElem? (i := 65) rfl)) (hw _ (List.mem_of_getElem? (i := 63) rfl)) (hw _ (List.mem_of_getElem? (i := 64) rfl)) (hw _ (List.mem_of_getElem? (i := 66) rfl)) e1 Vv Ev (g := (mkF m 3 #[] [(.ref al)])) rfl (by rw [hml]; rfl) rfl (hb hby d12_3) (by decide) (W := 0) (cap := 3) (Nat.le_refl _) (by decide) (by decide) (by decide) (by decide)
  obtain ⟨b2, g2⟩ : ∃ z, z = h0.size := ⟨_, rfl⟩
  rw [← g2] at A2 D2 st2
  have g_b2 : n0 ≤ b2 := Nat.le_trans Z0 (Nat.le_of_eq g2.symm)
  have sz_b2 : h0.size ≤ b2 := Nat.le_trans (Keep.refl h0 []).1 (Nat.le_of_eq g2.symm)
  have Zs2 : n0 ≤ h2.size := Nat.le_trans Z0 E2.1
  have Kp2 : Keep h0 h2 [] := (Keep.refl h0 []).ext E2
  refine own_go (b := T2.setTop (mkF m 6 #[] [(.ref b2)])) st2 ?_
  obtain ⟨T3, X3, e3, st3⟩ := castY X2 hx hZ hown (hw _ (List.mem_of_getElem? (i := 71) rfl)) e2 (Ins.self D2) (g := (mkF m 6 #[] [(.ref b2)])) rfl rfl (hb hby d12_6)
  refine own_go (b := T3.setTop (mkF m 9 #[] [(.ref b2)])) st3 ?_
  exact own_retA X3 hx hlk hrt rfl rfl (hb hby d12_9) (Nat.le_of_ble_eq_true rfl) (Nat.le_of_ble_eq_true rfl) (⟨_, kl, rfl, N0, by rw [e3]; exact Kp2, by rw [e3]; exact A2⟩)
theorem d11_0 : decode prog_5_method_6_code 0 = .ok (.invokestatic 39, 3) := by decide +kernel
theorem d11_3 : decode prog_5_method_6_code 3 = .ok (.astore_n 1, 1) := by decide +kernel
theorem d11_4 : decode prog_5_method_6_code 4 = .ok (.aload_n 1, 1) := by decide +kernel
theorem d11_5 : decode prog_5_method_6_code 5 = .ok (.arraylength, 1) := by decide +kernel
theorem d11_6 : decode prog_5_method_6_code 6 = .ok (.istore_n 2, 1) := by decide +kernel
theorem d11_7 : decode prog_5_method_6_code 7 = .ok (.iconst 0, 1) := by decide +kernel
theorem d11_8 : decode prog_5_method_6_code 8 = .ok (.istore_n 3, 1) := by decide +kernel
theorem d11_9 : decode prog_5_method_6_code 9 = .ok (.iload_n 3, 1) := by decide +kernel
theorem d11_10 : decode prog_5_method_6_code 10 = .ok (.iload_n 2, 1) := by decide +kernel
theorem d11_11 : decode prog_5_method_6_code 11 = .ok (.if_icmp .ge 32, 3) := by decide +kernel
theorem d11_14 : decode prog_5_method_6_code 14 = .ok (.aload_n 1, 1) := by decide +kernel
theorem d11_15 : decode prog_5_method_6_code 15 = .ok (.iload_n 3, 1) := by decide +kernel
theorem d11_16 : decode prog_5_method_6_code 16 = .ok (.aaload, 1) := by decide +kernel
theorem d11_17 : decode prog_5_method_6_code 17 = .ok (.astore 4, 2) := by decide +kernel
theorem d11_19 : decode prog_5_method_6_code 19 = .ok (.aload 4, 2) := by decide +kernel
theorem d11_21 : decode prog_5_method_6_code 21 = .ok (.getfield 32, 3) := by decide +kernel
theorem d11_24 : decode prog_5_method_6_code 24 = .ok (.aload_n 0, 1) := by decide +kernel
theorem d11_25 : decode prog_5_method_6_code 25 = .ok (.invokevirtual 43, 3) := by decide +kernel
theorem d11_28 : decode prog_5_method_6_code 28 = .ok (.ifCond .eq 9, 3) := by decide +kernel
theorem d11_31 : decode prog_5_method_6_code 31 = .ok (.aload 4, 2) := by decide +kernel
theorem d11_33 : decode prog_5_method_6_code 33 = .ok (.invokestatic 49, 3) := by decide +kernel
theorem d11_36 : decode prog_5_method_6_code 36 = .ok (.areturn, 1) := by decide +kernel
theorem d11_37 : decode prog_5_method_6_code 37 = .ok (.iinc 3 1, 3) := by decide +kernel
theorem d11_40 : decode prog_5_method_6_code 40 = .ok (.goto (-31), 3) := by decide +kernel
theorem d11_43 : decode prog_5_method_6_code 43 = .ok (.invokestatic 55, 3) := by decide +kernel
theorem d11_46 : decode prog_5_method_6_code 46 = .ok (.areturn, 1) := by decide +kernel
theorem pd_5 : parseMethodDescriptor "()[Lcom/example/fault/fault/Envelope;" = some ⟨[], some (.array (.object "com/example/fault/fault/Envelope"))⟩ := by decide +kernel
theorem pd_6 : parseMethodDescriptor "(Ljava/lang/Object;)Ljava/util/Optional;" = some ⟨[(.object "java/lang/Object")], some (.object "java/util/Optional")⟩ := by decide +kernel
theorem pd_7 : parseMethodDescriptor "()Ljava/util/Optional;" = some ⟨[], some (.object "java/util/Optional")⟩ := by decide +kernel
theorem ef_11 (m : MethodId) (xs : Addr) : entryFrame m #[(.ref xs)] 5 = mkF m 0 #[rv xs, .unset, .unset, .unset, .unset] [] := by first | (simp [entryFrame, mkF, argsToLocals, Value.category]; done) | rfl
def Q11 (Z : State) (xs : Addr) (cs : List Int32) (G1 : Int32) (ad0 : Addr) (ad1 : Addr) (ad2 : Addr) (al : Addr) (kl : ClassId) (em : Addr) (nm0 : Addr) (nm1 : Addr) (nm2 : Addr) (h0 : Heap) (n0 : Nat) (v : Option Value) (h : Heap) (L : List Loc) : Prop := ∃ r, v = some (.ref r) ∧ Fr n0 L ∧ Keep h0 h [] ∧ Exa Z h r "java/util/Optional" ∧ Fld Z h r "java/util/Optional" "value" "Ljava/lang/Object;" (own_res ad0 ad1 ad2 cs)
set_option maxRecDepth 65536 in
set_option maxHeartbeats 40000000 in
theorem rm11 (l : Launch) (Z : State) (a0 : Array Value) (hw : ∀ d ∈ tables_1, d.before a0 Z = true) (ws : List Jvm.Cond) (xs : Addr) (cs : List Int32) (G1 : Int32) (ad0 : Addr) (ad1 : Addr) (ad2 : Addr) (al : Addr) (kl : ClassId) (em : Addr) (nm0 : Addr) (nm1 : Addr) (nm2 : Addr) (h0 : Heap) (n0 : Nat) (Z0 : n0 ≤ h0.size) (Od : Old Z n0 h0) (O2 : Sta Z Z.heap "java/lang/String" "COMPACT_STRINGS" "Z" (.int G1)) (P5 : ¬ (G1 = (0 : Int32))) (Sv : Sta Z Z.heap "com/example/fault/fault/Envelope" "$VALUES" "[Lcom/example/fault/fault/Envelope;" (.ref al)) (Ev : Exa Z Z.heap al "[Lcom/example/fault/fault/Envelope;") (Vv : Arv Z Z.heap al kl (.object "com/example/fault/fault/Envelope") (3 : Int32) [.ref ad0, .ref ad1, .ref ad2] .null) (Sm : Sta Z Z.heap "java/util/Optional" "EMPTY" "Ljava/util/Optional;" (.ref em)) (Em : Exa Z Z.heap em "java/util/Optional") (Fm : Fld Z Z.heap em "java/util/Optional" "value" "Ljava/lang/Object;" .null) (Fc0 : Fld Z Z.heap ad0 "com/example/fault/fault/Envelope" "catalogName" "Ljava/lang/String;" (.ref nm0)) (Fc1 : Fld Z Z.heap ad1 "com/example/fault/fault/Envelope" "catalogName" "Ljava/lang/String;" (.ref nm1)) (Fc2 : Fld Z Z.heap ad2 "com/example/fault/fault/Envelope" "catalogName" "Ljava/lang/String;" (.ref nm2)) (Sn0 : own_St Z Z.heap nm0 own_n0) (Sn1 : own_St Z Z.heap nm1 own_n1) (Sn2 : own_St Z Z.heap nm2 own_n2) (Sx : own_St Z h0 xs cs) :
    MetFree l (⟨"com/example/fault/fault/Envelope", "named", "(Ljava/lang/String;)Ljava/util/Optional;"⟩ : MethodName) (head1 (Jvm.Cond.code (⟨"com/example/fault/fault/Envelope", "named", "(Ljava/lang/String;)Ljava/util/Optional;"⟩ : MethodName) prog_5_method_6_code 5 (some (.object "java/util/Optional")) :: ws) ({ frames := 3, cells := 2, slots := 4, locals := 38 } : Room)) (fun a U => a = #[(.ref xs)] ∧ Z.Warmed39 U.vm ∧ U.heap = h0) (fun _ _ _ _ _ => True) (fun _ U o U' => ∃ v L, o = .returned v ∧ Q11 Z xs cs G1 ad0 ad1 ad2 al kl em nm0 nm1 nm2 h0 n0 v U'.heap L ∧ FrameEnd U o U' L ({ frames := 3, cells := 2, slots := 4, locals := 38 } : Room).cells ({ frames := 3, cells := 2, slots := 4, locals := 38 } : Room).slots) := by
  refine MetFree.of_bodySF (plainFor_of_name pn_4) hisR ?_
  intro p e s m args below meth c s₁ Bd hml0 hP hK
  obtain ⟨rfl, hZ, hh⟩ := hP
  have hx := Bd.exec
  have hby := Bd.bytes
  have hml : c.maxLocals = 5 := hml0
  have hown : s.vm.findClass "com/example/fault/fault/Envelope" = some m.cls := findClass_of_methodNamed Bd.named
  have hnm := (name_of_methodNamed Bd.named Bd.method).1
  have hlk : meth.locks = false := Bd.notSynchronized
  have hrt := Bd.returns
  have X0 : Stand p l e ({ frames := 3, cells := 2, slots := 4, locals := 38 } : Room) s m #[(.ref xs)] below meth c s₁ [] 0 0 := Stand.of_body Bd
  have e0 : s₁.heap = h0 := by rw [← hh, Bd.state]; rfl
  have N0 := Fr.nil n0
  show own_Endz p.tables e below (own_EndQ s ({ frames := 3, cells := 2, slots := 4, locals := 38 } : Room).cells ({ frames := 3, cells := 2, slots := 4, locals := 38 } : Room).slots (Q11 Z xs cs G1 ad0 ad1 ad2 al kl em nm0 nm1 nm2 h0 n0)) (s₁.setTop (entryFrame m #[(.ref xs)] 5))
  refine own_cast (ef_11 m xs) ?_
  obtain ⟨_, _, ⟨T1, L1, k1, n1⟩, -, X1, ⟨Lc1, hQ1, l1, y1, z1⟩, st1⟩ := Jvm.LawKit.callS X0 hx (y := (⟨"com/example/fault/fault/Envelope", "values", "()[Lcom/example/fault/fault/Envelope;"⟩ : MethodName)) hown (mvT hZ (hw _ (List.mem_of_getElem? (i := 55) rfl))) (mvT hZ (hw _ (List.mem_of_getElem? (i := 56) rfl))) (mvT hZ (hw _ (List.mem_of_getElem? (i := 53) rfl))) (mvT hZ (hw _ (List.mem_of_getElem? (i := 57) rfl))) (by decide) (backOf (W := 0) (rm12 l Z a0 hw []  ad0 ad1 ad2 al kl h0 n0 Z0 (Sv.ext Od.2) (Ev.ext Od.2) (Vv.ext Od.2)) hZ (hw _ (List.mem_of_getElem? (i := 57) rfl)) (hw _ (List.mem_of_getElem? (i := 53) rfl)) (by decide) (by decide)) (g := (mkF m 0 #[rv xs, .unset, .unset, .unset, .unset] [])) rfl (by rw [hml]; rfl) (argsL := []) (rest := []) (lenOf pd_5 rfl) rfl (by show 2 * 0 + _ ≤ _; exact Nat.le_of_eq rfl) (hb hby d11_0) (fun _ _ => ⟨rfl, e0, (by decide : 0 + 1 ≤ _), (by decide : 0 + 3 ≤ _)⟩)
  dsimp only [Pt.U, Pt.locs, Pt.cells, Pt.slots] at X1 l1 y1 z1 st1 hQ1
  subst l1 y1 z1
  obtain ⟨av1, kv1, rfl, N1q, K1, Vv1⟩ := hQ1
  have Zs1 : n0 ≤ T1.heap.size := Nat.le_trans Z0 K1.1
  have N1 := Fr.app N0 N1q
  have Kp1 : Keep h0 T1.heap [] := (Keep.refl h0 []).trans K1 (fun x hx => nomatch hx)
  have Ol1 := Od.keep K1 all0
  obtain ⟨lq1, X1, N1⟩ : ∃ lq, Stand p l e ({ frames := 3, cells := 2, slots := 4, locals := 38 } : Room) s m #[(.ref xs)] below meth c T1 lq 1 3 ∧ Fr n0 lq := ⟨_, X1, N1⟩
  refine own_go (b := T1.setTop (mkF m 3 #[rv xs, .unset, .unset, .unset, .unset] [(.ref av1)])) st1 ?_
  refine own_go (b := T1.setTop (mkF m 4 #[rv xs, rv av1, .unset, .unset, .unset] [])) (fun t k => XS.astoreN X1.here hx rfl (hb hby d11_3) rfl rfl (l' := #[rv xs, rv av1, .unset, .unset, .unset]) rfl k) ?_
  refine own_go (b := T1.setTop (mkF m 5 #[rv xs, rv av1, .unset, .unset, .unset] [(.ref av1)])) (fun t k => XS.aloadN X1.here hx rfl (hb hby d11_4) rfl rfl k) ?_
  obtain ⟨cl2, Ar2, qc2, Sz2, Ng2, Hs2, Ft2⟩ := id Vv1
  refine own_go (b := T1.setTop (mkF m 6 #[rv xs, rv av1, .unset, .unset, .unset] [(.int (cl2.slots.size.toInt32))])) (fun t k => X1.arraylength hx (own_at rfl Ar2.1) (State.isArrayOf_alike hZ.alike Ar2.2.1) (g := (mkF m 5 #[rv xs, rv av1, .unset, .unset, .unset] [(.ref av1)])) rfl rfl (hb hby d11_5) t k) ?_
  rw [(len_of Sz2 Ng2)]
  refine own_go (b := T1.setTop (mkF m 7 #[rv xs, rv av1, iv 3, .unset, .unset] [])) (fun t k => XS.istoreN X1.here hx rfl (hb hby d11_6) rfl (l' := #[rv xs, rv av1, iv 3, .unset, .unset]) rfl k) ?_
  refine own_go (b := T1.setTop (mkF m 8 #[rv xs, rv av1, iv 3, .unset, .unset] [(.int 0)])) (fun t k => XS.iconst X1.here hx rfl (hb hby d11_7) k) ?_
  refine own_go (b := T1.setTop (mkF m 9 #[rv xs, rv av1, iv 3, iv 0, .unset] [])) (fun t k => XS.istoreN X1.here hx rfl (hb hby d11_8) rfl (l' := #[rv xs, rv av1, iv 3, iv 0, .unset]) rfl k) ?_
  refine own_go (b := T1.setTop (mkF m 10 #[rv xs, rv av1, iv 3, iv 0, .unset] [(.int 0)])) (fun t k => XS.iloadN X1.here hx rfl (hb hby d11_9) rfl  k) ?_
  refine own_go (b := T1.setTop (mkF m 11 #[rv xs, rv av1, iv 3, iv 0, .unset] [(.int 3), (.int 0)])) (fun t k => XS.iloadN X1.here hx rfl (hb hby d11_10) rfl  k) ?_
  refine own_go (b := T1.setTop (mkF m 14 #[rv xs, rv av1, iv 3, iv 0, .unset] [])) (fun t k => XS.icmpNo X1.here hx rfl (hb hby d11_11) rfl (tlt (by decide : (0 : Int32) < (3 : Int32))).2.1 k) ?_
  refine own_go (b := T1.setTop (mkF m 15 #[rv xs, rv av1, iv 3, iv 0, .unset] [(.ref av1)])) (fun t k => XS.aloadN X1.here hx rfl (hb hby d11_14) rfl rfl k) ?_
  refine own_go (b := T1.setTop (mkF m 16 #[rv xs, rv av1, iv 3, iv 0, .unset] [(.int 0), (.ref av1)])) (fun t k => XS.iloadN X1.here hx rfl (hb hby d11_15) rfl  k) ?_
  obtain ⟨cl3, Ar3, qc3, Sz3, Ng3, Hs3, Ft3⟩ := id Vv1
  have hin3 : ¬ ((0 : Int32) < 0 ∨ cl3.slots.size ≤ ((0 : Int32)).toNatClampNeg) := inb_of Sz3 ⟨by decide, by decide⟩
  refine own_go (b := T1.setTop (mkF m 17 #[rv xs, rv av1, iv 3, iv 0, .unset] [(.ref ad0)])) (fun t k => X1.aaload hx (j := (0 : Int32)) (v := (.ref ad0)) (own_at rfl Ar3.1) (State.isArrayOf_alike hZ.alike Ar3.2.1) rfl Ar3.2.2 hin3 (Hs3.at hin3 rfl) (g := (mkF m 16 #[rv xs, rv av1, iv 3, iv 0, .unset] [(.int 0), (.ref av1)])) rfl rfl (hb hby d11_16) t k) ?_
  refine own_go (b := T1.setTop (mkF m 19 #[rv xs, rv av1, iv 3, iv 0, rv ad0] [])) (fun t k => XS.astore X1.here hx rfl (hb hby d11_17) rfl rfl (l' := #[rv xs, rv av1, iv 3, iv 0, rv ad0]) rfl k) ?_
  refine own_go (b := T1.setTop (mkF m 21 #[rv xs, rv av1, iv 3, iv 0, rv ad0] [(.ref ad0)])) (fun t k => XS.aload X1.here hx rfl (hb hby d11_19) rfl rfl k) ?_
  obtain ⟨T4, X4, e4, st4⟩ := getF X1 hx hZ hown (host := "") (Or.inl (hw _ (List.mem_of_getElem? (i := 73) rfl))) Via.refl rfl (Fc0.ext Ol1.2) (g := (mkF m 21 #[rv xs, rv av1, iv 3, iv 0, rv ad0] [(.ref ad0)])) rfl rfl (hb hby d11_21)
  refine own_go (b := T4.setTop (mkF m 24 #[rv xs, rv av1, iv 3, iv 0, rv ad0] [(.ref nm0)])) st4 ?_
  refine own_go (b := T4.setTop (mkF m 25 #[rv xs, rv av1, iv 3, iv 0, rv ad0] [(.ref xs), (.ref nm0)])) (fun t k => XS.aloadN X4.here hx rfl (hb hby d11_24) rfl rfl k) ?_
  obtain ⟨cq5, kq5, q5a, q5b, q5c⟩ := isOf hZ e4 (own_St.exa (Sn0.ext Ol1.2))
  obtain ⟨_, _, ⟨T5, L5, k5, n5⟩, -, X5, ⟨Lc5, hQ5, l5, y5, z5⟩, st5⟩ := X4.virtualBack hx (y := (⟨"java/lang/String", "equals", "(Ljava/lang/Object;)Z"⟩ : MethodName)) (z := (⟨"java/lang/String", "equals", "(Ljava/lang/Object;)Z"⟩ : MethodName)) hown (mvT hZ (hw _ (List.mem_of_getElem? (i := 75) rfl))) (mvT hZ (hw _ (List.mem_of_getElem? (i := 42) rfl))) (notFace_of_selects (args := #[]) (mvT hZ (hw _ (List.mem_of_getElem? (i := 44) rfl)))) (mvT hZ (hw _ (List.mem_of_getElem? (i := 44) rfl))) (mvT hZ (hw _ (List.mem_of_getElem? (i := 43) rfl))) (by decide) (own_eq (W := 0) hZ hw (cs := own_n0) (ds := cs) (Sn0.ext Ol1.2) (Sx.keep K1 nin0) (O2.ext Ol1.2) P5 (by decide) (by decide)) q5a q5c (g := (mkF m 25 #[rv xs, rv av1, iv 3, iv 0, rv ad0] [(.ref xs), (.ref nm0)])) rfl (by rw [hml]; rfl) (Steps.refl _) (argsL := [(.ref xs)]) (rest := []) (lenOf pd_0 rfl) rfl (by show 2 * 0 + _ ≤ _; exact Nat.le_of_eq rfl) (hb hby d11_25) (fun _ _ => ⟨rfl, e4, (by decide : 1 + 0 ≤ _), (by decide : 3 + 0 ≤ _)⟩)
  dsimp only [Pt.U, Pt.locs, Pt.cells, Pt.slots] at X5 l5 y5 z5 st5 hQ5
  subst l5 y5 z5
  obtain ⟨rfl, rfl, e5⟩ := hQ5
  have N5 := Fr.app N1 (Fr.nil n0)
  obtain ⟨lq5, X5, N5⟩ : ∃ lq, Stand p l e ({ frames := 3, cells := 2, slots := 4, locals := 38 } : Room) s m #[(.ref xs)] below meth c T5 lq 1 3 ∧ Fr n0 lq := ⟨_, X5, N5⟩
  refine own_tr (b := T5.setTop (mkF m 28 #[rv xs, rv av1, iv 3, iv 0, rv ad0] [(.int (if own_n0 = cs then 1 else 0))])) st5 ?_
  by_cases hc6 : own_n0 = cs
  · rw [if_pos hc6]
    refine own_go (b := T5.setTop (mkF m 31 #[rv xs, rv av1, iv 3, iv 0, rv ad0] [])) (fun t k => XS.ifNo X5.here hx rfl (hb hby d11_28) rfl ((if0 _ _).trans (feq (by decide : ¬ ((1 : Int32) = (0 : Int32)))).1) k) ?_
    refine own_go (b := T5.setTop (mkF m 33 #[rv xs, rv av1, iv 3, iv 0, rv ad0] [(.ref ad0)])) (fun t k => XS.aload X5.here hx rfl (hb hby d11_31) rfl rfl k) ?_
    obtain ⟨_, _, ⟨T7, L7, k7, n7⟩, -, X7, ⟨Lc7, hQ7, l7, y7, z7⟩, st7⟩ := Jvm.LawKit.callS X5 hx (y := (⟨"java/util/Optional", "of", "(Ljava/lang/Object;)Ljava/util/Optional;"⟩ : MethodName)) hown (mvT hZ (hw _ (List.mem_of_getElem? (i := 76) rfl))) (mvT hZ (hw _ (List.mem_of_getElem? (i := 77) rfl))) (mvT hZ (hw _ (List.mem_of_getElem? (i := 78) rfl))) (mvT hZ (hw _ (List.mem_of_getElem? (i := 79) rfl))) (by decide) (backOf (W := 0) (rm13 l Z a0 hw [] ad0  T1.heap n0 Zs1 ) hZ (hw _ (List.mem_of_getElem? (i := 79) rfl)) (hw _ (List.mem_of_getElem? (i := 78) rfl)) (by decide) (by decide)) (g := (mkF m 33 #[rv xs, rv av1, iv 3, iv 0, rv ad0] [(.ref ad0)])) rfl (by rw [hml]; rfl) (argsL := [(.ref ad0)]) (rest := []) (lenOf pd_6 rfl) rfl (by show 2 * 0 + _ ≤ _; exact Nat.le_of_eq rfl) (hb hby d11_33) (fun _ _ => ⟨rfl, e5, (by decide : 1 + 1 ≤ _), (by decide : 3 + 1 ≤ _)⟩)
    dsimp only [Pt.U, Pt.locs, Pt.cells, Pt.slots] at X7 l7 y7 z7 st7 hQ7
    subst l7 y7 z7
    obtain ⟨ro7, rfl, N7q, K7, Er7, Fo7⟩ := hQ7
    have Zs7 : n0 ≤ T7.heap.size := Nat.le_trans Zs1 K7.1
    have N7 := Fr.app N5 N7q
    have Kp7 : Keep h0 T7.heap [] := Kp1.trans K7 (fun x hx => nomatch hx)
    have Ol7 := Ol1.keep K7 all0
    obtain ⟨lq7, X7, N7⟩ : ∃ lq, Stand p l e ({ frames := 3, cells := 2, slots := 4, locals := 38 } : Room) s m #[(.ref xs)] below meth c T7 lq 2 4 ∧ Fr n0 lq := ⟨_, X7, N7⟩
    refine own_go (b := T7.setTop (mkF m 36 #[rv xs, rv av1, iv 3, iv 0, rv ad0] [(.ref ro7)])) st7 ?_
    exact own_retA X7 hx hlk hrt rfl rfl (hb hby d11_36) (Nat.le_of_ble_eq_true rfl) (Nat.le_of_ble_eq_true rfl) (⟨_, rfl, N7, Kp7, Er7, by rw [own_res, if_pos hc6]; exact (Fo7)⟩)
  · rw [if_neg hc6]
    refine own_go (b := T5.setTop (mkF m 37 #[rv xs, rv av1, iv 3, iv 0, rv ad0] [])) (fun t k => XS.ifYes X5.here hx rfl (pc0 := 28) (pc' := 37) rfl (hb hby d11_28) rfl ((if0 _ _).trans (teq (rfl : (0 : Int32) = (0 : Int32))).1) (by decide) (by decide) k) ?_
    refine own_go (b := T5.setTop (mkF m 40 #[rv xs, rv av1, iv 3, iv 1, rv ad0] [])) (fun t k => XS.iinc X5.here hx rfl (hb hby d11_37) rfl (l' := #[rv xs, rv av1, iv 3, iv 1, rv ad0]) rfl k) ?_
    refine own_go (b := T5.setTop (mkF m 9 #[rv xs, rv av1, iv 3, iv 1, rv ad0] [])) (fun t k => XS.goto X5.here hx rfl (pc0 := 40) (pc' := 9) rfl (hb hby d11_40) (by decide) (by decide) k) ?_
    refine own_go (b := T5.setTop (mkF m 10 #[rv xs, rv av1, iv 3, iv 1, rv ad0] [(.int 1)])) (fun t k => XS.iloadN X5.here hx rfl (hb hby d11_9) rfl  k) ?_
    refine own_go (b := T5.setTop (mkF m 11 #[rv xs, rv av1, iv 3, iv 1, rv ad0] [(.int 3), (.int 1)])) (fun t k => XS.iloadN X5.here hx rfl (hb hby d11_10) rfl  k) ?_
    refine own_go (b := T5.setTop (mkF m 14 #[rv xs, rv av1, iv 3, iv 1, rv ad0] [])) (fun t k => XS.icmpNo X5.here hx rfl (hb hby d11_11) rfl (tlt (by decide : (1 : Int32) < (3 : Int32))).2.1 k) ?_
    refine own_go (b := T5.setTop (mkF m 15 #[rv xs, rv av1, iv 3, iv 1, rv ad0] [(.ref av1)])) (fun t k => XS.aloadN X5.here hx rfl (hb hby d11_14) rfl rfl k) ?_
    refine own_go (b := T5.setTop (mkF m 16 #[rv xs, rv av1, iv 3, iv 1, rv ad0] [(.int 1), (.ref av1)])) (fun t k => XS.iloadN X5.here hx rfl (hb hby d11_15) rfl  k) ?_
    obtain ⟨cl8, Ar8, qc8, Sz8, Ng8, Hs8, Ft8⟩ := id Vv1
    have hin8 : ¬ ((1 : Int32) < 0 ∨ cl8.slots.size ≤ ((1 : Int32)).toNatClampNeg) := inb_of Sz8 ⟨by decide, by decide⟩
    refine own_go (b := T5.setTop (mkF m 17 #[rv xs, rv av1, iv 3, iv 1, rv ad0] [(.ref ad1)])) (fun t k => X5.aaload hx (j := (1 : Int32)) (v := (.ref ad1)) (own_at e5 Ar8.1) (State.isArrayOf_alike hZ.alike Ar8.2.1) rfl Ar8.2.2 hin8 (Hs8.at hin8 rfl) (g := (mkF m 16 #[rv xs, rv av1, iv 3, iv 1, rv ad0] [(.int 1), (.ref av1)])) rfl rfl (hb hby d11_16) t k) ?_
    refine own_go (b := T5.setTop (mkF m 19 #[rv xs, rv av1, iv 3, iv 1, rv ad1] [])) (fun t k => XS.astore X5.here hx rfl (hb hby d11_17) rfl rfl (l' := #[rv xs, rv av1, iv 3, iv 1, rv ad1]) rfl k) ?_
    refine own_go (b := T5.setTop (mkF m 21 #[rv xs, rv av1, iv 3, iv 1, rv ad1] [(.ref ad1)])) (fun t k => XS.aload X5.here hx rfl (hb hby d11_19) rfl rfl k) ?_
    obtain ⟨T9, X9, e9, st9⟩ := getF X5 hx hZ hown (host := "") (Or.inl (hw _ (List.mem_of_getElem? (i := 73) rfl))) Via.refl e5 (Fc1.ext Ol1.2) (g := (mkF m 21 #[rv xs, rv av1, iv 3, iv 1, rv ad1] [(.ref ad1)])) rfl rfl (hb hby d11_21)
    refine own_go (b := T9.setTop (mkF m 24 #[rv xs, rv av1, iv 3, iv 1, rv ad1] [(.ref nm1)])) st9 ?_
    refine own_go (b := T9.setTop (mkF m 25 #[rv xs, rv av1, iv 3, iv 1, rv ad1] [(.ref xs), (.ref nm1)])) (fun t k => XS.aloadN X9.here hx rfl (hb hby d11_24) rfl rfl k) ?_
    obtain ⟨cq10, kq10, q10a, q10b, q10c⟩ := isOf hZ e9 (own_St.exa (Sn1.ext Ol1.2))
    obtain ⟨_, _, ⟨T10, L10, k10, n10⟩, -, X10, ⟨Lc10, hQ10, l10, y10, z10⟩, st10⟩ := X9.virtualBack hx (y := (⟨"java/lang/String", "equals", "(Ljava/lang/Object;)Z"⟩ : MethodName)) (z := (⟨"java/lang/String", "equals", "(Ljava/lang/Object;)Z"⟩ : MethodName)) hown (mvT hZ (hw _ (List.mem_of_getElem? (i := 75) rfl))) (mvT hZ (hw _ (List.mem_of_getElem? (i := 42) rfl))) (notFace_of_selects (args := #[]) (mvT hZ (hw _ (List.mem_of_getElem? (i := 44) rfl)))) (mvT hZ (hw _ (List.mem_of_getElem? (i := 44) rfl))) (mvT hZ (hw _ (List.mem_of_getElem? (i := 43) rfl))) (by decide) (own_eq (W := 0) hZ hw (cs := own_n1) (ds := cs) (Sn1.ext Ol1.2) (Sx.keep K1 nin0) (O2.ext Ol1.2) P5 (by decide) (by decide)) q10a q10c (g := (mkF m 25 #[rv xs, rv av1, iv 3, iv 1, rv ad1] [(.ref xs), (.ref nm1)])) rfl (by rw [hml]; rfl) (Steps.refl _) (argsL := [(.ref xs)]) (rest := []) (lenOf pd_0 rfl) rfl (by show 2 * 0 + _ ≤ _; exact Nat.le_of_eq rfl) (hb hby d11_25) (fun _ _ => ⟨rfl, e9, (by decide : 1 + 0 ≤ _), (by decide : 3 + 0 ≤ _)⟩)
    dsimp only [Pt.U, Pt.locs, Pt.cells, Pt.slots] at X10 l10 y10 z10 st10 hQ10
    subst l10 y10 z10
    obtain ⟨rfl, rfl, e10⟩ := hQ10
    have N10 := Fr.app N5 (Fr.nil n0)
    obtain ⟨lq10, X10, N10⟩ : ∃ lq, Stand p l e ({ frames := 3, cells := 2, slots := 4, locals := 38 } : Room) s m #[(.ref xs)] below meth c T10 lq 1 3 ∧ Fr n0 lq := ⟨_, X10, N10⟩
    refine own_tr (b := T10.setTop (mkF m 28 #[rv xs, rv av1, iv 3, iv 1, rv ad1] [(.int (if own_n1 = cs then 1 else 0))])) st10 ?_
    by_cases hc11 : own_n1 = cs
    · rw [if_pos hc11]
      refine own_go (b := T10.setTop (mkF m 31 #[rv xs, rv av1, iv 3, iv 1, rv ad1] [])) (fun t k => XS.ifNo X10.here hx rfl (hb hby d11_28) rfl ((if0 _ _).trans (feq (by decide : ¬ ((1 : Int32) = (0 : Int32)))).1) k) ?_
      refine own_go (b := T10.setTop (mkF m 33 #[rv xs, rv av1, iv 3, iv 1, rv ad1] [(.ref ad1)])) (fun t k => XS.aload X10.here hx rfl (hb hby d11_31) rfl rfl k) ?_
      obtain ⟨_, _, ⟨T12, L12, k12, n12⟩, -, X12, ⟨Lc12, hQ12, l12, y12, z12⟩, st12⟩ := Jvm.LawKit.callS X10 hx (y := (⟨"java/util/Optional", "of", "(Ljava/lang/Object;)Ljava/util/Optional;"⟩ : MethodName)) hown (mvT hZ (hw _ (List.mem_of_getElem? (i := 76) rfl))) (mvT hZ (hw _ (List.mem_of_getElem? (i := 77) rfl))) (mvT hZ (hw _ (List.mem_of_getElem? (i := 78) rfl))) (mvT hZ (hw _ (List.mem_of_getElem? (i := 79) rfl))) (by decide) (backOf (W := 0) (rm13 l Z a0 hw [] ad1  T1.heap n0 Zs1 ) hZ (hw _ (List.mem_of_getElem? (i := 79) rfl)) (hw _ (List.mem_of_getElem? (i := 78) rfl)) (by decide) (by decide)) (g := (mkF m 33 #[rv xs, rv av1, iv 3, iv 1, rv ad1] [(.ref ad1)])) rfl (by rw [hml]; rfl) (argsL := [(.ref ad1)]) (rest := []) (lenOf pd_6 rfl) rfl (by show 2 * 0 + _ ≤ _; exact Nat.le_of_eq rfl) (hb hby d11_33) (fun _ _ => ⟨rfl, e10, (by decide : 1 + 1 ≤ _), (by decide : 3 + 1 ≤ _)⟩)
      dsimp only [Pt.U, Pt.locs, Pt.cells, Pt.slots] at X12 l12 y12 z12 st12 hQ12
      subst l12 y12 z12
      obtain ⟨ro12, rfl, N12q, K12, Er12, Fo12⟩ := hQ12
      have Zs12 : n0 ≤ T12.heap.size := Nat.le_trans Zs1 K12.1
      have N12 := Fr.app N10 N12q
      have Kp12 : Keep h0 T12.heap [] := Kp1.trans K12 (fun x hx => nomatch hx)
      have Ol12 := Ol1.keep K12 all0
      obtain ⟨lq12, X12, N12⟩ : ∃ lq, Stand p l e ({ frames := 3, cells := 2, slots := 4, locals := 38 } : Room) s m #[(.ref xs)] below meth c T12 lq 2 4 ∧ Fr n0 lq := ⟨_, X12, N12⟩
      refine own_go (b := T12.setTop (mkF m 36 #[rv xs, rv av1, iv 3, iv 1, rv ad1] [(.ref ro12)])) st12 ?_
      exact own_retA X12 hx hlk hrt rfl rfl (hb hby d11_36) (Nat.le_of_ble_eq_true rfl) (Nat.le_of_ble_eq_true rfl) (⟨_, rfl, N12, Kp12, Er12, by rw [own_res, if_neg hc6, if_pos hc11]; exact (Fo12)⟩)
    · rw [if_neg hc11]
      refine own_go (b := T10.setTop (mkF m 37 #[rv xs, rv av1, iv 3, iv 1, rv ad1] [])) (fun t k => XS.ifYes X10.here hx rfl (pc0 := 28) (pc' := 37) rfl (hb hby d11_28) rfl ((if0 _ _).trans (teq (rfl : (0 : Int32) = (0 : Int32))).1) (by decide) (by decide) k) ?_
      refine own_go (b := T10.setTop (mkF m 40 #[rv xs, rv av1, iv 3, iv 2, rv ad1] [])) (fun t k => XS.iinc X10.here hx rfl (hb hby d11_37) rfl (l' := #[rv xs, rv av1, iv 3, iv 2, rv ad1]) rfl k) ?_
      refine own_go (b := T10.setTop (mkF m 9 #[rv xs, rv av1, iv 3, iv 2, rv ad1] [])) (fun t k => XS.goto X10.here hx rfl (pc0 := 40) (pc' := 9) rfl (hb hby d11_40) (by decide) (by decide) k) ?_
      refine own_go (b := T10.setTop (mkF m 10 #[rv xs, rv av1, iv 3, iv 2, rv ad1] [(.int 2)])) (fun t k => XS.iloadN X10.here hx rfl (hb hby d11_9) rfl  k) ?_
      refine own_go (b := T10.setTop (mkF m 11 #[rv xs, rv av1, iv 3, iv 2, rv ad1] [(.int 3), (.int 2)])) (fun t k => XS.iloadN X10.here hx rfl (hb hby d11_10) rfl  k) ?_
      refine own_go (b := T10.setTop (mkF m 14 #[rv xs, rv av1, iv 3, iv 2, rv ad1] [])) (fun t k => XS.icmpNo X10.here hx rfl (hb hby d11_11) rfl (tlt (by decide : (2 : Int32) < (3 : Int32))).2.1 k) ?_
      refine own_go (b := T10.setTop (mkF m 15 #[rv xs, rv av1, iv 3, iv 2, rv ad1] [(.ref av1)])) (fun t k => XS.aloadN X10.here hx rfl (hb hby d11_14) rfl rfl k) ?_
      refine own_go (b := T10.setTop (mkF m 16 #[rv xs, rv av1, iv 3, iv 2, rv ad1] [(.int 2), (.ref av1)])) (fun t k => XS.iloadN X10.here hx rfl (hb hby d11_15) rfl  k) ?_
      obtain ⟨cl13, Ar13, qc13, Sz13, Ng13, Hs13, Ft13⟩ := id Vv1
      have hin13 : ¬ ((2 : Int32) < 0 ∨ cl13.slots.size ≤ ((2 : Int32)).toNatClampNeg) := inb_of Sz13 ⟨by decide, by decide⟩
      refine own_go (b := T10.setTop (mkF m 17 #[rv xs, rv av1, iv 3, iv 2, rv ad1] [(.ref ad2)])) (fun t k => X10.aaload hx (j := (2 : Int32)) (v := (.ref ad2)) (own_at e10 Ar13.1) (State.isArrayOf_alike hZ.alike Ar13.2.1) rfl Ar13.2.2 hin13 (Hs13.at hin13 rfl) (g := (mkF m 16 #[rv xs, rv av1, iv 3, iv 2, rv ad1] [(.int 2), (.ref av1)])) rfl rfl (hb hby d11_16) t k) ?_
      refine own_go (b := T10.setTop (mkF m 19 #[rv xs, rv av1, iv 3, iv 2, rv ad2] [])) (fun t k => XS.astore X10.here hx rfl (hb hby d11_17) rfl rfl (l' := #[rv xs, rv av1, iv 3, iv 2, rv ad2]) rfl k) ?_
      refine own_go (b := T10.setTop (mkF m 21 #[rv xs, rv av1, iv 3, iv 2, rv ad2] [(.ref ad2)])) (fun t k => XS.aload X10.here hx rfl (hb hby d11_19) rfl rfl k) ?_
      obtain ⟨T14, X14, e14, st14⟩ := getF X10 hx hZ hown (host := "") (Or.inl (hw _ (List.mem_of_getElem? (i := 73) rfl))) Via.refl e10 (Fc2.ext Ol1.2) (g := (mkF m 21 #[rv xs, rv av1, iv 3, iv 2, rv ad2] [(.ref ad2)])) rfl rfl (hb hby d11_21)
      refine own_go (b := T14.setTop (mkF m 24 #[rv xs, rv av1, iv 3, iv 2, rv ad2] [(.ref nm2)])) st14 ?_
      refine own_go (b := T14.setTop (mkF m 25 #[rv xs, rv av1, iv 3, iv 2, rv ad2] [(.ref xs), (.ref nm2)])) (fun t k => XS.aloadN X14.here hx rfl (hb hby d11_24) rfl rfl k) ?_
      obtain ⟨cq15, kq15, q15a, q15b, q15c⟩ := isOf hZ e14 (own_St.exa (Sn2.ext Ol1.2))
      obtain ⟨_, _, ⟨T15, L15, k15, n15⟩, -, X15, ⟨Lc15, hQ15, l15, y15, z15⟩, st15⟩ := X14.virtualBack hx (y := (⟨"java/lang/String", "equals", "(Ljava/lang/Object;)Z"⟩ : MethodName)) (z := (⟨"java/lang/String", "equals", "(Ljava/lang/Object;)Z"⟩ : MethodName)) hown (mvT hZ (hw _ (List.mem_of_getElem? (i := 75) rfl))) (mvT hZ (hw _ (List.mem_of_getElem? (i := 42) rfl))) (notFace_of_selects (args := #[]) (mvT hZ (hw _ (List.mem_of_getElem? (i := 44) rfl)))) (mvT hZ (hw _ (List.mem_of_getElem? (i := 44) rfl))) (mvT hZ (hw _ (List.mem_of_getElem? (i := 43) rfl))) (by decide) (own_eq (W := 0) hZ hw (cs := own_n2) (ds := cs) (Sn2.ext Ol1.2) (Sx.keep K1 nin0) (O2.ext Ol1.2) P5 (by decide) (by decide)) q15a q15c (g := (mkF m 25 #[rv xs, rv av1, iv 3, iv 2, rv ad2] [(.ref xs), (.ref nm2)])) rfl (by rw [hml]; rfl) (Steps.refl _) (argsL := [(.ref xs)]) (rest := []) (lenOf pd_0 rfl) rfl (by show 2 * 0 + _ ≤ _; exact Nat.le_of_eq rfl) (hb hby d11_25) (fun _ _ => ⟨rfl, e14, (by decide : 1 + 0 ≤ _), (by decide : 3 + 0 ≤ _)⟩)
      dsimp only [Pt.U, Pt.locs, Pt.cells, Pt.slots] at X15 l15 y15 z15 st15 hQ15
      subst l15 y15 z15
      obtain ⟨rfl, rfl, e15⟩ := hQ15
      have N15 := Fr.app N10 (Fr.nil n0)
      obtain ⟨lq15, X15, N15⟩ : ∃ lq, Stand p l e ({ frames := 3, cells := 2, slots := 4, locals := 38 } : Room) s m #[(.ref xs)] below meth c T15 lq 1 3 ∧ Fr n0 lq := ⟨_, X15, N15⟩
      refine own_tr (b := T15.setTop (mkF m 28 #[rv xs, rv av1, iv 3, iv 2, rv ad2] [(.int (if own_n2 = cs then 1 else 0))])) st15 ?_
      by_cases hc16 : own_n2 = cs
      · rw [if_pos hc16]
        refine own_go (b := T15.setTop (mkF m 31 #[rv xs, rv av1, iv 3, iv 2, rv ad2] [])) (fun t k => XS.ifNo X15.here hx rfl (hb hby d11_28) rfl ((if0 _ _).trans (feq (by decide : ¬ ((1 : Int32) = (0 : Int32)))).1) k) ?_
        refine own_go (b := T15.setTop (mkF m 33 #[rv xs, rv av1, iv 3, iv 2, rv ad2] [(.ref ad2)])) (fun t k => XS.aload X15.here hx rfl (hb hby d11_31) rfl rfl k) ?_
        obtain ⟨_, _, ⟨T17, L17, k17, n17⟩, -, X17, ⟨Lc17, hQ17, l17, y17, z17⟩, st17⟩ := Jvm.LawKit.callS X15 hx (y := (⟨"java/util/Optional", "of", "(Ljava/lang/Object;)Ljava/util/Optional;"⟩ : MethodName)) hown (mvT hZ (hw _ (List.mem_of_getElem? (i := 76) rfl))) (mvT hZ (hw _ (List.mem_of_getElem? (i := 77) rfl))) (mvT hZ (hw _ (List.mem_of_getElem? (i := 78) rfl))) (mvT hZ (hw _ (List.mem_of_getElem? (i := 79) rfl))) (by decide) (backOf (W := 0) (rm13 l Z a0 hw [] ad2  T1.heap n0 Zs1 ) hZ (hw _ (List.mem_of_getElem? (i := 79) rfl)) (hw _ (List.mem_of_getElem? (i := 78) rfl)) (by decide) (by decide)) (g := (mkF m 33 #[rv xs, rv av1, iv 3, iv 2, rv ad2] [(.ref ad2)])) rfl (by rw [hml]; rfl) (argsL := [(.ref ad2)]) (rest := []) (lenOf pd_6 rfl) rfl (by show 2 * 0 + _ ≤ _; exact Nat.le_of_eq rfl) (hb hby d11_33) (fun _ _ => ⟨rfl, e15, (by decide : 1 + 1 ≤ _), (by decide : 3 + 1 ≤ _)⟩)
        dsimp only [Pt.U, Pt.locs, Pt.cells, Pt.slots] at X17 l17 y17 z17 st17 hQ17
        subst l17 y17 z17
        obtain ⟨ro17, rfl, N17q, K17, Er17, Fo17⟩ := hQ17
        have Zs17 : n0 ≤ T17.heap.size := Nat.le_trans Zs1 K17.1
        have N17 := Fr.app N15 N17q
        have Kp17 : Keep h0 T17.heap [] := Kp1.trans K17 (fun x hx => nomatch hx)
        have Ol17 := Ol1.keep K17 all0
        obtain ⟨lq17, X17, N17⟩ : ∃ lq, Stand p l e ({ frames := 3, cells := 2, slots := 4, locals := 38 } : Room) s m #[(.ref xs)] below meth c T17 lq 2 4 ∧ Fr n0 lq := ⟨_, X17, N17⟩
        refine own_go (b := T17.setTop (mkF m 36 #[rv xs, rv av1, iv 3, iv 2, rv ad2] [(.ref ro17)])) st17 ?_
        exact own_retA X17 hx hlk hrt rfl rfl (hb hby d11_36) (Nat.le_of_ble_eq_true rfl) (Nat.le_of_ble_eq_true rfl) (⟨_, rfl, N17, Kp17, Er17, by rw [own_res, if_neg hc6, if_neg hc11, if_pos hc16]; exact (Fo17)⟩)
      · rw [if_neg hc16]
        refine own_go (b := T15.setTop (mkF m 37 #[rv xs, rv av1, iv 3, iv 2, rv ad2] [])) (fun t k => XS.ifYes X15.here hx rfl (pc0 := 28) (pc' := 37) rfl (hb hby d11_28) rfl ((if0 _ _).trans (teq (rfl : (0 : Int32) = (0 : Int32))).1) (by decide) (by decide) k) ?_
        refine own_go (b := T15.setTop (mkF m 40 #[rv xs, rv av1, iv 3, iv 3, rv ad2] [])) (fun t k => XS.iinc X15.here hx rfl (hb hby d11_37) rfl (l' := #[rv xs, rv av1, iv 3, iv 3, rv ad2]) rfl k) ?_
        refine own_go (b := T15.setTop (mkF m 9 #[rv xs, rv av1, iv 3, iv 3, rv ad2] [])) (fun t k => XS.goto X15.here hx rfl (pc0 := 40) (pc' := 9) rfl (hb hby d11_40) (by decide) (by decide) k) ?_
        refine own_go (b := T15.setTop (mkF m 10 #[rv xs, rv av1, iv 3, iv 3, rv ad2] [(.int 3)])) (fun t k => XS.iloadN X15.here hx rfl (hb hby d11_9) rfl  k) ?_
        refine own_go (b := T15.setTop (mkF m 11 #[rv xs, rv av1, iv 3, iv 3, rv ad2] [(.int 3), (.int 3)])) (fun t k => XS.iloadN X15.here hx rfl (hb hby d11_10) rfl  k) ?_
        refine own_go (b := T15.setTop (mkF m 43 #[rv xs, rv av1, iv 3, iv 3, rv ad2] [])) (fun t k => XS.icmpYes X15.here hx rfl (pc0 := 11) (pc' := 43) rfl (hb hby d11_11) rfl (flt (by decide : ¬ ((3 : Int32) < (3 : Int32)))).2.1 (by decide) (by decide) k) ?_
        obtain ⟨_, _, ⟨T18, L18, k18, n18⟩, -, X18, ⟨Lc18, hQ18, l18, y18, z18⟩, st18⟩ := Jvm.LawKit.callS X15 hx (y := (⟨"java/util/Optional", "empty", "()Ljava/util/Optional;"⟩ : MethodName)) hown (mvT hZ (hw _ (List.mem_of_getElem? (i := 109) rfl))) (mvT hZ (hw _ (List.mem_of_getElem? (i := 110) rfl))) (mvT hZ (hw _ (List.mem_of_getElem? (i := 78) rfl))) (mvT hZ (hw _ (List.mem_of_getElem? (i := 111) rfl))) (by decide) (backOf (W := 0) (rm19 l Z a0 hw []  em T1.heap n0 Zs1 (Sm.ext Ol1.2)) hZ (hw _ (List.mem_of_getElem? (i := 111) rfl)) (hw _ (List.mem_of_getElem? (i := 78) rfl)) (by decide) (by decide)) (g := (mkF m 43 #[rv xs, rv av1, iv 3, iv 3, rv ad2] [])) rfl (by rw [hml]; rfl) (argsL := []) (rest := []) (lenOf pd_7 rfl) rfl (by show 2 * 0 + _ ≤ _; exact Nat.le_of_eq rfl) (hb hby d11_43) (fun _ _ => ⟨rfl, e15, (by decide : 1 + 0 ≤ _), (by decide : 3 + 0 ≤ _)⟩)
        dsimp only [Pt.U, Pt.locs, Pt.cells, Pt.slots] at X18 l18 y18 z18 st18 hQ18
        subst l18 y18 z18
        obtain ⟨rfl, N18q, e18⟩ := hQ18
        have N18 := Fr.app N15 N18q
        obtain ⟨lq18, X18, N18⟩ : ∃ lq, Stand p l e ({ frames := 3, cells := 2, slots := 4, locals := 38 } : Room) s m #[(.ref xs)] below meth c T18 lq 1 3 ∧ Fr n0 lq := ⟨_, X18, N18⟩
        refine own_go (b := T18.setTop (mkF m 46 #[rv xs, rv av1, iv 3, iv 3, rv ad2] [(.ref em)])) st18 ?_
        exact own_retA X18 hx hlk hrt rfl rfl (hb hby d11_46) (Nat.le_of_ble_eq_true rfl) (Nat.le_of_ble_eq_true rfl) (⟨_, rfl, N18, by rw [e18]; exact Kp1, by rw [e18]; exact Em.ext Ol1.2, by rw [own_res, if_neg hc6, if_neg hc11, if_neg hc16]; exact (by rw [e18]; exact Fm.ext Ol1.2)⟩)
theorem d1_0 : decode method_2_code 0 = .ok (.iload_n 0, 1) := by decide +kernel
theorem d1_1 : decode method_2_code 1 = .ok (.ifCond .ne 68, 3) := by decide +kernel
theorem d1_4 : decode method_2_code 4 = .ok (.bipush 11, 2) := by decide +kernel
theorem d1_6 : decode method_2_code 6 = .ok (.newarray .char, 2) := by decide +kernel
theorem d1_8 : decode method_2_code 8 = .ok (.dup, 1) := by decide +kernel
theorem d1_9 : decode method_2_code 9 = .ok (.iconst 0, 1) := by decide +kernel
theorem d1_10 : decode method_2_code 10 = .ok (.bipush 101, 2) := by decide +kernel
theorem d1_12 : decode method_2_code 12 = .ok (.castore, 1) := by decide +kernel
theorem d1_13 : decode method_2_code 13 = .ok (.dup, 1) := by decide +kernel
theorem d1_14 : decode method_2_code 14 = .ok (.iconst 1, 1) := by decide +kernel
theorem d1_15 : decode method_2_code 15 = .ok (.bipush 114, 2) := by decide +kernel
theorem d1_17 : decode method_2_code 17 = .ok (.castore, 1) := by decide +kernel
theorem d1_18 : decode method_2_code 18 = .ok (.dup, 1) := by decide +kernel
theorem d1_19 : decode method_2_code 19 = .ok (.iconst 2, 1) := by decide +kernel
theorem d1_20 : decode method_2_code 20 = .ok (.bipush 114, 2) := by decide +kernel
theorem d1_22 : decode method_2_code 22 = .ok (.castore, 1) := by decide +kernel
theorem d1_23 : decode method_2_code 23 = .ok (.dup, 1) := by decide +kernel
theorem d1_24 : decode method_2_code 24 = .ok (.iconst 3, 1) := by decide +kernel
theorem d1_25 : decode method_2_code 25 = .ok (.bipush 111, 2) := by decide +kernel
theorem d1_27 : decode method_2_code 27 = .ok (.castore, 1) := by decide +kernel
theorem d1_28 : decode method_2_code 28 = .ok (.dup, 1) := by decide +kernel
theorem d1_29 : decode method_2_code 29 = .ok (.iconst 4, 1) := by decide +kernel
theorem d1_30 : decode method_2_code 30 = .ok (.bipush 114, 2) := by decide +kernel
theorem d1_32 : decode method_2_code 32 = .ok (.castore, 1) := by decide +kernel
theorem d1_33 : decode method_2_code 33 = .ok (.dup, 1) := by decide +kernel
theorem d1_34 : decode method_2_code 34 = .ok (.iconst 5, 1) := by decide +kernel
theorem d1_35 : decode method_2_code 35 = .ok (.bipush 115, 2) := by decide +kernel
theorem d1_37 : decode method_2_code 37 = .ok (.castore, 1) := by decide +kernel
theorem d1_38 : decode method_2_code 38 = .ok (.dup, 1) := by decide +kernel
theorem d1_39 : decode method_2_code 39 = .ok (.bipush 6, 2) := by decide +kernel
theorem d1_41 : decode method_2_code 41 = .ok (.bipush 45, 2) := by decide +kernel
theorem d1_43 : decode method_2_code 43 = .ok (.castore, 1) := by decide +kernel
theorem d1_44 : decode method_2_code 44 = .ok (.dup, 1) := by decide +kernel
theorem d1_45 : decode method_2_code 45 = .ok (.bipush 7, 2) := by decide +kernel
theorem d1_47 : decode method_2_code 47 = .ok (.bipush 108, 2) := by decide +kernel
theorem d1_49 : decode method_2_code 49 = .ok (.castore, 1) := by decide +kernel
theorem d1_50 : decode method_2_code 50 = .ok (.dup, 1) := by decide +kernel
theorem d1_51 : decode method_2_code 51 = .ok (.bipush 8, 2) := by decide +kernel
theorem d1_53 : decode method_2_code 53 = .ok (.bipush 105, 2) := by decide +kernel
theorem d1_55 : decode method_2_code 55 = .ok (.castore, 1) := by decide +kernel
theorem d1_56 : decode method_2_code 56 = .ok (.dup, 1) := by decide +kernel
theorem d1_57 : decode method_2_code 57 = .ok (.bipush 9, 2) := by decide +kernel
theorem d1_59 : decode method_2_code 59 = .ok (.bipush 115, 2) := by decide +kernel
theorem d1_61 : decode method_2_code 61 = .ok (.castore, 1) := by decide +kernel
theorem d1_62 : decode method_2_code 62 = .ok (.dup, 1) := by decide +kernel
theorem d1_63 : decode method_2_code 63 = .ok (.bipush 10, 2) := by decide +kernel
theorem d1_65 : decode method_2_code 65 = .ok (.bipush 116, 2) := by decide +kernel
theorem d1_67 : decode method_2_code 67 = .ok (.castore, 1) := by decide +kernel
theorem d1_68 : decode method_2_code 68 = .ok (.areturn, 1) := by decide +kernel
theorem d1_69 : decode method_2_code 69 = .ok (.iload_n 0, 1) := by decide +kernel
theorem d1_70 : decode method_2_code 70 = .ok (.iconst 1, 1) := by decide +kernel
theorem d1_71 : decode method_2_code 71 = .ok (.if_icmp .ne 74, 3) := by decide +kernel
theorem d1_74 : decode method_2_code 74 = .ok (.bipush 12, 2) := by decide +kernel
theorem d1_76 : decode method_2_code 76 = .ok (.newarray .char, 2) := by decide +kernel
theorem d1_78 : decode method_2_code 78 = .ok (.dup, 1) := by decide +kernel
theorem d1_79 : decode method_2_code 79 = .ok (.iconst 0, 1) := by decide +kernel
theorem d1_80 : decode method_2_code 80 = .ok (.bipush 115, 2) := by decide +kernel
theorem d1_82 : decode method_2_code 82 = .ok (.castore, 1) := by decide +kernel
theorem d1_83 : decode method_2_code 83 = .ok (.dup, 1) := by decide +kernel
theorem d1_84 : decode method_2_code 84 = .ok (.iconst 1, 1) := by decide +kernel
theorem d1_85 : decode method_2_code 85 = .ok (.bipush 105, 2) := by decide +kernel
theorem d1_87 : decode method_2_code 87 = .ok (.castore, 1) := by decide +kernel
theorem d1_88 : decode method_2_code 88 = .ok (.dup, 1) := by decide +kernel
theorem d1_89 : decode method_2_code 89 = .ok (.iconst 2, 1) := by decide +kernel
theorem d1_90 : decode method_2_code 90 = .ok (.bipush 110, 2) := by decide +kernel
theorem d1_92 : decode method_2_code 92 = .ok (.castore, 1) := by decide +kernel
theorem d1_93 : decode method_2_code 93 = .ok (.dup, 1) := by decide +kernel
theorem d1_94 : decode method_2_code 94 = .ok (.iconst 3, 1) := by decide +kernel
theorem d1_95 : decode method_2_code 95 = .ok (.bipush 103, 2) := by decide +kernel
theorem d1_97 : decode method_2_code 97 = .ok (.castore, 1) := by decide +kernel
theorem d1_98 : decode method_2_code 98 = .ok (.dup, 1) := by decide +kernel
theorem d1_99 : decode method_2_code 99 = .ok (.iconst 4, 1) := by decide +kernel
theorem d1_100 : decode method_2_code 100 = .ok (.bipush 108, 2) := by decide +kernel
theorem d1_102 : decode method_2_code 102 = .ok (.castore, 1) := by decide +kernel
theorem d1_103 : decode method_2_code 103 = .ok (.dup, 1) := by decide +kernel
theorem d1_104 : decode method_2_code 104 = .ok (.iconst 5, 1) := by decide +kernel
theorem d1_105 : decode method_2_code 105 = .ok (.bipush 101, 2) := by decide +kernel
theorem d1_107 : decode method_2_code 107 = .ok (.castore, 1) := by decide +kernel
theorem d1_108 : decode method_2_code 108 = .ok (.dup, 1) := by decide +kernel
theorem d1_109 : decode method_2_code 109 = .ok (.bipush 6, 2) := by decide +kernel
theorem d1_111 : decode method_2_code 111 = .ok (.bipush 45, 2) := by decide +kernel
theorem d1_113 : decode method_2_code 113 = .ok (.castore, 1) := by decide +kernel
theorem d1_114 : decode method_2_code 114 = .ok (.dup, 1) := by decide +kernel
theorem d1_115 : decode method_2_code 115 = .ok (.bipush 7, 2) := by decide +kernel
theorem d1_117 : decode method_2_code 117 = .ok (.bipush 101, 2) := by decide +kernel
theorem d1_119 : decode method_2_code 119 = .ok (.castore, 1) := by decide +kernel
theorem d1_120 : decode method_2_code 120 = .ok (.dup, 1) := by decide +kernel
theorem d1_121 : decode method_2_code 121 = .ok (.bipush 8, 2) := by decide +kernel
theorem d1_123 : decode method_2_code 123 = .ok (.bipush 114, 2) := by decide +kernel
theorem d1_125 : decode method_2_code 125 = .ok (.castore, 1) := by decide +kernel
theorem d1_126 : decode method_2_code 126 = .ok (.dup, 1) := by decide +kernel
theorem d1_127 : decode method_2_code 127 = .ok (.bipush 9, 2) := by decide +kernel
theorem d1_129 : decode method_2_code 129 = .ok (.bipush 114, 2) := by decide +kernel
theorem d1_131 : decode method_2_code 131 = .ok (.castore, 1) := by decide +kernel
theorem d1_132 : decode method_2_code 132 = .ok (.dup, 1) := by decide +kernel
theorem d1_133 : decode method_2_code 133 = .ok (.bipush 10, 2) := by decide +kernel
theorem d1_135 : decode method_2_code 135 = .ok (.bipush 111, 2) := by decide +kernel
theorem d1_137 : decode method_2_code 137 = .ok (.castore, 1) := by decide +kernel
theorem d1_138 : decode method_2_code 138 = .ok (.dup, 1) := by decide +kernel
theorem d1_139 : decode method_2_code 139 = .ok (.bipush 11, 2) := by decide +kernel
theorem d1_141 : decode method_2_code 141 = .ok (.bipush 114, 2) := by decide +kernel
theorem d1_143 : decode method_2_code 143 = .ok (.castore, 1) := by decide +kernel
theorem d1_144 : decode method_2_code 144 = .ok (.areturn, 1) := by decide +kernel
theorem d1_145 : decode method_2_code 145 = .ok (.bipush 7, 2) := by decide +kernel
theorem d1_147 : decode method_2_code 147 = .ok (.newarray .char, 2) := by decide +kernel
theorem d1_149 : decode method_2_code 149 = .ok (.dup, 1) := by decide +kernel
theorem d1_150 : decode method_2_code 150 = .ok (.iconst 0, 1) := by decide +kernel
theorem d1_151 : decode method_2_code 151 = .ok (.bipush 112, 2) := by decide +kernel
theorem d1_153 : decode method_2_code 153 = .ok (.castore, 1) := by decide +kernel
theorem d1_154 : decode method_2_code 154 = .ok (.dup, 1) := by decide +kernel
theorem d1_155 : decode method_2_code 155 = .ok (.iconst 1, 1) := by decide +kernel
theorem d1_156 : decode method_2_code 156 = .ok (.bipush 114, 2) := by decide +kernel
theorem d1_158 : decode method_2_code 158 = .ok (.castore, 1) := by decide +kernel
theorem d1_159 : decode method_2_code 159 = .ok (.dup, 1) := by decide +kernel
theorem d1_160 : decode method_2_code 160 = .ok (.iconst 2, 1) := by decide +kernel
theorem d1_161 : decode method_2_code 161 = .ok (.bipush 111, 2) := by decide +kernel
theorem d1_163 : decode method_2_code 163 = .ok (.castore, 1) := by decide +kernel
theorem d1_164 : decode method_2_code 164 = .ok (.dup, 1) := by decide +kernel
theorem d1_165 : decode method_2_code 165 = .ok (.iconst 3, 1) := by decide +kernel
theorem d1_166 : decode method_2_code 166 = .ok (.bipush 98, 2) := by decide +kernel
theorem d1_168 : decode method_2_code 168 = .ok (.castore, 1) := by decide +kernel
theorem d1_169 : decode method_2_code 169 = .ok (.dup, 1) := by decide +kernel
theorem d1_170 : decode method_2_code 170 = .ok (.iconst 4, 1) := by decide +kernel
theorem d1_171 : decode method_2_code 171 = .ok (.bipush 108, 2) := by decide +kernel
theorem d1_173 : decode method_2_code 173 = .ok (.castore, 1) := by decide +kernel
theorem d1_174 : decode method_2_code 174 = .ok (.dup, 1) := by decide +kernel
theorem d1_175 : decode method_2_code 175 = .ok (.iconst 5, 1) := by decide +kernel
theorem d1_176 : decode method_2_code 176 = .ok (.bipush 101, 2) := by decide +kernel
theorem d1_178 : decode method_2_code 178 = .ok (.castore, 1) := by decide +kernel
theorem d1_179 : decode method_2_code 179 = .ok (.dup, 1) := by decide +kernel
theorem d1_180 : decode method_2_code 180 = .ok (.bipush 6, 2) := by decide +kernel
theorem d1_182 : decode method_2_code 182 = .ok (.bipush 109, 2) := by decide +kernel
theorem d1_184 : decode method_2_code 184 = .ok (.castore, 1) := by decide +kernel
theorem d1_185 : decode method_2_code 185 = .ok (.areturn, 1) := by decide +kernel
theorem ef_1_0 (m : MethodId) (kw : Int32) : entryFrame m #[(.int kw)] 1 = mkF m 0 #[iv kw] [] := by first | (simp [entryFrame, mkF, argsToLocals, Value.category]; done) | rfl
def Q1_0 (Z : State) (kw : Int32) (h0 : Heap) (n0 : Nat) (v : Option Value) (h : Heap) (L : List Loc) : Prop := ∃ a k, v = some (.ref a) ∧ Fr n0 L ∧ Keep h0 h [] ∧ n0 ≤ a ∧ h0.size ≤ a ∧ Arv Z h a k .char (11 : Int32) [.int (nar .char (101 : Int32)), .int (nar .char (114 : Int32)), .int (nar .char (114 : Int32)), .int (nar .char (111 : Int32)), .int (nar .char (114 : Int32)), .int (nar .char (115 : Int32)), .int (nar .char (45 : Int32)), .int (nar .char (108 : Int32)), .int (nar .char (105 : Int32)), .int (nar .char (115 : Int32)), .int (nar .char (116 : Int32))] (.int (0 : Int32))
set_option maxRecDepth 65536 in
set_option maxHeartbeats 40000000 in
theorem rm1_0 (l : Launch) (Z : State) (a0 : Array Value) (hw : ∀ d ∈ tables_1, d.before a0 Z = true) (ws : List Jvm.Cond) (kw : Int32) (h0 : Heap) (n0 : Nat) (Z0 : n0 ≤ h0.size) (hk_ : kw = (0 : Int32)) :
    MetFree l (⟨"com/example/fault/fault/EnvelopeNamedPinLaw", "base", "(I)[C"⟩ : MethodName) (head1 (Jvm.Cond.code (⟨"com/example/fault/fault/EnvelopeNamedPinLaw", "base", "(I)[C"⟩ : MethodName) method_2_code 1 (some (.array .char)) :: ws) ({ frames := 0, cells := 1, slots := 11, locals := 0 } : Room)) (fun a U => a = #[(.int kw)] ∧ Z.Warmed39 U.vm ∧ U.heap = h0) (fun _ _ _ _ _ => True) (fun _ U o U' => ∃ v L, o = .returned v ∧ Q1_0 Z kw h0 n0 v U'.heap L ∧ FrameEnd U o U' L ({ frames := 0, cells := 1, slots := 11, locals := 0 } : Room).cells ({ frames := 0, cells := 1, slots := 11, locals := 0 } : Room).slots) := by
  refine MetFree.of_bodySF (plainFor_of_name pn_0) hisR ?_
  intro p e s m args below meth c s₁ Bd hml0 hP hK
  obtain ⟨rfl, hZ, hh⟩ := hP
  have hx := Bd.exec
  have hby := Bd.bytes
  have hml : c.maxLocals = 1 := hml0
  have hown : s.vm.findClass "com/example/fault/fault/EnvelopeNamedPinLaw" = some m.cls := findClass_of_methodNamed Bd.named
  have hnm := (name_of_methodNamed Bd.named Bd.method).1
  have hlk : meth.locks = false := Bd.notSynchronized
  have hrt := Bd.returns
  have X0 : Stand p l e ({ frames := 0, cells := 1, slots := 11, locals := 0 } : Room) s m #[(.int kw)] below meth c s₁ [] 0 0 := Stand.of_body Bd
  have e0 : s₁.heap = h0 := by rw [← hh, Bd.state]; rfl
  have N0 := Fr.nil n0
  show own_Endz p.tables e below (own_EndQ s ({ frames := 0, cells := 1, slots := 11, locals := 0 } : Room).cells ({ frames := 0, cells := 1, slots := 11, locals := 0 } : Room).slots (Q1_0 Z kw h0 n0)) (s₁.setTop (entryFrame m #[(.int kw)] 1))
  refine own_cast (ef_1_0 m kw) ?_
  subst hk_
  show own_Endz p.tables e below (own_EndQ s ({ frames := 0, cells := 1, slots := 11, locals := 0 } : Room).cells ({ frames := 0, cells := 1, slots := 11, locals := 0 } : Room).slots (Q1_0 Z ((0 : Int32)) h0 n0)) (s₁.setTop (mkF m 0 #[iv 0] []))
  refine own_go (b := s₁.setTop (mkF m 1 #[iv 0] [(.int 0)])) (fun t k => XS.iloadN X0.here hx rfl (hb hby d1_0) rfl  k) ?_
  refine own_go (b := s₁.setTop (mkF m 4 #[iv 0] [])) (fun t k => XS.ifNo X0.here hx rfl (hb hby d1_1) rfl ((if0 _ _).trans (teq (rfl : (0 : Int32) = (0 : Int32))).2) k) ?_
  refine own_go (b := s₁.setTop (mkF m 6 #[iv 0] [(.int 11)])) (fun t k => XS.bipush X0.here hx rfl (hb hby d1_4) k) ?_
  obtain ⟨T1, h1, k1, X1, e1, E1, A1, st1⟩ := newP X0 hx hZ (hw _ (List.mem_of_getElem? (i := 8) rfl)) e0 (g := (mkF m 6 #[iv 0] [(.int 11)])) rfl (hb hby d1_6) rfl (by decide) (cap := 11) (by decide) (by decide) (by decide) (by decide)
  obtain ⟨b1, g1⟩ : ∃ z, z = h0.size := ⟨_, rfl⟩
  rw [← g1] at A1 st1
  have g_b1 : n0 ≤ b1 := Nat.le_trans Z0 (Nat.le_of_eq g1.symm)
  have sz_b1 : h0.size ≤ b1 := Nat.le_trans (Keep.refl h0 []).1 (Nat.le_of_eq g1.symm)
  have Zs1 : n0 ≤ h1.size := Nat.le_trans Z0 E1.1
  have Kp1 : Keep h0 h1 [] := (Keep.refl h0 []).ext E1
  have V_b1 : Arv Z h1 b1 k1 .char (11 : Int32) [(.int (0 : Int32)), (.int (0 : Int32)), (.int (0 : Int32)), (.int (0 : Int32)), (.int (0 : Int32)), (.int (0 : Int32)), (.int (0 : Int32)), (.int (0 : Int32)), (.int (0 : Int32)), (.int (0 : Int32)), (.int (0 : Int32))] (.int (0 : Int32)) := (Arv.new A1 (by decide)).pad (pad_rep [] (.int (0 : Int32)) 11)
  refine own_go (b := T1.setTop (mkF m 8 #[iv 0] [(.ref b1)])) st1 ?_
  refine own_go (b := T1.setTop (mkF m 9 #[iv 0] [(.ref b1), (.ref b1)])) (fun t k => XS.dup X1.here hx rfl (hb hby d1_8) rfl rfl k) ?_
  refine own_go (b := T1.setTop (mkF m 10 #[iv 0] [(.int 0), (.ref b1), (.ref b1)])) (fun t k => XS.iconst X1.here hx rfl (hb hby d1_9) k) ?_
  refine own_go (b := T1.setTop (mkF m 12 #[iv 0] [(.int 101), (.int 0), (.ref b1), (.ref b1)])) (fun t k => XS.bipush X1.here hx rfl (hb hby d1_10) k) ?_
  obtain ⟨cl2, Ar2, qc2, Sz2, Ng2, Hs2, Ft2⟩ := id V_b1
  have hin2 : ¬ ((0 : Int32) < 0 ∨ cl2.slots.size ≤ ((0 : Int32)).toNatClampNeg) := inb_of Sz2 ⟨by decide, by decide⟩
  obtain ⟨T3, h3, X3, e3, W3, st3⟩ := stC X1 hx hZ e1 Ar2 (j := (0 : Int32)) hin2 (g := (mkF m 12 #[iv 0] [(.int 101), (.int 0), (.ref b1), (.ref b1)])) rfl rfl (hb hby d1_12)
  have V_b1_3 : Arv Z h3 b1 k1 .char (11 : Int32) [(.int (nar .char (101 : Int32))), (.int 0), (.int 0), (.int 0), (.int 0), (.int 0), (.int 0), (.int 0), (.int 0), (.int 0), (.int 0)] (.int (0 : Int32)) := Arv.set Ar2 qc2 Sz2 Ng2 Hs2 Ft2 (fits_nar_char _) W3 0 rfl (Nat.le_of_ble_eq_true rfl)
  have Zs3 : n0 ≤ h3.size := Nat.le_trans Zs1 (Keep.of_wr W3).1
  have N3 := Fr.snoc X3 N0 g_b1
  have Kp3 : Keep h0 h3 [] := Kp1.wr W3 (Or.inr sz_b1)
  refine own_go (b := T3.setTop (mkF m 13 #[iv 0] [(.ref b1)])) st3 ?_
  refine own_go (b := T3.setTop (mkF m 14 #[iv 0] [(.ref b1), (.ref b1)])) (fun t k => XS.dup X3.here hx rfl (hb hby d1_13) rfl rfl k) ?_
  refine own_go (b := T3.setTop (mkF m 15 #[iv 0] [(.int 1), (.ref b1), (.ref b1)])) (fun t k => XS.iconst X3.here hx rfl (hb hby d1_14) k) ?_
  refine own_go (b := T3.setTop (mkF m 17 #[iv 0] [(.int 114), (.int 1), (.ref b1), (.ref b1)])) (fun t k => XS.bipush X3.here hx rfl (hb hby d1_15) k) ?_
  obtain ⟨cl4, Ar4, qc4, Sz4, Ng4, Hs4, Ft4⟩ := id V_b1_3
  have hin4 : ¬ ((1 : Int32) < 0 ∨ cl4.slots.size ≤ ((1 : Int32)).toNatClampNeg) := inb_of Sz4 ⟨by decide, by decide⟩
  obtain ⟨T5, h5, X5, e5, W5, st5⟩ := stC X3 hx hZ e3 Ar4 (j := (1 : Int32)) hin4 (g := (mkF m 17 #[iv 0] [(.int 114), (.int 1), (.ref b1), (.ref b1)])) rfl rfl (hb hby d1_17)
  have V_b1_5 : Arv Z h5 b1 k1 .char (11 : Int32) [(.int (nar .char (101 : Int32))), (.int (nar .char (114 : Int32))), (.int 0), (.int 0), (.int 0), (.int 0), (.int 0), (.int 0), (.int 0), (.int 0), (.int 0)] (.int (0 : Int32)) := Arv.set Ar4 qc4 Sz4 Ng4 Hs4 Ft4 (fits_nar_char _) W5 1 rfl (Nat.le_of_ble_eq_true rfl)
  have Zs5 : n0 ≤ h5.size := Nat.le_trans Zs3 (Keep.of_wr W5).1
  have N5 := Fr.snoc X5 N3 g_b1
  have Kp5 : Keep h0 h5 [] := Kp3.wr W5 (Or.inr sz_b1)
  refine own_go (b := T5.setTop (mkF m 18 #[iv 0] [(.ref b1)])) st5 ?_
  refine own_go (b := T5.setTop (mkF m 19 #[iv 0] [(.ref b1), (.ref b1)])) (fun t k => XS.dup X5.here hx rfl (hb hby d1_18) rfl rfl k) ?_
  refine own_go (b := T5.setTop (mkF m 20 #[iv 0] [(.int 2), (.ref b1), (.ref b1)])) (fun t k => XS.iconst X5.here hx rfl (hb hby d1_19) k) ?_
  refine own_go (b := T5.setTop (mkF m 22 #[iv 0] [(.int 114), (.int 2), (.ref b1), (.ref b1)])) (fun t k => XS.bipush X5.here hx rfl (hb hby d1_20) k) ?_
  obtain ⟨cl6, Ar6, qc6, Sz6, Ng6, Hs6, Ft6⟩ := id V_b1_5
  have hin6 : ¬ ((2 : Int32) < 0 ∨ cl6.slots.size ≤ ((2 : Int32)).toNatClampNeg) := inb_of Sz6 ⟨by decide, by decide⟩
  obtain ⟨T7, h7, X7, e7, W7, st7⟩ := stC X5 hx hZ e5 Ar6 (j := (2 : Int32)) hin6 (g := (mkF m 22 #[iv 0] [(.int 114), (.int 2), (.ref b1), (.ref b1)])) rfl rfl (hb hby d1_22)
  have V_b1_7 : Arv Z h7 b1 k1 .char (11 : Int32) [(.int (nar .char (101 : Int32))), (.int (nar .char (114 : Int32))), (.int (nar .char (114 : Int32))), (.int 0), (.int 0), (.int 0), (.int 0), (.int 0), (.int 0), (.int 0), (.int 0)] (.int (0 : Int32)) := Arv.set Ar6 qc6 Sz6 Ng6 Hs6 Ft6 (fits_nar_char _) W7 2 rfl (Nat.le_of_ble_eq_true rfl)
  have Zs7 : n0 ≤ h7.size := Nat.le_trans Zs5 (Keep.of_wr W7).1
  have N7 := Fr.snoc X7 N5 g_b1
  have Kp7 : Keep h0 h7 [] := Kp5.wr W7 (Or.inr sz_b1)
  refine own_go (b := T7.setTop (mkF m 23 #[iv 0] [(.ref b1)])) st7 ?_
  refine own_go (b := T7.setTop (mkF m 24 #[iv 0] [(.ref b1), (.ref b1)])) (fun t k => XS.dup X7.here hx rfl (hb hby d1_23) rfl rfl k) ?_
  refine own_go (b := T7.setTop (mkF m 25 #[iv 0] [(.int 3), (.ref b1), (.ref b1)])) (fun t k => XS.iconst X7.here hx rfl (hb hby d1_24) k) ?_
  refine own_go (b := T7.setTop (mkF m 27 #[iv 0] [(.int 111), (.int 3), (.ref b1), (.ref b1)])) (fun t k => XS.bipush X7.here hx rfl (hb hby d1_25) k) ?_
  obtain ⟨cl8, Ar8, qc8, Sz8, Ng8, Hs8, Ft8⟩ := id V_b1_7
  have hin8 : ¬ ((3 : Int32) < 0 ∨ cl8.slots.size ≤ ((3 : Int32)).toNatClampNeg) := inb_of Sz8 ⟨by decide, by decide⟩
  obtain ⟨T9, h9, X9, e9, W9, st9⟩ := stC X7 hx hZ e7 Ar8 (j := (3 : Int32)) hin8 (g := (mkF m 27 #[iv 0] [(.int 111), (.int 3), (.ref b1), (.ref b1)])) rfl rfl (hb hby d1_27)
  have V_b1_9 : Arv Z h9 b1 k1 .char (11 : Int32) [(.int (nar .char (101 : Int32))), (.int (nar .char (114 : Int32))), (.int (nar .char (114 : Int32))), (.int (nar .char (111 : Int32))), (.int 0), (.int 0), (.int 0), (.int 0), (.int 0), (.int 0), (.int 0)] (.int (0 : Int32)) := Arv.set Ar8 qc8 Sz8 Ng8 Hs8 Ft8 (fits_nar_char _) W9 3 rfl (Nat.le_of_ble_eq_true rfl)
  have Zs9 : n0 ≤ h9.size := Nat.le_trans Zs7 (Keep.of_wr W9).1
  have N9 := Fr.snoc X9 N7 g_b1
  have Kp9 : Keep h0 h9 [] := Kp7.wr W9 (Or.inr sz_b1)
  refine own_go (b := T9.setTop (mkF m 28 #[iv 0] [(.ref b1)])) st9 ?_
  refine own_go (b := T9.setTop (mkF m 29 #[iv 0] [(.ref b1), (.ref b1)])) (fun t k => XS.dup X9.here hx rfl (hb hby d1_28) rfl rfl k) ?_
  refine own_go (b := T9.setTop (mkF m 30 #[iv 0] [(.int 4), (.ref b1), (.ref b1)])) (fun t k => XS.iconst X9.here hx rfl (hb hby d1_29) k) ?_
  refine own_go (b := T9.setTop (mkF m 32 #[iv 0] [(.int 114), (.int 4), (.ref b1), (.ref b1)])) (fun t k => XS.bipush X9.here hx rfl (hb hby d1_30) k) ?_
  obtain ⟨cl10, Ar10, qc10, Sz10, Ng10, Hs10, Ft10⟩ := id V_b1_9
  have hin10 : ¬ ((4 : Int32) < 0 ∨ cl10.slots.size ≤ ((4 : Int32)).toNatClampNeg) := inb_of Sz10 ⟨by decide, by decide⟩
  obtain ⟨T11, h11, X11, e11, W11, st11⟩ := stC X9 hx hZ e9 Ar10 (j := (4 : Int32)) hin10 (g := (mkF m 32 #[iv 0] [(.int 114), (.int 4), (.ref b1), (.ref b1)])) rfl rfl (hb hby d1_32)
  have V_b1_11 : Arv Z h11 b1 k1 .char (11 : Int32) [(.int (nar .char (101 : Int32))), (.int (nar .char (114 : Int32))), (.int (nar .char (114 : Int32))), (.int (nar .char (111 : Int32))), (.int (nar .char (114 : Int32))), (.int 0), (.int 0), (.int 0), (.int 0), (.int 0), (.int 0)] (.int (0 : Int32)) := Arv.set Ar10 qc10 Sz10 Ng10 Hs10 Ft10 (fits_nar_char _) W11 4 rfl (Nat.le_of_ble_eq_true rfl)
  have Zs11 : n0 ≤ h11.size := Nat.le_trans Zs9 (Keep.of_wr W11).1
  have N11 := Fr.snoc X11 N9 g_b1
  have Kp11 : Keep h0 h11 [] := Kp9.wr W11 (Or.inr sz_b1)
  refine own_go (b := T11.setTop (mkF m 33 #[iv 0] [(.ref b1)])) st11 ?_
  refine own_go (b := T11.setTop (mkF m 34 #[iv 0] [(.ref b1), (.ref b1)])) (fun t k => XS.dup X11.here hx rfl (hb hby d1_33) rfl rfl k) ?_
  refine own_go (b := T11.setTop (mkF m 35 #[iv 0] [(.int 5), (.ref b1), (.ref b1)])) (fun t k => XS.iconst X11.here hx rfl (hb hby d1_34) k) ?_
  refine own_go (b := T11.setTop (mkF m 37 #[iv 0] [(.int 115), (.int 5), (.ref b1), (.ref b1)])) (fun t k => XS.bipush X11.here hx rfl (hb hby d1_35) k) ?_
  obtain ⟨cl12, Ar12, qc12, Sz12, Ng12, Hs12, Ft12⟩ := id V_b1_11
  have hin12 : ¬ ((5 : Int32) < 0 ∨ cl12.slots.size ≤ ((5 : Int32)).toNatClampNeg) := inb_of Sz12 ⟨by decide, by decide⟩
  obtain ⟨T13, h13, X13, e13, W13, st13⟩ := stC X11 hx hZ e11 Ar12 (j := (5 : Int32)) hin12 (g := (mkF m 37 #[iv 0] [(.int 115), (.int 5), (.ref b1), (.ref b1)])) rfl rfl (hb hby d1_37)
  have V_b1_13 : Arv Z h13 b1 k1 .char (11 : Int32) [(.int (nar .char (101 : Int32))), (.int (nar .char (114 : Int32))), (.int (nar .char (114 : Int32))), (.int (nar .char (111 : Int32))), (.int (nar .char (114 : Int32))), (.int (nar .char (115 : Int32))), (.int 0), (.int 0), (.int 0), (.int 0), (.int 0)] (.int (0 : Int32)) := Arv.set Ar12 qc12 Sz12 Ng12 Hs12 Ft12 (fits_nar_char _) W13 5 rfl (Nat.le_of_ble_eq_true rfl)
  have Zs13 : n0 ≤ h13.size := Nat.le_trans Zs11 (Keep.of_wr W13).1
  have N13 := Fr.snoc X13 N11 g_b1
  have Kp13 : Keep h0 h13 [] := Kp11.wr W13 (Or.inr sz_b1)
  refine own_go (b := T13.setTop (mkF m 38 #[iv 0] [(.ref b1)])) st13 ?_
  refine own_go (b := T13.setTop (mkF m 39 #[iv 0] [(.ref b1), (.ref b1)])) (fun t k => XS.dup X13.here hx rfl (hb hby d1_38) rfl rfl k) ?_
  refine own_go (b := T13.setTop (mkF m 41 #[iv 0] [(.int 6), (.ref b1), (.ref b1)])) (fun t k => XS.bipush X13.here hx rfl (hb hby d1_39) k) ?_
  refine own_go (b := T13.setTop (mkF m 43 #[iv 0] [(.int 45), (.int 6), (.ref b1), (.ref b1)])) (fun t k => XS.bipush X13.here hx rfl (hb hby d1_41) k) ?_
  obtain ⟨cl14, Ar14, qc14, Sz14, Ng14, Hs14, Ft14⟩ := id V_b1_13
  have hin14 : ¬ ((6 : Int32) < 0 ∨ cl14.slots.size ≤ ((6 : Int32)).toNatClampNeg) := inb_of Sz14 ⟨by decide, by decide⟩
  obtain ⟨T15, h15, X15, e15, W15, st15⟩ := stC X13 hx hZ e13 Ar14 (j := (6 : Int32)) hin14 (g := (mkF m 43 #[iv 0] [(.int 45), (.int 6), (.ref b1), (.ref b1)])) rfl rfl (hb hby d1_43)
  have V_b1_15 : Arv Z h15 b1 k1 .char (11 : Int32) [(.int (nar .char (101 : Int32))), (.int (nar .char (114 : Int32))), (.int (nar .char (114 : Int32))), (.int (nar .char (111 : Int32))), (.int (nar .char (114 : Int32))), (.int (nar .char (115 : Int32))), (.int (nar .char (45 : Int32))), (.int 0), (.int 0), (.int 0), (.int 0)] (.int (0 : Int32)) := Arv.set Ar14 qc14 Sz14 Ng14 Hs14 Ft14 (fits_nar_char _) W15 6 rfl (Nat.le_of_ble_eq_true rfl)
  have Zs15 : n0 ≤ h15.size := Nat.le_trans Zs13 (Keep.of_wr W15).1
  have N15 := Fr.snoc X15 N13 g_b1
  have Kp15 : Keep h0 h15 [] := Kp13.wr W15 (Or.inr sz_b1)
  refine own_go (b := T15.setTop (mkF m 44 #[iv 0] [(.ref b1)])) st15 ?_
  refine own_go (b := T15.setTop (mkF m 45 #[iv 0] [(.ref b1), (.ref b1)])) (fun t k => XS.dup X15.here hx rfl (hb hby d1_44) rfl rfl k) ?_
  refine own_go (b := T15.setTop (mkF m 47 #[iv 0] [(.int 7), (.ref b1), (.ref b1)])) (fun t k => XS.bipush X15.here hx rfl (hb hby d1_45) k) ?_
  refine own_go (b := T15.setTop (mkF m 49 #[iv 0] [(.int 108), (.int 7), (.ref b1), (.ref b1)])) (fun t k => XS.bipush X15.here hx rfl (hb hby d1_47) k) ?_
  obtain ⟨cl16, Ar16, qc16, Sz16, Ng16, Hs16, Ft16⟩ := id V_b1_15
  have hin16 : ¬ ((7 : Int32) < 0 ∨ cl16.slots.size ≤ ((7 : Int32)).toNatClampNeg) := inb_of Sz16 ⟨by decide, by decide⟩
  obtain ⟨T17, h17, X17, e17, W17, st17⟩ := stC X15 hx hZ e15 Ar16 (j := (7 : Int32)) hin16 (g := (mkF m 49 #[iv 0] [(.int 108), (.int 7), (.ref b1), (.ref b1)])) rfl rfl (hb hby d1_49)
  have V_b1_17 : Arv Z h17 b1 k1 .char (11 : Int32) [(.int (nar .char (101 : Int32))), (.int (nar .char (114 : Int32))), (.int (nar .char (114 : Int32))), (.int (nar .char (111 : Int32))), (.int (nar .char (114 : Int32))), (.int (nar .char (115 : Int32))), (.int (nar .char (45 : Int32))), (.int (nar .char (108 : Int32))), (.int 0), (.int 0), (.int 0)] (.int (0 : Int32)) := Arv.set Ar16 qc16 Sz16 Ng16 Hs16 Ft16 (fits_nar_char _) W17 7 rfl (Nat.le_of_ble_eq_true rfl)
  have Zs17 : n0 ≤ h17.size := Nat.le_trans Zs15 (Keep.of_wr W17).1
  have N17 := Fr.snoc X17 N15 g_b1
  have Kp17 : Keep h0 h17 [] := Kp15.wr W17 (Or.inr sz_b1)
  refine own_go (b := T17.setTop (mkF m 50 #[iv 0] [(.ref b1)])) st17 ?_
  refine own_go (b := T17.setTop (mkF m 51 #[iv 0] [(.ref b1), (.ref b1)])) (fun t k => XS.dup X17.here hx rfl (hb hby d1_50) rfl rfl k) ?_
  refine own_go (b := T17.setTop (mkF m 53 #[iv 0] [(.int 8), (.ref b1), (.ref b1)])) (fun t k => XS.bipush X17.here hx rfl (hb hby d1_51) k) ?_
  refine own_go (b := T17.setTop (mkF m 55 #[iv 0] [(.int 105), (.int 8), (.ref b1), (.ref b1)])) (fun t k => XS.bipush X17.here hx rfl (hb hby d1_53) k) ?_
  obtain ⟨cl18, Ar18, qc18, Sz18, Ng18, Hs18, Ft18⟩ := id V_b1_17
  have hin18 : ¬ ((8 : Int32) < 0 ∨ cl18.slots.size ≤ ((8 : Int32)).toNatClampNeg) := inb_of Sz18 ⟨by decide, by decide⟩
  obtain ⟨T19, h19, X19, e19, W19, st19⟩ := stC X17 hx hZ e17 Ar18 (j := (8 : Int32)) hin18 (g := (mkF m 55 #[iv 0] [(.int 105), (.int 8), (.ref b1), (.ref b1)])) rfl rfl (hb hby d1_55)
  have V_b1_19 : Arv Z h19 b1 k1 .char (11 : Int32) [(.int (nar .char (101 : Int32))), (.int (nar .char (114 : Int32))), (.int (nar .char (114 : Int32))), (.int (nar .char (111 : Int32))), (.int (nar .char (114 : Int32))), (.int (nar .char (115 : Int32))), (.int (nar .char (45 : Int32))), (.int (nar .char (108 : Int32))), (.int (nar .char (105 : Int32))), (.int 0), (.int 0)] (.int (0 : Int32)) := Arv.set Ar18 qc18 Sz18 Ng18 Hs18 Ft18 (fits_nar_char _) W19 8 rfl (Nat.le_of_ble_eq_true rfl)
  have Zs19 : n0 ≤ h19.size := Nat.le_trans Zs17 (Keep.of_wr W19).1
  have N19 := Fr.snoc X19 N17 g_b1
  have Kp19 : Keep h0 h19 [] := Kp17.wr W19 (Or.inr sz_b1)
  refine own_go (b := T19.setTop (mkF m 56 #[iv 0] [(.ref b1)])) st19 ?_
  refine own_go (b := T19.setTop (mkF m 57 #[iv 0] [(.ref b1), (.ref b1)])) (fun t k => XS.dup X19.here hx rfl (hb hby d1_56) rfl rfl k) ?_
  refine own_go (b := T19.setTop (mkF m 59 #[iv 0] [(.int 9), (.ref b1), (.ref b1)])) (fun t k => XS.bipush X19.here hx rfl (hb hby d1_57) k) ?_
  refine own_go (b := T19.setTop (mkF m 61 #[iv 0] [(.int 115), (.int 9), (.ref b1), (.ref b1)])) (fun t k => XS.bipush X19.here hx rfl (hb hby d1_59) k) ?_
  obtain ⟨cl20, Ar20, qc20, Sz20, Ng20, Hs20, Ft20⟩ := id V_b1_19
  have hin20 : ¬ ((9 : Int32) < 0 ∨ cl20.slots.size ≤ ((9 : Int32)).toNatClampNeg) := inb_of Sz20 ⟨by decide, by decide⟩
  obtain ⟨T21, h21, X21, e21, W21, st21⟩ := stC X19 hx hZ e19 Ar20 (j := (9 : Int32)) hin20 (g := (mkF m 61 #[iv 0] [(.int 115), (.int 9), (.ref b1), (.ref b1)])) rfl rfl (hb hby d1_61)
  have V_b1_21 : Arv Z h21 b1 k1 .char (11 : Int32) [(.int (nar .char (101 : Int32))), (.int (nar .char (114 : Int32))), (.int (nar .char (114 : Int32))), (.int (nar .char (111 : Int32))), (.int (nar .char (114 : Int32))), (.int (nar .char (115 : Int32))), (.int (nar .char (45 : Int32))), (.int (nar .char (108 : Int32))), (.int (nar .char (105 : Int32))), (.int (nar .char (115 : Int32))), (.int 0)] (.int (0 : Int32)) := Arv.set Ar20 qc20 Sz20 Ng20 Hs20 Ft20 (fits_nar_char _) W21 9 rfl (Nat.le_of_ble_eq_true rfl)
  have Zs21 : n0 ≤ h21.size := Nat.le_trans Zs19 (Keep.of_wr W21).1
  have N21 := Fr.snoc X21 N19 g_b1
  have Kp21 : Keep h0 h21 [] := Kp19.wr W21 (Or.inr sz_b1)
  refine own_go (b := T21.setTop (mkF m 62 #[iv 0] [(.ref b1)])) st21 ?_
  refine own_go (b := T21.setTop (mkF m 63 #[iv 0] [(.ref b1), (.ref b1)])) (fun t k => XS.dup X21.here hx rfl (hb hby d1_62) rfl rfl k) ?_
  refine own_go (b := T21.setTop (mkF m 65 #[iv 0] [(.int 10), (.ref b1), (.ref b1)])) (fun t k => XS.bipush X21.here hx rfl (hb hby d1_63) k) ?_
  refine own_go (b := T21.setTop (mkF m 67 #[iv 0] [(.int 116), (.int 10), (.ref b1), (.ref b1)])) (fun t k => XS.bipush X21.here hx rfl (hb hby d1_65) k) ?_
  obtain ⟨cl22, Ar22, qc22, Sz22, Ng22, Hs22, Ft22⟩ := id V_b1_21
  have hin22 : ¬ ((10 : Int32) < 0 ∨ cl22.slots.size ≤ ((10 : Int32)).toNatClampNeg) := inb_of Sz22 ⟨by decide, by decide⟩
  obtain ⟨T23, h23, X23, e23, W23, st23⟩ := stC X21 hx hZ e21 Ar22 (j := (10 : Int32)) hin22 (g := (mkF m 67 #[iv 0] [(.int 116), (.int 10), (.ref b1), (.ref b1)])) rfl rfl (hb hby d1_67)
  have V_b1_23 : Arv Z h23 b1 k1 .char (11 : Int32) [(.int (nar .char (101 : Int32))), (.int (nar .char (114 : Int32))), (.int (nar .char (114 : Int32))), (.int (nar .char (111 : Int32))), (.int (nar .char (114 : Int32))), (.int (nar .char (115 : Int32))), (.int (nar .char (45 : Int32))), (.int (nar .char (108 : Int32))), (.int (nar .char (105 : Int32))), (.int (nar .char (115 : Int32))), (.int (nar .char (116 : Int32)))] (.int (0 : Int32)) := Arv.set Ar22 qc22 Sz22 Ng22 Hs22 Ft22 (fits_nar_char _) W23 10 rfl (Nat.le_of_ble_eq_true rfl)
  have Zs23 : n0 ≤ h23.size := Nat.le_trans Zs21 (Keep.of_wr W23).1
  have N23 := Fr.snoc X23 N21 g_b1
  have Kp23 : Keep h0 h23 [] := Kp21.wr W23 (Or.inr sz_b1)
  refine own_go (b := T23.setTop (mkF m 68 #[iv 0] [(.ref b1)])) st23 ?_
  exact own_retA X23 hx hlk hrt rfl rfl (hb hby d1_68) (Nat.le_of_ble_eq_true rfl) (Nat.le_of_ble_eq_true rfl) (⟨_, _, rfl, N23, by rw [e23]; exact Kp23, g_b1, sz_b1, by rw [e23]; exact V_b1_23⟩)
theorem d20_0 : decode method_3_code 0 = .ok (.iload_n 0, 1) := by decide +kernel
theorem d20_1 : decode method_3_code 1 = .ok (.ifCond .ne 73, 3) := by decide +kernel
theorem d20_4 : decode method_3_code 4 = .ok (.bipush 12, 2) := by decide +kernel
theorem d20_6 : decode method_3_code 6 = .ok (.newarray .char, 2) := by decide +kernel
theorem d20_8 : decode method_3_code 8 = .ok (.dup, 1) := by decide +kernel
theorem d20_9 : decode method_3_code 9 = .ok (.iconst 0, 1) := by decide +kernel
theorem d20_10 : decode method_3_code 10 = .ok (.bipush 101, 2) := by decide +kernel
theorem d20_12 : decode method_3_code 12 = .ok (.castore, 1) := by decide +kernel
theorem d20_13 : decode method_3_code 13 = .ok (.dup, 1) := by decide +kernel
theorem d20_14 : decode method_3_code 14 = .ok (.iconst 1, 1) := by decide +kernel
theorem d20_15 : decode method_3_code 15 = .ok (.bipush 114, 2) := by decide +kernel
theorem d20_17 : decode method_3_code 17 = .ok (.castore, 1) := by decide +kernel
theorem d20_18 : decode method_3_code 18 = .ok (.dup, 1) := by decide +kernel
theorem d20_19 : decode method_3_code 19 = .ok (.iconst 2, 1) := by decide +kernel
theorem d20_20 : decode method_3_code 20 = .ok (.bipush 114, 2) := by decide +kernel
theorem d20_22 : decode method_3_code 22 = .ok (.castore, 1) := by decide +kernel
theorem d20_23 : decode method_3_code 23 = .ok (.dup, 1) := by decide +kernel
theorem d20_24 : decode method_3_code 24 = .ok (.iconst 3, 1) := by decide +kernel
theorem d20_25 : decode method_3_code 25 = .ok (.bipush 111, 2) := by decide +kernel
theorem d20_27 : decode method_3_code 27 = .ok (.castore, 1) := by decide +kernel
theorem d20_28 : decode method_3_code 28 = .ok (.dup, 1) := by decide +kernel
theorem d20_29 : decode method_3_code 29 = .ok (.iconst 4, 1) := by decide +kernel
theorem d20_30 : decode method_3_code 30 = .ok (.bipush 114, 2) := by decide +kernel
theorem d20_32 : decode method_3_code 32 = .ok (.castore, 1) := by decide +kernel
theorem d20_33 : decode method_3_code 33 = .ok (.dup, 1) := by decide +kernel
theorem d20_34 : decode method_3_code 34 = .ok (.iconst 5, 1) := by decide +kernel
theorem d20_35 : decode method_3_code 35 = .ok (.bipush 115, 2) := by decide +kernel
theorem d20_37 : decode method_3_code 37 = .ok (.castore, 1) := by decide +kernel
theorem d20_38 : decode method_3_code 38 = .ok (.dup, 1) := by decide +kernel
theorem d20_39 : decode method_3_code 39 = .ok (.bipush 6, 2) := by decide +kernel
theorem d20_41 : decode method_3_code 41 = .ok (.bipush 45, 2) := by decide +kernel
theorem d20_43 : decode method_3_code 43 = .ok (.castore, 1) := by decide +kernel
theorem d20_44 : decode method_3_code 44 = .ok (.dup, 1) := by decide +kernel
theorem d20_45 : decode method_3_code 45 = .ok (.bipush 7, 2) := by decide +kernel
theorem d20_47 : decode method_3_code 47 = .ok (.bipush 108, 2) := by decide +kernel
theorem d20_49 : decode method_3_code 49 = .ok (.castore, 1) := by decide +kernel
theorem d20_50 : decode method_3_code 50 = .ok (.dup, 1) := by decide +kernel
theorem d20_51 : decode method_3_code 51 = .ok (.bipush 8, 2) := by decide +kernel
theorem d20_53 : decode method_3_code 53 = .ok (.bipush 105, 2) := by decide +kernel
theorem d20_55 : decode method_3_code 55 = .ok (.castore, 1) := by decide +kernel
theorem d20_56 : decode method_3_code 56 = .ok (.dup, 1) := by decide +kernel
theorem d20_57 : decode method_3_code 57 = .ok (.bipush 9, 2) := by decide +kernel
theorem d20_59 : decode method_3_code 59 = .ok (.bipush 115, 2) := by decide +kernel
theorem d20_61 : decode method_3_code 61 = .ok (.castore, 1) := by decide +kernel
theorem d20_62 : decode method_3_code 62 = .ok (.dup, 1) := by decide +kernel
theorem d20_63 : decode method_3_code 63 = .ok (.bipush 10, 2) := by decide +kernel
theorem d20_65 : decode method_3_code 65 = .ok (.bipush 116, 2) := by decide +kernel
theorem d20_67 : decode method_3_code 67 = .ok (.castore, 1) := by decide +kernel
theorem d20_68 : decode method_3_code 68 = .ok (.dup, 1) := by decide +kernel
theorem d20_69 : decode method_3_code 69 = .ok (.bipush 11, 2) := by decide +kernel
theorem d20_71 : decode method_3_code 71 = .ok (.iload_n 1, 1) := by decide +kernel
theorem d20_72 : decode method_3_code 72 = .ok (.castore, 1) := by decide +kernel
theorem d20_73 : decode method_3_code 73 = .ok (.areturn, 1) := by decide +kernel
theorem d20_74 : decode method_3_code 74 = .ok (.iload_n 0, 1) := by decide +kernel
theorem d20_75 : decode method_3_code 75 = .ok (.iconst 1, 1) := by decide +kernel
theorem d20_76 : decode method_3_code 76 = .ok (.if_icmp .ne 79, 3) := by decide +kernel
theorem d20_79 : decode method_3_code 79 = .ok (.bipush 13, 2) := by decide +kernel
theorem d20_81 : decode method_3_code 81 = .ok (.newarray .char, 2) := by decide +kernel
theorem d20_83 : decode method_3_code 83 = .ok (.dup, 1) := by decide +kernel
theorem d20_84 : decode method_3_code 84 = .ok (.iconst 0, 1) := by decide +kernel
theorem d20_85 : decode method_3_code 85 = .ok (.bipush 115, 2) := by decide +kernel
theorem d20_87 : decode method_3_code 87 = .ok (.castore, 1) := by decide +kernel
theorem d20_88 : decode method_3_code 88 = .ok (.dup, 1) := by decide +kernel
theorem d20_89 : decode method_3_code 89 = .ok (.iconst 1, 1) := by decide +kernel
theorem d20_90 : decode method_3_code 90 = .ok (.bipush 105, 2) := by decide +kernel
theorem d20_92 : decode method_3_code 92 = .ok (.castore, 1) := by decide +kernel
theorem d20_93 : decode method_3_code 93 = .ok (.dup, 1) := by decide +kernel
theorem d20_94 : decode method_3_code 94 = .ok (.iconst 2, 1) := by decide +kernel
theorem d20_95 : decode method_3_code 95 = .ok (.bipush 110, 2) := by decide +kernel
theorem d20_97 : decode method_3_code 97 = .ok (.castore, 1) := by decide +kernel
theorem d20_98 : decode method_3_code 98 = .ok (.dup, 1) := by decide +kernel
theorem d20_99 : decode method_3_code 99 = .ok (.iconst 3, 1) := by decide +kernel
theorem d20_100 : decode method_3_code 100 = .ok (.bipush 103, 2) := by decide +kernel
theorem d20_102 : decode method_3_code 102 = .ok (.castore, 1) := by decide +kernel
theorem d20_103 : decode method_3_code 103 = .ok (.dup, 1) := by decide +kernel
theorem d20_104 : decode method_3_code 104 = .ok (.iconst 4, 1) := by decide +kernel
theorem d20_105 : decode method_3_code 105 = .ok (.bipush 108, 2) := by decide +kernel
theorem d20_107 : decode method_3_code 107 = .ok (.castore, 1) := by decide +kernel
theorem d20_108 : decode method_3_code 108 = .ok (.dup, 1) := by decide +kernel
theorem d20_109 : decode method_3_code 109 = .ok (.iconst 5, 1) := by decide +kernel
theorem d20_110 : decode method_3_code 110 = .ok (.bipush 101, 2) := by decide +kernel
theorem d20_112 : decode method_3_code 112 = .ok (.castore, 1) := by decide +kernel
theorem d20_113 : decode method_3_code 113 = .ok (.dup, 1) := by decide +kernel
theorem d20_114 : decode method_3_code 114 = .ok (.bipush 6, 2) := by decide +kernel
theorem d20_116 : decode method_3_code 116 = .ok (.bipush 45, 2) := by decide +kernel
theorem d20_118 : decode method_3_code 118 = .ok (.castore, 1) := by decide +kernel
theorem d20_119 : decode method_3_code 119 = .ok (.dup, 1) := by decide +kernel
theorem d20_120 : decode method_3_code 120 = .ok (.bipush 7, 2) := by decide +kernel
theorem d20_122 : decode method_3_code 122 = .ok (.bipush 101, 2) := by decide +kernel
theorem d20_124 : decode method_3_code 124 = .ok (.castore, 1) := by decide +kernel
theorem d20_125 : decode method_3_code 125 = .ok (.dup, 1) := by decide +kernel
theorem d20_126 : decode method_3_code 126 = .ok (.bipush 8, 2) := by decide +kernel
theorem d20_128 : decode method_3_code 128 = .ok (.bipush 114, 2) := by decide +kernel
theorem d20_130 : decode method_3_code 130 = .ok (.castore, 1) := by decide +kernel
theorem d20_131 : decode method_3_code 131 = .ok (.dup, 1) := by decide +kernel
theorem d20_132 : decode method_3_code 132 = .ok (.bipush 9, 2) := by decide +kernel
theorem d20_134 : decode method_3_code 134 = .ok (.bipush 114, 2) := by decide +kernel
theorem d20_136 : decode method_3_code 136 = .ok (.castore, 1) := by decide +kernel
theorem d20_137 : decode method_3_code 137 = .ok (.dup, 1) := by decide +kernel
theorem d20_138 : decode method_3_code 138 = .ok (.bipush 10, 2) := by decide +kernel
theorem d20_140 : decode method_3_code 140 = .ok (.bipush 111, 2) := by decide +kernel
theorem d20_142 : decode method_3_code 142 = .ok (.castore, 1) := by decide +kernel
theorem d20_143 : decode method_3_code 143 = .ok (.dup, 1) := by decide +kernel
theorem d20_144 : decode method_3_code 144 = .ok (.bipush 11, 2) := by decide +kernel
theorem d20_146 : decode method_3_code 146 = .ok (.bipush 114, 2) := by decide +kernel
theorem d20_148 : decode method_3_code 148 = .ok (.castore, 1) := by decide +kernel
theorem d20_149 : decode method_3_code 149 = .ok (.dup, 1) := by decide +kernel
theorem d20_150 : decode method_3_code 150 = .ok (.bipush 12, 2) := by decide +kernel
theorem d20_152 : decode method_3_code 152 = .ok (.iload_n 1, 1) := by decide +kernel
theorem d20_153 : decode method_3_code 153 = .ok (.castore, 1) := by decide +kernel
theorem d20_154 : decode method_3_code 154 = .ok (.areturn, 1) := by decide +kernel
theorem d20_155 : decode method_3_code 155 = .ok (.bipush 8, 2) := by decide +kernel
theorem d20_157 : decode method_3_code 157 = .ok (.newarray .char, 2) := by decide +kernel
theorem d20_159 : decode method_3_code 159 = .ok (.dup, 1) := by decide +kernel
theorem d20_160 : decode method_3_code 160 = .ok (.iconst 0, 1) := by decide +kernel
theorem d20_161 : decode method_3_code 161 = .ok (.bipush 112, 2) := by decide +kernel
theorem d20_163 : decode method_3_code 163 = .ok (.castore, 1) := by decide +kernel
theorem d20_164 : decode method_3_code 164 = .ok (.dup, 1) := by decide +kernel
theorem d20_165 : decode method_3_code 165 = .ok (.iconst 1, 1) := by decide +kernel
theorem d20_166 : decode method_3_code 166 = .ok (.bipush 114, 2) := by decide +kernel
theorem d20_168 : decode method_3_code 168 = .ok (.castore, 1) := by decide +kernel
theorem d20_169 : decode method_3_code 169 = .ok (.dup, 1) := by decide +kernel
theorem d20_170 : decode method_3_code 170 = .ok (.iconst 2, 1) := by decide +kernel
theorem d20_171 : decode method_3_code 171 = .ok (.bipush 111, 2) := by decide +kernel
theorem d20_173 : decode method_3_code 173 = .ok (.castore, 1) := by decide +kernel
theorem d20_174 : decode method_3_code 174 = .ok (.dup, 1) := by decide +kernel
theorem d20_175 : decode method_3_code 175 = .ok (.iconst 3, 1) := by decide +kernel
theorem d20_176 : decode method_3_code 176 = .ok (.bipush 98, 2) := by decide +kernel
theorem d20_178 : decode method_3_code 178 = .ok (.castore, 1) := by decide +kernel
theorem d20_179 : decode method_3_code 179 = .ok (.dup, 1) := by decide +kernel
theorem d20_180 : decode method_3_code 180 = .ok (.iconst 4, 1) := by decide +kernel
theorem d20_181 : decode method_3_code 181 = .ok (.bipush 108, 2) := by decide +kernel
theorem d20_183 : decode method_3_code 183 = .ok (.castore, 1) := by decide +kernel
theorem d20_184 : decode method_3_code 184 = .ok (.dup, 1) := by decide +kernel
theorem d20_185 : decode method_3_code 185 = .ok (.iconst 5, 1) := by decide +kernel
theorem d20_186 : decode method_3_code 186 = .ok (.bipush 101, 2) := by decide +kernel
theorem d20_188 : decode method_3_code 188 = .ok (.castore, 1) := by decide +kernel
theorem d20_189 : decode method_3_code 189 = .ok (.dup, 1) := by decide +kernel
theorem d20_190 : decode method_3_code 190 = .ok (.bipush 6, 2) := by decide +kernel
theorem d20_192 : decode method_3_code 192 = .ok (.bipush 109, 2) := by decide +kernel
theorem d20_194 : decode method_3_code 194 = .ok (.castore, 1) := by decide +kernel
theorem d20_195 : decode method_3_code 195 = .ok (.dup, 1) := by decide +kernel
theorem d20_196 : decode method_3_code 196 = .ok (.bipush 7, 2) := by decide +kernel
theorem d20_198 : decode method_3_code 198 = .ok (.iload_n 1, 1) := by decide +kernel
theorem d20_199 : decode method_3_code 199 = .ok (.castore, 1) := by decide +kernel
theorem d20_200 : decode method_3_code 200 = .ok (.areturn, 1) := by decide +kernel
theorem ef_20_0 (m : MethodId) (kw : Int32) (cc : Int32) : entryFrame m #[(.int kw), (.int cc)] 2 = mkF m 0 #[iv kw, iv cc] [] := by first | (simp [entryFrame, mkF, argsToLocals, Value.category]; done) | rfl
def Q20_0 (Z : State) (kw : Int32) (cc : Int32) (h0 : Heap) (n0 : Nat) (v : Option Value) (h : Heap) (L : List Loc) : Prop := ∃ a k, v = some (.ref a) ∧ Fr n0 L ∧ Keep h0 h [] ∧ n0 ≤ a ∧ h0.size ≤ a ∧ Arv Z h a k .char (12 : Int32) [.int (nar .char (101 : Int32)), .int (nar .char (114 : Int32)), .int (nar .char (114 : Int32)), .int (nar .char (111 : Int32)), .int (nar .char (114 : Int32)), .int (nar .char (115 : Int32)), .int (nar .char (45 : Int32)), .int (nar .char (108 : Int32)), .int (nar .char (105 : Int32)), .int (nar .char (115 : Int32)), .int (nar .char (116 : Int32)), .int (nar .char cc)] (.int (0 : Int32))
set_option maxRecDepth 65536 in
set_option maxHeartbeats 40000000 in
theorem rm20_0 (l : Launch) (Z : State) (a0 : Array Value) (hw : ∀ d ∈ tables_1, d.before a0 Z = true) (ws : List Jvm.Cond) (kw : Int32) (cc : Int32) (h0 : Heap) (n0 : Nat) (Z0 : n0 ≤ h0.size) (hk_ : kw = (0 : Int32)) :
    MetFree l (⟨"com/example/fault/fault/EnvelopeNamedPinLaw", "longer", "(IC)[C"⟩ : MethodName) (head1 (Jvm.Cond.code (⟨"com/example/fault/fault/EnvelopeNamedPinLaw", "longer", "(IC)[C"⟩ : MethodName) method_3_code 2 (some (.array .char)) :: ws) ({ frames := 0, cells := 1, slots := 12, locals := 0 } : Room)) (fun a U => a = #[(.int kw), (.int cc)] ∧ Z.Warmed39 U.vm ∧ U.heap = h0) (fun _ _ _ _ _ => True) (fun _ U o U' => ∃ v L, o = .returned v ∧ Q20_0 Z kw cc h0 n0 v U'.heap L ∧ FrameEnd U o U' L ({ frames := 0, cells := 1, slots := 12, locals := 0 } : Room).cells ({ frames := 0, cells := 1, slots := 12, locals := 0 } : Room).slots) := by
  refine MetFree.of_bodySF (plainFor_of_name pn_0) hisR ?_
  intro p e s m args below meth c s₁ Bd hml0 hP hK
  obtain ⟨rfl, hZ, hh⟩ := hP
  have hx := Bd.exec
  have hby := Bd.bytes
  have hml : c.maxLocals = 2 := hml0
  have hown : s.vm.findClass "com/example/fault/fault/EnvelopeNamedPinLaw" = some m.cls := findClass_of_methodNamed Bd.named
  have hnm := (name_of_methodNamed Bd.named Bd.method).1
  have hlk : meth.locks = false := Bd.notSynchronized
  have hrt := Bd.returns
  have X0 : Stand p l e ({ frames := 0, cells := 1, slots := 12, locals := 0 } : Room) s m #[(.int kw), (.int cc)] below meth c s₁ [] 0 0 := Stand.of_body Bd
  have e0 : s₁.heap = h0 := by rw [← hh, Bd.state]; rfl
  have N0 := Fr.nil n0
  show own_Endz p.tables e below (own_EndQ s ({ frames := 0, cells := 1, slots := 12, locals := 0 } : Room).cells ({ frames := 0, cells := 1, slots := 12, locals := 0 } : Room).slots (Q20_0 Z kw cc h0 n0)) (s₁.setTop (entryFrame m #[(.int kw), (.int cc)] 2))
  refine own_cast (ef_20_0 m kw cc) ?_
  subst hk_
  show own_Endz p.tables e below (own_EndQ s ({ frames := 0, cells := 1, slots := 12, locals := 0 } : Room).cells ({ frames := 0, cells := 1, slots := 12, locals := 0 } : Room).slots (Q20_0 Z ((0 : Int32)) cc h0 n0)) (s₁.setTop (mkF m 0 #[iv 0, iv cc] []))
  refine own_go (b := s₁.setTop (mkF m 1 #[iv 0, iv cc] [(.int 0)])) (fun t k => XS.iloadN X0.here hx rfl (hb hby d20_0) rfl  k) ?_
  refine own_go (b := s₁.setTop (mkF m 4 #[iv 0, iv cc] [])) (fun t k => XS.ifNo X0.here hx rfl (hb hby d20_1) rfl ((if0 _ _).trans (teq (rfl : (0 : Int32) = (0 : Int32))).2) k) ?_
  refine own_go (b := s₁.setTop (mkF m 6 #[iv 0, iv cc] [(.int 12)])) (fun t k => XS.bipush X0.here hx rfl (hb hby d20_4) k) ?_
  obtain ⟨T1, h1, k1, X1, e1, E1, A1, st1⟩ := newP X0 hx hZ (hw _ (List.mem_of_getElem? (i := 8) rfl)) e0 (g := (mkF m 6 #[iv 0, iv cc] [(.int 12)])) rfl (hb hby d20_6) rfl (by decide) (cap := 12) (by decide) (by decide) (by decide) (by decide)
  obtain ⟨b1, g1⟩ : ∃ z, z = h0.size := ⟨_, rfl⟩
  rw [← g1] at A1 st1
  have g_b1 : n0 ≤ b1 := Nat.le_trans Z0 (Nat.le_of_eq g1.symm)
  have sz_b1 : h0.size ≤ b1 := Nat.le_trans (Keep.refl h0 []).1 (Nat.le_of_eq g1.symm)
  have Zs1 : n0 ≤ h1.size := Nat.le_trans Z0 E1.1
  have Kp1 : Keep h0 h1 [] := (Keep.refl h0 []).ext E1
  have V_b1 : Arv Z h1 b1 k1 .char (12 : Int32) [(.int (0 : Int32)), (.int (0 : Int32)), (.int (0 : Int32)), (.int (0 : Int32)), (.int (0 : Int32)), (.int (0 : Int32)), (.int (0 : Int32)), (.int (0 : Int32)), (.int (0 : Int32)), (.int (0 : Int32)), (.int (0 : Int32)), (.int (0 : Int32))] (.int (0 : Int32)) := (Arv.new A1 (by decide)).pad (pad_rep [] (.int (0 : Int32)) 12)
  refine own_go (b := T1.setTop (mkF m 8 #[iv 0, iv cc] [(.ref b1)])) st1 ?_
  refine own_go (b := T1.setTop (mkF m 9 #[iv 0, iv cc] [(.ref b1), (.ref b1)])) (fun t k => XS.dup X1.here hx rfl (hb hby d20_8) rfl rfl k) ?_
  refine own_go (b := T1.setTop (mkF m 10 #[iv 0, iv cc] [(.int 0), (.ref b1), (.ref b1)])) (fun t k => XS.iconst X1.here hx rfl (hb hby d20_9) k) ?_
  refine own_go (b := T1.setTop (mkF m 12 #[iv 0, iv cc] [(.int 101), (.int 0), (.ref b1), (.ref b1)])) (fun t k => XS.bipush X1.here hx rfl (hb hby d20_10) k) ?_
  obtain ⟨cl2, Ar2, qc2, Sz2, Ng2, Hs2, Ft2⟩ := id V_b1
  have hin2 : ¬ ((0 : Int32) < 0 ∨ cl2.slots.size ≤ ((0 : Int32)).toNatClampNeg) := inb_of Sz2 ⟨by decide, by decide⟩
  obtain ⟨T3, h3, X3, e3, W3, st3⟩ := stC X1 hx hZ e1 Ar2 (j := (0 : Int32)) hin2 (g := (mkF m 12 #[iv 0, iv cc] [(.int 101), (.int 0), (.ref b1), (.ref b1)])) rfl rfl (hb hby d20_12)
  have V_b1_3 : Arv Z h3 b1 k1 .char (12 : Int32) [(.int (nar .char (101 : Int32))), (.int 0), (.int 0), (.int 0), (.int 0), (.int 0), (.int 0), (.int 0), (.int 0), (.int 0), (.int 0), (.int 0)] (.int (0 : Int32)) := Arv.set Ar2 qc2 Sz2 Ng2 Hs2 Ft2 (fits_nar_char _) W3 0 rfl (Nat.le_of_ble_eq_true rfl)
  have Zs3 : n0 ≤ h3.size := Nat.le_trans Zs1 (Keep.of_wr W3).1
  have N3 := Fr.snoc X3 N0 g_b1
  have Kp3 : Keep h0 h3 [] := Kp1.wr W3 (Or.inr sz_b1)
  refine own_go (b := T3.setTop (mkF m 13 #[iv 0, iv cc] [(.ref b1)])) st3 ?_
  refine own_go (b := T3.setTop (mkF m 14 #[iv 0, iv cc] [(.ref b1), (.ref b1)])) (fun t k => XS.dup X3.here hx rfl (hb hby d20_13) rfl rfl k) ?_
  refine own_go (b := T3.setTop (mkF m 15 #[iv 0, iv cc] [(.int 1), (.ref b1), (.ref b1)])) (fun t k => XS.iconst X3.here hx rfl (hb hby d20_14) k) ?_
  refine own_go (b := T3.setTop (mkF m 17 #[iv 0, iv cc] [(.int 114), (.int 1), (.ref b1), (.ref b1)])) (fun t k => XS.bipush X3.here hx rfl (hb hby d20_15) k) ?_
  obtain ⟨cl4, Ar4, qc4, Sz4, Ng4, Hs4, Ft4⟩ := id V_b1_3
  have hin4 : ¬ ((1 : Int32) < 0 ∨ cl4.slots.size ≤ ((1 : Int32)).toNatClampNeg) := inb_of Sz4 ⟨by decide, by decide⟩
  obtain ⟨T5, h5, X5, e5, W5, st5⟩ := stC X3 hx hZ e3 Ar4 (j := (1 : Int32)) hin4 (g := (mkF m 17 #[iv 0, iv cc] [(.int 114), (.int 1), (.ref b1), (.ref b1)])) rfl rfl (hb hby d20_17)
  have V_b1_5 : Arv Z h5 b1 k1 .char (12 : Int32) [(.int (nar .char (101 : Int32))), (.int (nar .char (114 : Int32))), (.int 0), (.int 0), (.int 0), (.int 0), (.int 0), (.int 0), (.int 0), (.int 0), (.int 0), (.int 0)] (.int (0 : Int32)) := Arv.set Ar4 qc4 Sz4 Ng4 Hs4 Ft4 (fits_nar_char _) W5 1 rfl (Nat.le_of_ble_eq_true rfl)
  have Zs5 : n0 ≤ h5.size := Nat.le_trans Zs3 (Keep.of_wr W5).1
  have N5 := Fr.snoc X5 N3 g_b1
  have Kp5 : Keep h0 h5 [] := Kp3.wr W5 (Or.inr sz_b1)
  refine own_go (b := T5.setTop (mkF m 18 #[iv 0, iv cc] [(.ref b1)])) st5 ?_
  refine own_go (b := T5.setTop (mkF m 19 #[iv 0, iv cc] [(.ref b1), (.ref b1)])) (fun t k => XS.dup X5.here hx rfl (hb hby d20_18) rfl rfl k) ?_
  refine own_go (b := T5.setTop (mkF m 20 #[iv 0, iv cc] [(.int 2), (.ref b1), (.ref b1)])) (fun t k => XS.iconst X5.here hx rfl (hb hby d20_19) k) ?_
  refine own_go (b := T5.setTop (mkF m 22 #[iv 0, iv cc] [(.int 114), (.int 2), (.ref b1), (.ref b1)])) (fun t k => XS.bipush X5.here hx rfl (hb hby d20_20) k) ?_
  obtain ⟨cl6, Ar6, qc6, Sz6, Ng6, Hs6, Ft6⟩ := id V_b1_5
  have hin6 : ¬ ((2 : Int32) < 0 ∨ cl6.slots.size ≤ ((2 : Int32)).toNatClampNeg) := inb_of Sz6 ⟨by decide, by decide⟩
  obtain ⟨T7, h7, X7, e7, W7, st7⟩ := stC X5 hx hZ e5 Ar6 (j := (2 : Int32)) hin6 (g := (mkF m 22 #[iv 0, iv cc] [(.int 114), (.int 2), (.ref b1), (.ref b1)])) rfl rfl (hb hby d20_22)
  have V_b1_7 : Arv Z h7 b1 k1 .char (12 : Int32) [(.int (nar .char (101 : Int32))), (.int (nar .char (114 : Int32))), (.int (nar .char (114 : Int32))), (.int 0), (.int 0), (.int 0), (.int 0), (.int 0), (.int 0), (.int 0), (.int 0), (.int 0)] (.int (0 : Int32)) := Arv.set Ar6 qc6 Sz6 Ng6 Hs6 Ft6 (fits_nar_char _) W7 2 rfl (Nat.le_of_ble_eq_true rfl)
  have Zs7 : n0 ≤ h7.size := Nat.le_trans Zs5 (Keep.of_wr W7).1
  have N7 := Fr.snoc X7 N5 g_b1
  have Kp7 : Keep h0 h7 [] := Kp5.wr W7 (Or.inr sz_b1)
  refine own_go (b := T7.setTop (mkF m 23 #[iv 0, iv cc] [(.ref b1)])) st7 ?_
  refine own_go (b := T7.setTop (mkF m 24 #[iv 0, iv cc] [(.ref b1), (.ref b1)])) (fun t k => XS.dup X7.here hx rfl (hb hby d20_23) rfl rfl k) ?_
  refine own_go (b := T7.setTop (mkF m 25 #[iv 0, iv cc] [(.int 3), (.ref b1), (.ref b1)])) (fun t k => XS.iconst X7.here hx rfl (hb hby d20_24) k) ?_
  refine own_go (b := T7.setTop (mkF m 27 #[iv 0, iv cc] [(.int 111), (.int 3), (.ref b1), (.ref b1)])) (fun t k => XS.bipush X7.here hx rfl (hb hby d20_25) k) ?_
  obtain ⟨cl8, Ar8, qc8, Sz8, Ng8, Hs8, Ft8⟩ := id V_b1_7
  have hin8 : ¬ ((3 : Int32) < 0 ∨ cl8.slots.size ≤ ((3 : Int32)).toNatClampNeg) := inb_of Sz8 ⟨by decide, by decide⟩
  obtain ⟨T9, h9, X9, e9, W9, st9⟩ := stC X7 hx hZ e7 Ar8 (j := (3 : Int32)) hin8 (g := (mkF m 27 #[iv 0, iv cc] [(.int 111), (.int 3), (.ref b1), (.ref b1)])) rfl rfl (hb hby d20_27)
  have V_b1_9 : Arv Z h9 b1 k1 .char (12 : Int32) [(.int (nar .char (101 : Int32))), (.int (nar .char (114 : Int32))), (.int (nar .char (114 : Int32))), (.int (nar .char (111 : Int32))), (.int 0), (.int 0), (.int 0), (.int 0), (.int 0), (.int 0), (.int 0), (.int 0)] (.int (0 : Int32)) := Arv.set Ar8 qc8 Sz8 Ng8 Hs8 Ft8 (fits_nar_char _) W9 3 rfl (Nat.le_of_ble_eq_true rfl)
  have Zs9 : n0 ≤ h9.size := Nat.le_trans Zs7 (Keep.of_wr W9).1
  have N9 := Fr.snoc X9 N7 g_b1
  have Kp9 : Keep h0 h9 [] := Kp7.wr W9 (Or.inr sz_b1)
  refine own_go (b := T9.setTop (mkF m 28 #[iv 0, iv cc] [(.ref b1)])) st9 ?_
  refine own_go (b := T9.setTop (mkF m 29 #[iv 0, iv cc] [(.ref b1), (.ref b1)])) (fun t k => XS.dup X9.here hx rfl (hb hby d20_28) rfl rfl k) ?_
  refine own_go (b := T9.setTop (mkF m 30 #[iv 0, iv cc] [(.int 4), (.ref b1), (.ref b1)])) (fun t k => XS.iconst X9.here hx rfl (hb hby d20_29) k) ?_
  refine own_go (b := T9.setTop (mkF m 32 #[iv 0, iv cc] [(.int 114), (.int 4), (.ref b1), (.ref b1)])) (fun t k => XS.bipush X9.here hx rfl (hb hby d20_30) k) ?_
  obtain ⟨cl10, Ar10, qc10, Sz10, Ng10, Hs10, Ft10⟩ := id V_b1_9
  have hin10 : ¬ ((4 : Int32) < 0 ∨ cl10.slots.size ≤ ((4 : Int32)).toNatClampNeg) := inb_of Sz10 ⟨by decide, by decide⟩
  obtain ⟨T11, h11, X11, e11, W11, st11⟩ := stC X9 hx hZ e9 Ar10 (j := (4 : Int32)) hin10 (g := (mkF m 32 #[iv 0, iv cc] [(.int 114), (.int 4), (.ref b1), (.ref b1)])) rfl rfl (hb hby d20_32)
  have V_b1_11 : Arv Z h11 b1 k1 .char (12 : Int32) [(.int (nar .char (101 : Int32))), (.int (nar .char (114 : Int32))), (.int (nar .char (114 : Int32))), (.int (nar .char (111 : Int32))), (.int (nar .char (114 : Int32))), (.int 0), (.int 0), (.int 0), (.int 0), (.int 0), (.int 0), (.int 0)] (.int (0 : Int32)) := Arv.set Ar10 qc10 Sz10 Ng10 Hs10 Ft10 (fits_nar_char _) W11 4 rfl (Nat.le_of_ble_eq_true rfl)
  have Zs11 : n0 ≤ h11.size := Nat.le_trans Zs9 (Keep.of_wr W11).1
  have N11 := Fr.snoc X11 N9 g_b1
  have Kp11 : Keep h0 h11 [] := Kp9.wr W11 (Or.inr sz_b1)
  refine own_go (b := T11.setTop (mkF m 33 #[iv 0, iv cc] [(.ref b1)])) st11 ?_
  refine own_go (b := T11.setTop (mkF m 34 #[iv 0, iv cc] [(.ref b1), (.ref b1)])) (fun t k => XS.dup X11.here hx rfl (hb hby d20_33) rfl rfl k) ?_
  refine own_go (b := T11.setTop (mkF m 35 #[iv 0, iv cc] [(.int 5), (.ref b1), (.ref b1)])) (fun t k => XS.iconst X11.here hx rfl (hb hby d20_34) k) ?_
  refine own_go (b := T11.setTop (mkF m 37 #[iv 0, iv cc] [(.int 115), (.int 5), (.ref b1), (.ref b1)])) (fun t k => XS.bipush X11.here hx rfl (hb hby d20_35) k) ?_
  obtain ⟨cl12, Ar12, qc12, Sz12, Ng12, Hs12, Ft12⟩ := id V_b1_11
  have hin12 : ¬ ((5 : Int32) < 0 ∨ cl12.slots.size ≤ ((5 : Int32)).toNatClampNeg) := inb_of Sz12 ⟨by decide, by decide⟩
  obtain ⟨T13, h13, X13, e13, W13, st13⟩ := stC X11 hx hZ e11 Ar12 (j := (5 : Int32)) hin12 (g := (mkF m 37 #[iv 0, iv cc] [(.int 115), (.int 5), (.ref b1), (.ref b1)])) rfl rfl (hb hby d20_37)
  have V_b1_13 : Arv Z h13 b1 k1 .char (12 : Int32) [(.int (nar .char (101 : Int32))), (.int (nar .char (114 : Int32))), (.int (nar .char (114 : Int32))), (.int (nar .char (111 : Int32))), (.int (nar .char (114 : Int32))), (.int (nar .char (115 : Int32))), (.int 0), (.int 0), (.int 0), (.int 0), (.int 0), (.int 0)] (.int (0 : Int32)) := Arv.set Ar12 qc12 Sz12 Ng12 Hs12 Ft12 (fits_nar_char _) W13 5 rfl (Nat.le_of_ble_eq_true rfl)
  have Zs13 : n0 ≤ h13.size := Nat.le_trans Zs11 (Keep.of_wr W13).1
  have N13 := Fr.snoc X13 N11 g_b1
  have Kp13 : Keep h0 h13 [] := Kp11.wr W13 (Or.inr sz_b1)
  refine own_go (b := T13.setTop (mkF m 38 #[iv 0, iv cc] [(.ref b1)])) st13 ?_
  refine own_go (b := T13.setTop (mkF m 39 #[iv 0, iv cc] [(.ref b1), (.ref b1)])) (fun t k => XS.dup X13.here hx rfl (hb hby d20_38) rfl rfl k) ?_
  refine own_go (b := T13.setTop (mkF m 41 #[iv 0, iv cc] [(.int 6), (.ref b1), (.ref b1)])) (fun t k => XS.bipush X13.here hx rfl (hb hby d20_39) k) ?_
  refine own_go (b := T13.setTop (mkF m 43 #[iv 0, iv cc] [(.int 45), (.int 6), (.ref b1), (.ref b1)])) (fun t k => XS.bipush X13.here hx rfl (hb hby d20_41) k) ?_
  obtain ⟨cl14, Ar14, qc14, Sz14, Ng14, Hs14, Ft14⟩ := id V_b1_13
  have hin14 : ¬ ((6 : Int32) < 0 ∨ cl14.slots.size ≤ ((6 : Int32)).toNatClampNeg) := inb_of Sz14 ⟨by decide, by decide⟩
  obtain ⟨T15, h15, X15, e15, W15, st15⟩ := stC X13 hx hZ e13 Ar14 (j := (6 : Int32)) hin14 (g := (mkF m 43 #[iv 0, iv cc] [(.int 45), (.int 6), (.ref b1), (.ref b1)])) rfl rfl (hb hby d20_43)
  have V_b1_15 : Arv Z h15 b1 k1 .char (12 : Int32) [(.int (nar .char (101 : Int32))), (.int (nar .char (114 : Int32))), (.int (nar .char (114 : Int32))), (.int (nar .char (111 : Int32))), (.int (nar .char (114 : Int32))), (.int (nar .char (115 : Int32))), (.int (nar .char (45 : Int32))), (.int 0), (.int 0), (.int 0), (.int 0), (.int 0)] (.int (0 : Int32)) := Arv.set Ar14 qc14 Sz14 Ng14 Hs14 Ft14 (fits_nar_char _) W15 6 rfl (Nat.le_of_ble_eq_true rfl)
  have Zs15 : n0 ≤ h15.size := Nat.le_trans Zs13 (Keep.of_wr W15).1
  have N15 := Fr.snoc X15 N13 g_b1
  have Kp15 : Keep h0 h15 [] := Kp13.wr W15 (Or.inr sz_b1)
  refine own_go (b := T15.setTop (mkF m 44 #[iv 0, iv cc] [(.ref b1)])) st15 ?_
  refine own_go (b := T15.setTop (mkF m 45 #[iv 0, iv cc] [(.ref b1), (.ref b1)])) (fun t k => XS.dup X15.here hx rfl (hb hby d20_44) rfl rfl k) ?_
  refine own_go (b := T15.setTop (mkF m 47 #[iv 0, iv cc] [(.int 7), (.ref b1), (.ref b1)])) (fun t k => XS.bipush X15.here hx rfl (hb hby d20_45) k) ?_
  refine own_go (b := T15.setTop (mkF m 49 #[iv 0, iv cc] [(.int 108), (.int 7), (.ref b1), (.ref b1)])) (fun t k => XS.bipush X15.here hx rfl (hb hby d20_47) k) ?_
  obtain ⟨cl16, Ar16, qc16, Sz16, Ng16, Hs16, Ft16⟩ := id V_b1_15
  have hin16 : ¬ ((7 : Int32) < 0 ∨ cl16.slots.size ≤ ((7 : Int32)).toNatClampNeg) := inb_of Sz16 ⟨by decide, by decide⟩
  obtain ⟨T17, h17, X17, e17, W17, st17⟩ := stC X15 hx hZ e15 Ar16 (j := (7 : Int32)) hin16 (g := (mkF m 49 #[iv 0, iv cc] [(.int 108), (.int 7), (.ref b1), (.ref b1)])) rfl rfl (hb hby d20_49)
  have V_b1_17 : Arv Z h17 b1 k1 .char (12 : Int32) [(.int (nar .char (101 : Int32))), (.int (nar .char (114 : Int32))), (.int (nar .char (114 : Int32))), (.int (nar .char (111 : Int32))), (.int (nar .char (114 : Int32))), (.int (nar .char (115 : Int32))), (.int (nar .char (45 : Int32))), (.int (nar .char (108 : Int32))), (.int 0), (.int 0), (.int 0), (.int 0)] (.int (0 : Int32)) := Arv.set Ar16 qc16 Sz16 Ng16 Hs16 Ft16 (fits_nar_char _) W17 7 rfl (Nat.le_of_ble_eq_true rfl)
  have Zs17 : n0 ≤ h17.size := Nat.le_trans Zs15 (Keep.of_wr W17).1
  have N17 := Fr.snoc X17 N15 g_b1
  have Kp17 : Keep h0 h17 [] := Kp15.wr W17 (Or.inr sz_b1)
  refine own_go (b := T17.setTop (mkF m 50 #[iv 0, iv cc] [(.ref b1)])) st17 ?_
  refine own_go (b := T17.setTop (mkF m 51 #[iv 0, iv cc] [(.ref b1), (.ref b1)])) (fun t k => XS.dup X17.here hx rfl (hb hby d20_50) rfl rfl k) ?_
  refine own_go (b := T17.setTop (mkF m 53 #[iv 0, iv cc] [(.int 8), (.ref b1), (.ref b1)])) (fun t k => XS.bipush X17.here hx rfl (hb hby d20_51) k) ?_
  refine own_go (b := T17.setTop (mkF m 55 #[iv 0, iv cc] [(.int 105), (.int 8), (.ref b1), (.ref b1)])) (fun t k => XS.bipush X17.here hx rfl (hb hby d20_53) k) ?_
  obtain ⟨cl18, Ar18, qc18, Sz18, Ng18, Hs18, Ft18⟩ := id V_b1_17
  have hin18 : ¬ ((8 : Int32) < 0 ∨ cl18.slots.size ≤ ((8 : Int32)).toNatClampNeg) := inb_of Sz18 ⟨by decide, by decide⟩
  obtain ⟨T19, h19, X19, e19, W19, st19⟩ := stC X17 hx hZ e17 Ar18 (j := (8 : Int32)) hin18 (g := (mkF m 55 #[iv 0, iv cc] [(.int 105), (.int 8), (.ref b1), (.ref b1)])) rfl rfl (hb hby d20_55)
  have V_b1_19 : Arv Z h19 b1 k1 .char (12 : Int32) [(.int (nar .char (101 : Int32))), (.int (nar .char (114 : Int32))), (.int (nar .char (114 : Int32))), (.int (nar .char (111 : Int32))), (.int (nar .char (114 : Int32))), (.int (nar .char (115 : Int32))), (.int (nar .char (45 : Int32))), (.int (nar .char (108 : Int32))), (.int (nar .char (105 : Int32))), (.int 0), (.int 0), (.int 0)] (.int (0 : Int32)) := Arv.set Ar18 qc18 Sz18 Ng18 Hs18 Ft18 (fits_nar_char _) W19 8 rfl (Nat.le_of_ble_eq_true rfl)
  have Zs19 : n0 ≤ h19.size := Nat.le_trans Zs17 (Keep.of_wr W19).1
  have N19 := Fr.snoc X19 N17 g_b1
  have Kp19 : Keep h0 h19 [] := Kp17.wr W19 (Or.inr sz_b1)
  refine own_go (b := T19.setTop (mkF m 56 #[iv 0, iv cc] [(.ref b1)])) st19 ?_
  refine own_go (b := T19.setTop (mkF m 57 #[iv 0, iv cc] [(.ref b1), (.ref b1)])) (fun t k => XS.dup X19.here hx rfl (hb hby d20_56) rfl rfl k) ?_
  refine own_go (b := T19.setTop (mkF m 59 #[iv 0, iv cc] [(.int 9), (.ref b1), (.ref b1)])) (fun t k => XS.bipush X19.here hx rfl (hb hby d20_57) k) ?_
  refine own_go (b := T19.setTop (mkF m 61 #[iv 0, iv cc] [(.int 115), (.int 9), (.ref b1), (.ref b1)])) (fun t k => XS.bipush X19.here hx rfl (hb hby d20_59) k) ?_
  obtain ⟨cl20, Ar20, qc20, Sz20, Ng20, Hs20, Ft20⟩ := id V_b1_19
  have hin20 : ¬ ((9 : Int32) < 0 ∨ cl20.slots.size ≤ ((9 : Int32)).toNatClampNeg) := inb_of Sz20 ⟨by decide, by decide⟩
  obtain ⟨T21, h21, X21, e21, W21, st21⟩ := stC X19 hx hZ e19 Ar20 (j := (9 : Int32)) hin20 (g := (mkF m 61 #[iv 0, iv cc] [(.int 115), (.int 9), (.ref b1), (.ref b1)])) rfl rfl (hb hby d20_61)
  have V_b1_21 : Arv Z h21 b1 k1 .char (12 : Int32) [(.int (nar .char (101 : Int32))), (.int (nar .char (114 : Int32))), (.int (nar .char (114 : Int32))), (.int (nar .char (111 : Int32))), (.int (nar .char (114 : Int32))), (.int (nar .char (115 : Int32))), (.int (nar .char (45 : Int32))), (.int (nar .char (108 : Int32))), (.int (nar .char (105 : Int32))), (.int (nar .char (115 : Int32))), (.int 0), (.int 0)] (.int (0 : Int32)) := Arv.set Ar20 qc20 Sz20 Ng20 Hs20 Ft20 (fits_nar_char _) W21 9 rfl (Nat.le_of_ble_eq_true rfl)
  have Zs21 : n0 ≤ h21.size := Nat.le_trans Zs19 (Keep.of_wr W21).1
  have N21 := Fr.snoc X21 N19 g_b1
  have Kp21 : Keep h0 h21 [] := Kp19.wr W21 (Or.inr sz_b1)
  refine own_go (b := T21.setTop (mkF m 62 #[iv 0, iv cc] [(.ref b1)])) st21 ?_
  refine own_go (b := T21.setTop (mkF m 63 #[iv 0, iv cc] [(.ref b1), (.ref b1)])) (fun t k => XS.dup X21.here hx rfl (hb hby d20_62) rfl rfl k) ?_
  refine own_go (b := T21.setTop (mkF m 65 #[iv 0, iv cc] [(.int 10), (.ref b1), (.ref b1)])) (fun t k => XS.bipush X21.here hx rfl (hb hby d20_63) k) ?_
  refine own_go (b := T21.setTop (mkF m 67 #[iv 0, iv cc] [(.int 116), (.int 10), (.ref b1), (.ref b1)])) (fun t k => XS.bipush X21.here hx rfl (hb hby d20_65) k) ?_
  obtain ⟨cl22, Ar22, qc22, Sz22, Ng22, Hs22, Ft22⟩ := id V_b1_21
  have hin22 : ¬ ((10 : Int32) < 0 ∨ cl22.slots.size ≤ ((10 : Int32)).toNatClampNeg) := inb_of Sz22 ⟨by decide, by decide⟩
  obtain ⟨T23, h23, X23, e23, W23, st23⟩ := stC X21 hx hZ e21 Ar22 (j := (10 : Int32)) hin22 (g := (mkF m 67 #[iv 0, iv cc] [(.int 116), (.int 10), (.ref b1), (.ref b1)])) rfl rfl (hb hby d20_67)
  have V_b1_23 : Arv Z h23 b1 k1 .char (12 : Int32) [(.int (nar .char (101 : Int32))), (.int (nar .char (114 : Int32))), (.int (nar .char (114 : Int32))), (.int (nar .char (111 : Int32))), (.int (nar .char (114 : Int32))), (.int (nar .char (115 : Int32))), (.int (nar .char (45 : Int32))), (.int (nar .char (108 : Int32))), (.int (nar .char (105 : Int32))), (.int (nar .char (115 : Int32))), (.int (nar .char (116 : Int32))), (.int 0)] (.int (0 : Int32)) := Arv.set Ar22 qc22 Sz22 Ng22 Hs22 Ft22 (fits_nar_char _) W23 10 rfl (Nat.le_of_ble_eq_true rfl)
  have Zs23 : n0 ≤ h23.size := Nat.le_trans Zs21 (Keep.of_wr W23).1
  have N23 := Fr.snoc X23 N21 g_b1
  have Kp23 : Keep h0 h23 [] := Kp21.wr W23 (Or.inr sz_b1)
  refine own_go (b := T23.setTop (mkF m 68 #[iv 0, iv cc] [(.ref b1)])) st23 ?_
  refine own_go (b := T23.setTop (mkF m 69 #[iv 0, iv cc] [(.ref b1), (.ref b1)])) (fun t k => XS.dup X23.here hx rfl (hb hby d20_68) rfl rfl k) ?_
  refine own_go (b := T23.setTop (mkF m 71 #[iv 0, iv cc] [(.int 11), (.ref b1), (.ref b1)])) (fun t k => XS.bipush X23.here hx rfl (hb hby d20_69) k) ?_
  refine own_go (b := T23.setTop (mkF m 72 #[iv 0, iv cc] [(.int cc), (.int 11), (.ref b1), (.ref b1)])) (fun t k => XS.iloadN X23.here hx rfl (hb hby d20_71) rfl  k) ?_
  obtain ⟨cl24, Ar24, qc24, Sz24, Ng24, Hs24, Ft24⟩ := id V_b1_23
  have hin24 : ¬ ((11 : Int32) < 0 ∨ cl24.slots.size ≤ ((11 : Int32)).toNatClampNeg) := inb_of Sz24 ⟨by decide, by decide⟩
  obtain ⟨T25, h25, X25, e25, W25, st25⟩ := stC X23 hx hZ e23 Ar24 (j := (11 : Int32)) hin24 (g := (mkF m 72 #[iv 0, iv cc] [(.int cc), (.int 11), (.ref b1), (.ref b1)])) rfl rfl (hb hby d20_72)
  have V_b1_25 : Arv Z h25 b1 k1 .char (12 : Int32) [(.int (nar .char (101 : Int32))), (.int (nar .char (114 : Int32))), (.int (nar .char (114 : Int32))), (.int (nar .char (111 : Int32))), (.int (nar .char (114 : Int32))), (.int (nar .char (115 : Int32))), (.int (nar .char (45 : Int32))), (.int (nar .char (108 : Int32))), (.int (nar .char (105 : Int32))), (.int (nar .char (115 : Int32))), (.int (nar .char (116 : Int32))), (.int (nar .char cc))] (.int (0 : Int32)) := Arv.set Ar24 qc24 Sz24 Ng24 Hs24 Ft24 (fits_nar_char _) W25 11 rfl (Nat.le_of_ble_eq_true rfl)
  have Zs25 : n0 ≤ h25.size := Nat.le_trans Zs23 (Keep.of_wr W25).1
  have N25 := Fr.snoc X25 N23 g_b1
  have Kp25 : Keep h0 h25 [] := Kp23.wr W25 (Or.inr sz_b1)
  refine own_go (b := T25.setTop (mkF m 73 #[iv 0, iv cc] [(.ref b1)])) st25 ?_
  exact own_retA X25 hx hlk hrt rfl rfl (hb hby d20_73) (Nat.le_of_ble_eq_true rfl) (Nat.le_of_ble_eq_true rfl) (⟨_, _, rfl, N25, by rw [e25]; exact Kp25, g_b1, sz_b1, by rw [e25]; exact V_b1_25⟩)
theorem ef_1_1 (m : MethodId) (kw : Int32) : entryFrame m #[(.int kw)] 1 = mkF m 0 #[iv kw] [] := by first | (simp [entryFrame, mkF, argsToLocals, Value.category]; done) | rfl
def Q1_1 (Z : State) (kw : Int32) (h0 : Heap) (n0 : Nat) (v : Option Value) (h : Heap) (L : List Loc) : Prop := ∃ a k, v = some (.ref a) ∧ Fr n0 L ∧ Keep h0 h [] ∧ n0 ≤ a ∧ h0.size ≤ a ∧ Arv Z h a k .char (12 : Int32) [.int (nar .char (115 : Int32)), .int (nar .char (105 : Int32)), .int (nar .char (110 : Int32)), .int (nar .char (103 : Int32)), .int (nar .char (108 : Int32)), .int (nar .char (101 : Int32)), .int (nar .char (45 : Int32)), .int (nar .char (101 : Int32)), .int (nar .char (114 : Int32)), .int (nar .char (114 : Int32)), .int (nar .char (111 : Int32)), .int (nar .char (114 : Int32))] (.int (0 : Int32))
set_option maxRecDepth 65536 in
set_option maxHeartbeats 40000000 in
theorem rm1_1 (l : Launch) (Z : State) (a0 : Array Value) (hw : ∀ d ∈ tables_1, d.before a0 Z = true) (ws : List Jvm.Cond) (kw : Int32) (h0 : Heap) (n0 : Nat) (Z0 : n0 ≤ h0.size) (hk_ : kw = (1 : Int32)) :
    MetFree l (⟨"com/example/fault/fault/EnvelopeNamedPinLaw", "base", "(I)[C"⟩ : MethodName) (head1 (Jvm.Cond.code (⟨"com/example/fault/fault/EnvelopeNamedPinLaw", "base", "(I)[C"⟩ : MethodName) method_2_code 1 (some (.array .char)) :: ws) ({ frames := 0, cells := 1, slots := 12, locals := 0 } : Room)) (fun a U => a = #[(.int kw)] ∧ Z.Warmed39 U.vm ∧ U.heap = h0) (fun _ _ _ _ _ => True) (fun _ U o U' => ∃ v L, o = .returned v ∧ Q1_1 Z kw h0 n0 v U'.heap L ∧ FrameEnd U o U' L ({ frames := 0, cells := 1, slots := 12, locals := 0 } : Room).cells ({ frames := 0, cells := 1, slots := 12, locals := 0 } : Room).slots) := by
  refine MetFree.of_bodySF (plainFor_of_name pn_0) hisR ?_
  intro p e s m args below meth c s₁ Bd hml0 hP hK
  obtain ⟨rfl, hZ, hh⟩ := hP
  have hx := Bd.exec
  have hby := Bd.bytes
  have hml : c.maxLocals = 1 := hml0
  have hown : s.vm.findClass "com/example/fault/fault/EnvelopeNamedPinLaw" = some m.cls := findClass_of_methodNamed Bd.named
  have hnm := (name_of_methodNamed Bd.named Bd.method).1
  have hlk : meth.locks = false := Bd.notSynchronized
  have hrt := Bd.returns
  have X0 : Stand p l e ({ frames := 0, cells := 1, slots := 12, locals := 0 } : Room) s m #[(.int kw)] below meth c s₁ [] 0 0 := Stand.of_body Bd
  have e0 : s₁.heap = h0 := by rw [← hh, Bd.state]; rfl
  have N0 := Fr.nil n0
  show own_Endz p.tables e below (own_EndQ s ({ frames := 0, cells := 1, slots := 12, locals := 0 } : Room).cells ({ frames := 0, cells := 1, slots := 12, locals := 0 } : Room).slots (Q1_1 Z kw h0 n0)) (s₁.setTop (entryFrame m #[(.int kw)] 1))
  refine own_cast (ef_1_1 m kw) ?_
  subst hk_
  show own_Endz p.tables e below (own_EndQ s ({ frames := 0, cells := 1, slots := 12, locals := 0 } : Room).cells ({ frames := 0, cells := 1, slots := 12, locals := 0 } : Room).slots (Q1_1 Z ((1 : Int32)) h0 n0)) (s₁.setTop (mkF m 0 #[iv 1] []))
  refine own_go (b := s₁.setTop (mkF m 1 #[iv 1] [(.int 1)])) (fun t k => XS.iloadN X0.here hx rfl (hb hby d1_0) rfl  k) ?_
  refine own_go (b := s₁.setTop (mkF m 69 #[iv 1] [])) (fun t k => XS.ifYes X0.here hx rfl (pc0 := 1) (pc' := 69) rfl (hb hby d1_1) rfl ((if0 _ _).trans (feq (by decide : ¬ ((1 : Int32) = (0 : Int32)))).2) (by decide) (by decide) k) ?_
  refine own_go (b := s₁.setTop (mkF m 70 #[iv 1] [(.int 1)])) (fun t k => XS.iloadN X0.here hx rfl (hb hby d1_69) rfl  k) ?_
  refine own_go (b := s₁.setTop (mkF m 71 #[iv 1] [(.int 1), (.int 1)])) (fun t k => XS.iconst X0.here hx rfl (hb hby d1_70) k) ?_
  refine own_go (b := s₁.setTop (mkF m 74 #[iv 1] [])) (fun t k => XS.icmpNo X0.here hx rfl (hb hby d1_71) rfl (teq (rfl : (1 : Int32) = (1 : Int32))).2 k) ?_
  refine own_go (b := s₁.setTop (mkF m 76 #[iv 1] [(.int 12)])) (fun t k => XS.bipush X0.here hx rfl (hb hby d1_74) k) ?_
  obtain ⟨T1, h1, k1, X1, e1, E1, A1, st1⟩ := newP X0 hx hZ (hw _ (List.mem_of_getElem? (i := 8) rfl)) e0 (g := (mkF m 76 #[iv 1] [(.int 12)])) rfl (hb hby d1_76) rfl (by decide) (cap := 12) (by decide) (by decide) (by decide) (by decide)
  obtain ⟨b1, g1⟩ : ∃ z, z = h0.size := ⟨_, rfl⟩
  rw [← g1] at A1 st1
  have g_b1 : n0 ≤ b1 := Nat.le_trans Z0 (Nat.le_of_eq g1.symm)
  have sz_b1 : h0.size ≤ b1 := Nat.le_trans (Keep.refl h0 []).1 (Nat.le_of_eq g1.symm)
  have Zs1 : n0 ≤ h1.size := Nat.le_trans Z0 E1.1
  have Kp1 : Keep h0 h1 [] := (Keep.refl h0 []).ext E1
  have V_b1 : Arv Z h1 b1 k1 .char (12 : Int32) [(.int (0 : Int32)), (.int (0 : Int32)), (.int (0 : Int32)), (.int (0 : Int32)), (.int (0 : Int32)), (.int (0 : Int32)), (.int (0 : Int32)), (.int (0 : Int32)), (.int (0 : Int32)), (.int (0 : Int32)), (.int (0 : Int32)), (.int (0 : Int32))] (.int (0 : Int32)) := (Arv.new A1 (by decide)).pad (pad_rep [] (.int (0 : Int32)) 12)
  refine own_go (b := T1.setTop (mkF m 78 #[iv 1] [(.ref b1)])) st1 ?_
  refine own_go (b := T1.setTop (mkF m 79 #[iv 1] [(.ref b1), (.ref b1)])) (fun t k => XS.dup X1.here hx rfl (hb hby d1_78) rfl rfl k) ?_
  refine own_go (b := T1.setTop (mkF m 80 #[iv 1] [(.int 0), (.ref b1), (.ref b1)])) (fun t k => XS.iconst X1.here hx rfl (hb hby d1_79) k) ?_
  refine own_go (b := T1.setTop (mkF m 82 #[iv 1] [(.int 115), (.int 0), (.ref b1), (.ref b1)])) (fun t k => XS.bipush X1.here hx rfl (hb hby d1_80) k) ?_
  obtain ⟨cl2, Ar2, qc2, Sz2, Ng2, Hs2, Ft2⟩ := id V_b1
  have hin2 : ¬ ((0 : Int32) < 0 ∨ cl2.slots.size ≤ ((0 : Int32)).toNatClampNeg) := inb_of Sz2 ⟨by decide, by decide⟩
  obtain ⟨T3, h3, X3, e3, W3, st3⟩ := stC X1 hx hZ e1 Ar2 (j := (0 : Int32)) hin2 (g := (mkF m 82 #[iv 1] [(.int 115), (.int 0), (.ref b1), (.ref b1)])) rfl rfl (hb hby d1_82)
  have V_b1_3 : Arv Z h3 b1 k1 .char (12 : Int32) [(.int (nar .char (115 : Int32))), (.int 0), (.int 0), (.int 0), (.int 0), (.int 0), (.int 0), (.int 0), (.int 0), (.int 0), (.int 0), (.int 0)] (.int (0 : Int32)) := Arv.set Ar2 qc2 Sz2 Ng2 Hs2 Ft2 (fits_nar_char _) W3 0 rfl (Nat.le_of_ble_eq_true rfl)
  have Zs3 : n0 ≤ h3.size := Nat.le_trans Zs1 (Keep.of_wr W3).1
  have N3 := Fr.snoc X3 N0 g_b1
  have Kp3 : Keep h0 h3 [] := Kp1.wr W3 (Or.inr sz_b1)
  refine own_go (b := T3.setTop (mkF m 83 #[iv 1] [(.ref b1)])) st3 ?_
  refine own_go (b := T3.setTop (mkF m 84 #[iv 1] [(.ref b1), (.ref b1)])) (fun t k => XS.dup X3.here hx rfl (hb hby d1_83) rfl rfl k) ?_
  refine own_go (b := T3.setTop (mkF m 85 #[iv 1] [(.int 1), (.ref b1), (.ref b1)])) (fun t k => XS.iconst X3.here hx rfl (hb hby d1_84) k) ?_
  refine own_go (b := T3.setTop (mkF m 87 #[iv 1] [(.int 105), (.int 1), (.ref b1), (.ref b1)])) (fun t k => XS.bipush X3.here hx rfl (hb hby d1_85) k) ?_
  obtain ⟨cl4, Ar4, qc4, Sz4, Ng4, Hs4, Ft4⟩ := id V_b1_3
  have hin4 : ¬ ((1 : Int32) < 0 ∨ cl4.slots.size ≤ ((1 : Int32)).toNatClampNeg) := inb_of Sz4 ⟨by decide, by decide⟩
  obtain ⟨T5, h5, X5, e5, W5, st5⟩ := stC X3 hx hZ e3 Ar4 (j := (1 : Int32)) hin4 (g := (mkF m 87 #[iv 1] [(.int 105), (.int 1), (.ref b1), (.ref b1)])) rfl rfl (hb hby d1_87)
  have V_b1_5 : Arv Z h5 b1 k1 .char (12 : Int32) [(.int (nar .char (115 : Int32))), (.int (nar .char (105 : Int32))), (.int 0), (.int 0), (.int 0), (.int 0), (.int 0), (.int 0), (.int 0), (.int 0), (.int 0), (.int 0)] (.int (0 : Int32)) := Arv.set Ar4 qc4 Sz4 Ng4 Hs4 Ft4 (fits_nar_char _) W5 1 rfl (Nat.le_of_ble_eq_true rfl)
  have Zs5 : n0 ≤ h5.size := Nat.le_trans Zs3 (Keep.of_wr W5).1
  have N5 := Fr.snoc X5 N3 g_b1
  have Kp5 : Keep h0 h5 [] := Kp3.wr W5 (Or.inr sz_b1)
  refine own_go (b := T5.setTop (mkF m 88 #[iv 1] [(.ref b1)])) st5 ?_
  refine own_go (b := T5.setTop (mkF m 89 #[iv 1] [(.ref b1), (.ref b1)])) (fun t k => XS.dup X5.here hx rfl (hb hby d1_88) rfl rfl k) ?_
  refine own_go (b := T5.setTop (mkF m 90 #[iv 1] [(.int 2), (.ref b1), (.ref b1)])) (fun t k => XS.iconst X5.here hx rfl (hb hby d1_89) k) ?_
  refine own_go (b := T5.setTop (mkF m 92 #[iv 1] [(.int 110), (.int 2), (.ref b1), (.ref b1)])) (fun t k => XS.bipush X5.here hx rfl (hb hby d1_90) k) ?_
  obtain ⟨cl6, Ar6, qc6, Sz6, Ng6, Hs6, Ft6⟩ := id V_b1_5
  have hin6 : ¬ ((2 : Int32) < 0 ∨ cl6.slots.size ≤ ((2 : Int32)).toNatClampNeg) := inb_of Sz6 ⟨by decide, by decide⟩
  obtain ⟨T7, h7, X7, e7, W7, st7⟩ := stC X5 hx hZ e5 Ar6 (j := (2 : Int32)) hin6 (g := (mkF m 92 #[iv 1] [(.int 110), (.int 2), (.ref b1), (.ref b1)])) rfl rfl (hb hby d1_92)
  have V_b1_7 : Arv Z h7 b1 k1 .char (12 : Int32) [(.int (nar .char (115 : Int32))), (.int (nar .char (105 : Int32))), (.int (nar .char (110 : Int32))), (.int 0), (.int 0), (.int 0), (.int 0), (.int 0), (.int 0), (.int 0), (.int 0), (.int 0)] (.int (0 : Int32)) := Arv.set Ar6 qc6 Sz6 Ng6 Hs6 Ft6 (fits_nar_char _) W7 2 rfl (Nat.le_of_ble_eq_true rfl)
  have Zs7 : n0 ≤ h7.size := Nat.le_trans Zs5 (Keep.of_wr W7).1
  have N7 := Fr.snoc X7 N5 g_b1
  have Kp7 : Keep h0 h7 [] := Kp5.wr W7 (Or.inr sz_b1)
  refine own_go (b := T7.setTop (mkF m 93 #[iv 1] [(.ref b1)])) st7 ?_
  refine own_go (b := T7.setTop (mkF m 94 #[iv 1] [(.ref b1), (.ref b1)])) (fun t k => XS.dup X7.here hx rfl (hb hby d1_93) rfl rfl k) ?_
  refine own_go (b := T7.setTop (mkF m 95 #[iv 1] [(.int 3), (.ref b1), (.ref b1)])) (fun t k => XS.iconst X7.here hx rfl (hb hby d1_94) k) ?_
  refine own_go (b := T7.setTop (mkF m 97 #[iv 1] [(.int 103), (.int 3), (.ref b1), (.ref b1)])) (fun t k => XS.bipush X7.here hx rfl (hb hby d1_95) k) ?_
  obtain ⟨cl8, Ar8, qc8, Sz8, Ng8, Hs8, Ft8⟩ := id V_b1_7
  have hin8 : ¬ ((3 : Int32) < 0 ∨ cl8.slots.size ≤ ((3 : Int32)).toNatClampNeg) := inb_of Sz8 ⟨by decide, by decide⟩
  obtain ⟨T9, h9, X9, e9, W9, st9⟩ := stC X7 hx hZ e7 Ar8 (j := (3 : Int32)) hin8 (g := (mkF m 97 #[iv 1] [(.int 103), (.int 3), (.ref b1), (.ref b1)])) rfl rfl (hb hby d1_97)
  have V_b1_9 : Arv Z h9 b1 k1 .char (12 : Int32) [(.int (nar .char (115 : Int32))), (.int (nar .char (105 : Int32))), (.int (nar .char (110 : Int32))), (.int (nar .char (103 : Int32))), (.int 0), (.int 0), (.int 0), (.int 0), (.int 0), (.int 0), (.int 0), (.int 0)] (.int (0 : Int32)) := Arv.set Ar8 qc8 Sz8 Ng8 Hs8 Ft8 (fits_nar_char _) W9 3 rfl (Nat.le_of_ble_eq_true rfl)
  have Zs9 : n0 ≤ h9.size := Nat.le_trans Zs7 (Keep.of_wr W9).1
  have N9 := Fr.snoc X9 N7 g_b1
  have Kp9 : Keep h0 h9 [] := Kp7.wr W9 (Or.inr sz_b1)
  refine own_go (b := T9.setTop (mkF m 98 #[iv 1] [(.ref b1)])) st9 ?_
  refine own_go (b := T9.setTop (mkF m 99 #[iv 1] [(.ref b1), (.ref b1)])) (fun t k => XS.dup X9.here hx rfl (hb hby d1_98) rfl rfl k) ?_
  refine own_go (b := T9.setTop (mkF m 100 #[iv 1] [(.int 4), (.ref b1), (.ref b1)])) (fun t k => XS.iconst X9.here hx rfl (hb hby d1_99) k) ?_
  refine own_go (b := T9.setTop (mkF m 102 #[iv 1] [(.int 108), (.int 4), (.ref b1), (.ref b1)])) (fun t k => XS.bipush X9.here hx rfl (hb hby d1_100) k) ?_
  obtain ⟨cl10, Ar10, qc10, Sz10, Ng10, Hs10, Ft10⟩ := id V_b1_9
  have hin10 : ¬ ((4 : Int32) < 0 ∨ cl10.slots.size ≤ ((4 : Int32)).toNatClampNeg) := inb_of Sz10 ⟨by decide, by decide⟩
  obtain ⟨T11, h11, X11, e11, W11, st11⟩ := stC X9 hx hZ e9 Ar10 (j := (4 : Int32)) hin10 (g := (mkF m 102 #[iv 1] [(.int 108), (.int 4), (.ref b1), (.ref b1)])) rfl rfl (hb hby d1_102)
  have V_b1_11 : Arv Z h11 b1 k1 .char (12 : Int32) [(.int (nar .char (115 : Int32))), (.int (nar .char (105 : Int32))), (.int (nar .char (110 : Int32))), (.int (nar .char (103 : Int32))), (.int (nar .char (108 : Int32))), (.int 0), (.int 0), (.int 0), (.int 0), (.int 0), (.int 0), (.int 0)] (.int (0 : Int32)) := Arv.set Ar10 qc10 Sz10 Ng10 Hs10 Ft10 (fits_nar_char _) W11 4 rfl (Nat.le_of_ble_eq_true rfl)
  have Zs11 : n0 ≤ h11.size := Nat.le_trans Zs9 (Keep.of_wr W11).1
  have N11 := Fr.snoc X11 N9 g_b1
  have Kp11 : Keep h0 h11 [] := Kp9.wr W11 (Or.inr sz_b1)
  refine own_go (b := T11.setTop (mkF m 103 #[iv 1] [(.ref b1)])) st11 ?_
  refine own_go (b := T11.setTop (mkF m 104 #[iv 1] [(.ref b1), (.ref b1)])) (fun t k => XS.dup X11.here hx rfl (hb hby d1_103) rfl rfl k) ?_
  refine own_go (b := T11.setTop (mkF m 105 #[iv 1] [(.int 5), (.ref b1), (.ref b1)])) (fun t k => XS.iconst X11.here hx rfl (hb hby d1_104) k) ?_
  refine own_go (b := T11.setTop (mkF m 107 #[iv 1] [(.int 101), (.int 5), (.ref b1), (.ref b1)])) (fun t k => XS.bipush X11.here hx rfl (hb hby d1_105) k) ?_
  obtain ⟨cl12, Ar12, qc12, Sz12, Ng12, Hs12, Ft12⟩ := id V_b1_11
  have hin12 : ¬ ((5 : Int32) < 0 ∨ cl12.slots.size ≤ ((5 : Int32)).toNatClampNeg) := inb_of Sz12 ⟨by decide, by decide⟩
  obtain ⟨T13, h13, X13, e13, W13, st13⟩ := stC X11 hx hZ e11 Ar12 (j := (5 : Int32)) hin12 (g := (mkF m 107 #[iv 1] [(.int 101), (.int 5), (.ref b1), (.ref b1)])) rfl rfl (hb hby d1_107)
  have V_b1_13 : Arv Z h13 b1 k1 .char (12 : Int32) [(.int (nar .char (115 : Int32))), (.int (nar .char (105 : Int32))), (.int (nar .char (110 : Int32))), (.int (nar .char (103 : Int32))), (.int (nar .char (108 : Int32))), (.int (nar .char (101 : Int32))), (.int 0), (.int 0), (.int 0), (.int 0), (.int 0), (.int 0)] (.int (0 : Int32)) := Arv.set Ar12 qc12 Sz12 Ng12 Hs12 Ft12 (fits_nar_char _) W13 5 rfl (Nat.le_of_ble_eq_true rfl)
  have Zs13 : n0 ≤ h13.size := Nat.le_trans Zs11 (Keep.of_wr W13).1
  have N13 := Fr.snoc X13 N11 g_b1
  have Kp13 : Keep h0 h13 [] := Kp11.wr W13 (Or.inr sz_b1)
  refine own_go (b := T13.setTop (mkF m 108 #[iv 1] [(.ref b1)])) st13 ?_
  refine own_go (b := T13.setTop (mkF m 109 #[iv 1] [(.ref b1), (.ref b1)])) (fun t k => XS.dup X13.here hx rfl (hb hby d1_108) rfl rfl k) ?_
  refine own_go (b := T13.setTop (mkF m 111 #[iv 1] [(.int 6), (.ref b1), (.ref b1)])) (fun t k => XS.bipush X13.here hx rfl (hb hby d1_109) k) ?_
  refine own_go (b := T13.setTop (mkF m 113 #[iv 1] [(.int 45), (.int 6), (.ref b1), (.ref b1)])) (fun t k => XS.bipush X13.here hx rfl (hb hby d1_111) k) ?_
  obtain ⟨cl14, Ar14, qc14, Sz14, Ng14, Hs14, Ft14⟩ := id V_b1_13
  have hin14 : ¬ ((6 : Int32) < 0 ∨ cl14.slots.size ≤ ((6 : Int32)).toNatClampNeg) := inb_of Sz14 ⟨by decide, by decide⟩
  obtain ⟨T15, h15, X15, e15, W15, st15⟩ := stC X13 hx hZ e13 Ar14 (j := (6 : Int32)) hin14 (g := (mkF m 113 #[iv 1] [(.int 45), (.int 6), (.ref b1), (.ref b1)])) rfl rfl (hb hby d1_113)
  have V_b1_15 : Arv Z h15 b1 k1 .char (12 : Int32) [(.int (nar .char (115 : Int32))), (.int (nar .char (105 : Int32))), (.int (nar .char (110 : Int32))), (.int (nar .char (103 : Int32))), (.int (nar .char (108 : Int32))), (.int (nar .char (101 : Int32))), (.int (nar .char (45 : Int32))), (.int 0), (.int 0), (.int 0), (.int 0), (.int 0)] (.int (0 : Int32)) := Arv.set Ar14 qc14 Sz14 Ng14 Hs14 Ft14 (fits_nar_char _) W15 6 rfl (Nat.le_of_ble_eq_true rfl)
  have Zs15 : n0 ≤ h15.size := Nat.le_trans Zs13 (Keep.of_wr W15).1
  have N15 := Fr.snoc X15 N13 g_b1
  have Kp15 : Keep h0 h15 [] := Kp13.wr W15 (Or.inr sz_b1)
  refine own_go (b := T15.setTop (mkF m 114 #[iv 1] [(.ref b1)])) st15 ?_
  refine own_go (b := T15.setTop (mkF m 115 #[iv 1] [(.ref b1), (.ref b1)])) (fun t k => XS.dup X15.here hx rfl (hb hby d1_114) rfl rfl k) ?_
  refine own_go (b := T15.setTop (mkF m 117 #[iv 1] [(.int 7), (.ref b1), (.ref b1)])) (fun t k => XS.bipush X15.here hx rfl (hb hby d1_115) k) ?_
  refine own_go (b := T15.setTop (mkF m 119 #[iv 1] [(.int 101), (.int 7), (.ref b1), (.ref b1)])) (fun t k => XS.bipush X15.here hx rfl (hb hby d1_117) k) ?_
  obtain ⟨cl16, Ar16, qc16, Sz16, Ng16, Hs16, Ft16⟩ := id V_b1_15
  have hin16 : ¬ ((7 : Int32) < 0 ∨ cl16.slots.size ≤ ((7 : Int32)).toNatClampNeg) := inb_of Sz16 ⟨by decide, by decide⟩
  obtain ⟨T17, h17, X17, e17, W17, st17⟩ := stC X15 hx hZ e15 Ar16 (j := (7 : Int32)) hin16 (g := (mkF m 119 #[iv 1] [(.int 101), (.int 7), (.ref b1), (.ref b1)])) rfl rfl (hb hby d1_119)
  have V_b1_17 : Arv Z h17 b1 k1 .char (12 : Int32) [(.int (nar .char (115 : Int32))), (.int (nar .char (105 : Int32))), (.int (nar .char (110 : Int32))), (.int (nar .char (103 : Int32))), (.int (nar .char (108 : Int32))), (.int (nar .char (101 : Int32))), (.int (nar .char (45 : Int32))), (.int (nar .char (101 : Int32))), (.int 0), (.int 0), (.int 0), (.int 0)] (.int (0 : Int32)) := Arv.set Ar16 qc16 Sz16 Ng16 Hs16 Ft16 (fits_nar_char _) W17 7 rfl (Nat.le_of_ble_eq_true rfl)
  have Zs17 : n0 ≤ h17.size := Nat.le_trans Zs15 (Keep.of_wr W17).1
  have N17 := Fr.snoc X17 N15 g_b1
  have Kp17 : Keep h0 h17 [] := Kp15.wr W17 (Or.inr sz_b1)
  refine own_go (b := T17.setTop (mkF m 120 #[iv 1] [(.ref b1)])) st17 ?_
  refine own_go (b := T17.setTop (mkF m 121 #[iv 1] [(.ref b1), (.ref b1)])) (fun t k => XS.dup X17.here hx rfl (hb hby d1_120) rfl rfl k) ?_
  refine own_go (b := T17.setTop (mkF m 123 #[iv 1] [(.int 8), (.ref b1), (.ref b1)])) (fun t k => XS.bipush X17.here hx rfl (hb hby d1_121) k) ?_
  refine own_go (b := T17.setTop (mkF m 125 #[iv 1] [(.int 114), (.int 8), (.ref b1), (.ref b1)])) (fun t k => XS.bipush X17.here hx rfl (hb hby d1_123) k) ?_
  obtain ⟨cl18, Ar18, qc18, Sz18, Ng18, Hs18, Ft18⟩ := id V_b1_17
  have hin18 : ¬ ((8 : Int32) < 0 ∨ cl18.slots.size ≤ ((8 : Int32)).toNatClampNeg) := inb_of Sz18 ⟨by decide, by decide⟩
  obtain ⟨T19, h19, X19, e19, W19, st19⟩ := stC X17 hx hZ e17 Ar18 (j := (8 : Int32)) hin18 (g := (mkF m 125 #[iv 1] [(.int 114), (.int 8), (.ref b1), (.ref b1)])) rfl rfl (hb hby d1_125)
  have V_b1_19 : Arv Z h19 b1 k1 .char (12 : Int32) [(.int (nar .char (115 : Int32))), (.int (nar .char (105 : Int32))), (.int (nar .char (110 : Int32))), (.int (nar .char (103 : Int32))), (.int (nar .char (108 : Int32))), (.int (nar .char (101 : Int32))), (.int (nar .char (45 : Int32))), (.int (nar .char (101 : Int32))), (.int (nar .char (114 : Int32))), (.int 0), (.int 0), (.int 0)] (.int (0 : Int32)) := Arv.set Ar18 qc18 Sz18 Ng18 Hs18 Ft18 (fits_nar_char _) W19 8 rfl (Nat.le_of_ble_eq_true rfl)
  have Zs19 : n0 ≤ h19.size := Nat.le_trans Zs17 (Keep.of_wr W19).1
  have N19 := Fr.snoc X19 N17 g_b1
  have Kp19 : Keep h0 h19 [] := Kp17.wr W19 (Or.inr sz_b1)
  refine own_go (b := T19.setTop (mkF m 126 #[iv 1] [(.ref b1)])) st19 ?_
  refine own_go (b := T19.setTop (mkF m 127 #[iv 1] [(.ref b1), (.ref b1)])) (fun t k => XS.dup X19.here hx rfl (hb hby d1_126) rfl rfl k) ?_
  refine own_go (b := T19.setTop (mkF m 129 #[iv 1] [(.int 9), (.ref b1), (.ref b1)])) (fun t k => XS.bipush X19.here hx rfl (hb hby d1_127) k) ?_
  refine own_go (b := T19.setTop (mkF m 131 #[iv 1] [(.int 114), (.int 9), (.ref b1), (.ref b1)])) (fun t k => XS.bipush X19.here hx rfl (hb hby d1_129) k) ?_
  obtain ⟨cl20, Ar20, qc20, Sz20, Ng20, Hs20, Ft20⟩ := id V_b1_19
  have hin20 : ¬ ((9 : Int32) < 0 ∨ cl20.slots.size ≤ ((9 : Int32)).toNatClampNeg) := inb_of Sz20 ⟨by decide, by decide⟩
  obtain ⟨T21, h21, X21, e21, W21, st21⟩ := stC X19 hx hZ e19 Ar20 (j := (9 : Int32)) hin20 (g := (mkF m 131 #[iv 1] [(.int 114), (.int 9), (.ref b1), (.ref b1)])) rfl rfl (hb hby d1_131)
  have V_b1_21 : Arv Z h21 b1 k1 .char (12 : Int32) [(.int (nar .char (115 : Int32))), (.int (nar .char (105 : Int32))), (.int (nar .char (110 : Int32))), (.int (nar .char (103 : Int32))), (.int (nar .char (108 : Int32))), (.int (nar .char (101 : Int32))), (.int (nar .char (45 : Int32))), (.int (nar .char (101 : Int32))), (.int (nar .char (114 : Int32))), (.int (nar .char (114 : Int32))), (.int 0), (.int 0)] (.int (0 : Int32)) := Arv.set Ar20 qc20 Sz20 Ng20 Hs20 Ft20 (fits_nar_char _) W21 9 rfl (Nat.le_of_ble_eq_true rfl)
  have Zs21 : n0 ≤ h21.size := Nat.le_trans Zs19 (Keep.of_wr W21).1
  have N21 := Fr.snoc X21 N19 g_b1
  have Kp21 : Keep h0 h21 [] := Kp19.wr W21 (Or.inr sz_b1)
  refine own_go (b := T21.setTop (mkF m 132 #[iv 1] [(.ref b1)])) st21 ?_
  refine own_go (b := T21.setTop (mkF m 133 #[iv 1] [(.ref b1), (.ref b1)])) (fun t k => XS.dup X21.here hx rfl (hb hby d1_132) rfl rfl k) ?_
  refine own_go (b := T21.setTop (mkF m 135 #[iv 1] [(.int 10), (.ref b1), (.ref b1)])) (fun t k => XS.bipush X21.here hx rfl (hb hby d1_133) k) ?_
  refine own_go (b := T21.setTop (mkF m 137 #[iv 1] [(.int 111), (.int 10), (.ref b1), (.ref b1)])) (fun t k => XS.bipush X21.here hx rfl (hb hby d1_135) k) ?_
  obtain ⟨cl22, Ar22, qc22, Sz22, Ng22, Hs22, Ft22⟩ := id V_b1_21
  have hin22 : ¬ ((10 : Int32) < 0 ∨ cl22.slots.size ≤ ((10 : Int32)).toNatClampNeg) := inb_of Sz22 ⟨by decide, by decide⟩
  obtain ⟨T23, h23, X23, e23, W23, st23⟩ := stC X21 hx hZ e21 Ar22 (j := (10 : Int32)) hin22 (g := (mkF m 137 #[iv 1] [(.int 111), (.int 10), (.ref b1), (.ref b1)])) rfl rfl (hb hby d1_137)
  have V_b1_23 : Arv Z h23 b1 k1 .char (12 : Int32) [(.int (nar .char (115 : Int32))), (.int (nar .char (105 : Int32))), (.int (nar .char (110 : Int32))), (.int (nar .char (103 : Int32))), (.int (nar .char (108 : Int32))), (.int (nar .char (101 : Int32))), (.int (nar .char (45 : Int32))), (.int (nar .char (101 : Int32))), (.int (nar .char (114 : Int32))), (.int (nar .char (114 : Int32))), (.int (nar .char (111 : Int32))), (.int 0)] (.int (0 : Int32)) := Arv.set Ar22 qc22 Sz22 Ng22 Hs22 Ft22 (fits_nar_char _) W23 10 rfl (Nat.le_of_ble_eq_true rfl)
  have Zs23 : n0 ≤ h23.size := Nat.le_trans Zs21 (Keep.of_wr W23).1
  have N23 := Fr.snoc X23 N21 g_b1
  have Kp23 : Keep h0 h23 [] := Kp21.wr W23 (Or.inr sz_b1)
  refine own_go (b := T23.setTop (mkF m 138 #[iv 1] [(.ref b1)])) st23 ?_
  refine own_go (b := T23.setTop (mkF m 139 #[iv 1] [(.ref b1), (.ref b1)])) (fun t k => XS.dup X23.here hx rfl (hb hby d1_138) rfl rfl k) ?_
  refine own_go (b := T23.setTop (mkF m 141 #[iv 1] [(.int 11), (.ref b1), (.ref b1)])) (fun t k => XS.bipush X23.here hx rfl (hb hby d1_139) k) ?_
  refine own_go (b := T23.setTop (mkF m 143 #[iv 1] [(.int 114), (.int 11), (.ref b1), (.ref b1)])) (fun t k => XS.bipush X23.here hx rfl (hb hby d1_141) k) ?_
  obtain ⟨cl24, Ar24, qc24, Sz24, Ng24, Hs24, Ft24⟩ := id V_b1_23
  have hin24 : ¬ ((11 : Int32) < 0 ∨ cl24.slots.size ≤ ((11 : Int32)).toNatClampNeg) := inb_of Sz24 ⟨by decide, by decide⟩
  obtain ⟨T25, h25, X25, e25, W25, st25⟩ := stC X23 hx hZ e23 Ar24 (j := (11 : Int32)) hin24 (g := (mkF m 143 #[iv 1] [(.int 114), (.int 11), (.ref b1), (.ref b1)])) rfl rfl (hb hby d1_143)
  have V_b1_25 : Arv Z h25 b1 k1 .char (12 : Int32) [(.int (nar .char (115 : Int32))), (.int (nar .char (105 : Int32))), (.int (nar .char (110 : Int32))), (.int (nar .char (103 : Int32))), (.int (nar .char (108 : Int32))), (.int (nar .char (101 : Int32))), (.int (nar .char (45 : Int32))), (.int (nar .char (101 : Int32))), (.int (nar .char (114 : Int32))), (.int (nar .char (114 : Int32))), (.int (nar .char (111 : Int32))), (.int (nar .char (114 : Int32)))] (.int (0 : Int32)) := Arv.set Ar24 qc24 Sz24 Ng24 Hs24 Ft24 (fits_nar_char _) W25 11 rfl (Nat.le_of_ble_eq_true rfl)
  have Zs25 : n0 ≤ h25.size := Nat.le_trans Zs23 (Keep.of_wr W25).1
  have N25 := Fr.snoc X25 N23 g_b1
  have Kp25 : Keep h0 h25 [] := Kp23.wr W25 (Or.inr sz_b1)
  refine own_go (b := T25.setTop (mkF m 144 #[iv 1] [(.ref b1)])) st25 ?_
  exact own_retA X25 hx hlk hrt rfl rfl (hb hby d1_144) (Nat.le_of_ble_eq_true rfl) (Nat.le_of_ble_eq_true rfl) (⟨_, _, rfl, N25, by rw [e25]; exact Kp25, g_b1, sz_b1, by rw [e25]; exact V_b1_25⟩)
theorem ef_20_1 (m : MethodId) (kw : Int32) (cc : Int32) : entryFrame m #[(.int kw), (.int cc)] 2 = mkF m 0 #[iv kw, iv cc] [] := by first | (simp [entryFrame, mkF, argsToLocals, Value.category]; done) | rfl
def Q20_1 (Z : State) (kw : Int32) (cc : Int32) (h0 : Heap) (n0 : Nat) (v : Option Value) (h : Heap) (L : List Loc) : Prop := ∃ a k, v = some (.ref a) ∧ Fr n0 L ∧ Keep h0 h [] ∧ n0 ≤ a ∧ h0.size ≤ a ∧ Arv Z h a k .char (13 : Int32) [.int (nar .char (115 : Int32)), .int (nar .char (105 : Int32)), .int (nar .char (110 : Int32)), .int (nar .char (103 : Int32)), .int (nar .char (108 : Int32)), .int (nar .char (101 : Int32)), .int (nar .char (45 : Int32)), .int (nar .char (101 : Int32)), .int (nar .char (114 : Int32)), .int (nar .char (114 : Int32)), .int (nar .char (111 : Int32)), .int (nar .char (114 : Int32)), .int (nar .char cc)] (.int (0 : Int32))
set_option maxRecDepth 65536 in
set_option maxHeartbeats 40000000 in
theorem rm20_1 (l : Launch) (Z : State) (a0 : Array Value) (hw : ∀ d ∈ tables_1, d.before a0 Z = true) (ws : List Jvm.Cond) (kw : Int32) (cc : Int32) (h0 : Heap) (n0 : Nat) (Z0 : n0 ≤ h0.size) (hk_ : kw = (1 : Int32)) :
    MetFree l (⟨"com/example/fault/fault/EnvelopeNamedPinLaw", "longer", "(IC)[C"⟩ : MethodName) (head1 (Jvm.Cond.code (⟨"com/example/fault/fault/EnvelopeNamedPinLaw", "longer", "(IC)[C"⟩ : MethodName) method_3_code 2 (some (.array .char)) :: ws) ({ frames := 0, cells := 1, slots := 13, locals := 0 } : Room)) (fun a U => a = #[(.int kw), (.int cc)] ∧ Z.Warmed39 U.vm ∧ U.heap = h0) (fun _ _ _ _ _ => True) (fun _ U o U' => ∃ v L, o = .returned v ∧ Q20_1 Z kw cc h0 n0 v U'.heap L ∧ FrameEnd U o U' L ({ frames := 0, cells := 1, slots := 13, locals := 0 } : Room).cells ({ frames := 0, cells := 1, slots := 13, locals := 0 } : Room).slots) := by
  refine MetFree.of_bodySF (plainFor_of_name pn_0) hisR ?_
  intro p e s m args below meth c s₁ Bd hml0 hP hK
  obtain ⟨rfl, hZ, hh⟩ := hP
  have hx := Bd.exec
  have hby := Bd.bytes
  have hml : c.maxLocals = 2 := hml0
  have hown : s.vm.findClass "com/example/fault/fault/EnvelopeNamedPinLaw" = some m.cls := findClass_of_methodNamed Bd.named
  have hnm := (name_of_methodNamed Bd.named Bd.method).1
  have hlk : meth.locks = false := Bd.notSynchronized
  have hrt := Bd.returns
  have X0 : Stand p l e ({ frames := 0, cells := 1, slots := 13, locals := 0 } : Room) s m #[(.int kw), (.int cc)] below meth c s₁ [] 0 0 := Stand.of_body Bd
  have e0 : s₁.heap = h0 := by rw [← hh, Bd.state]; rfl
  have N0 := Fr.nil n0
  show own_Endz p.tables e below (own_EndQ s ({ frames := 0, cells := 1, slots := 13, locals := 0 } : Room).cells ({ frames := 0, cells := 1, slots := 13, locals := 0 } : Room).slots (Q20_1 Z kw cc h0 n0)) (s₁.setTop (entryFrame m #[(.int kw), (.int cc)] 2))
  refine own_cast (ef_20_1 m kw cc) ?_
  subst hk_
  show own_Endz p.tables e below (own_EndQ s ({ frames := 0, cells := 1, slots := 13, locals := 0 } : Room).cells ({ frames := 0, cells := 1, slots := 13, locals := 0 } : Room).slots (Q20_1 Z ((1 : Int32)) cc h0 n0)) (s₁.setTop (mkF m 0 #[iv 1, iv cc] []))
  refine own_go (b := s₁.setTop (mkF m 1 #[iv 1, iv cc] [(.int 1)])) (fun t k => XS.iloadN X0.here hx rfl (hb hby d20_0) rfl  k) ?_
  refine own_go (b := s₁.setTop (mkF m 74 #[iv 1, iv cc] [])) (fun t k => XS.ifYes X0.here hx rfl (pc0 := 1) (pc' := 74) rfl (hb hby d20_1) rfl ((if0 _ _).trans (feq (by decide : ¬ ((1 : Int32) = (0 : Int32)))).2) (by decide) (by decide) k) ?_
  refine own_go (b := s₁.setTop (mkF m 75 #[iv 1, iv cc] [(.int 1)])) (fun t k => XS.iloadN X0.here hx rfl (hb hby d20_74) rfl  k) ?_
  refine own_go (b := s₁.setTop (mkF m 76 #[iv 1, iv cc] [(.int 1), (.int 1)])) (fun t k => XS.iconst X0.here hx rfl (hb hby d20_75) k) ?_
  refine own_go (b := s₁.setTop (mkF m 79 #[iv 1, iv cc] [])) (fun t k => XS.icmpNo X0.here hx rfl (hb hby d20_76) rfl (teq (rfl : (1 : Int32) = (1 : Int32))).2 k) ?_
  refine own_go (b := s₁.setTop (mkF m 81 #[iv 1, iv cc] [(.int 13)])) (fun t k => XS.bipush X0.here hx rfl (hb hby d20_79) k) ?_
  obtain ⟨T1, h1, k1, X1, e1, E1, A1, st1⟩ := newP X0 hx hZ (hw _ (List.mem_of_getElem? (i := 8) rfl)) e0 (g := (mkF m 81 #[iv 1, iv cc] [(.int 13)])) rfl (hb hby d20_81) rfl (by decide) (cap := 13) (by decide) (by decide) (by decide) (by decide)
  obtain ⟨b1, g1⟩ : ∃ z, z = h0.size := ⟨_, rfl⟩
  rw [← g1] at A1 st1
  have g_b1 : n0 ≤ b1 := Nat.le_trans Z0 (Nat.le_of_eq g1.symm)
  have sz_b1 : h0.size ≤ b1 := Nat.le_trans (Keep.refl h0 []).1 (Nat.le_of_eq g1.symm)
  have Zs1 : n0 ≤ h1.size := Nat.le_trans Z0 E1.1
  have Kp1 : Keep h0 h1 [] := (Keep.refl h0 []).ext E1
  have V_b1 : Arv Z h1 b1 k1 .char (13 : Int32) [(.int (0 : Int32)), (.int (0 : Int32)), (.int (0 : Int32)), (.int (0 : Int32)), (.int (0 : Int32)), (.int (0 : Int32)), (.int (0 : Int32)), (.int (0 : Int32)), (.int (0 : Int32)), (.int (0 : Int32)), (.int (0 : Int32)), (.int (0 : Int32)), (.int (0 : Int32))] (.int (0 : Int32)) := (Arv.new A1 (by decide)).pad (pad_rep [] (.int (0 : Int32)) 13)
  refine own_go (b := T1.setTop (mkF m 83 #[iv 1, iv cc] [(.ref b1)])) st1 ?_
  refine own_go (b := T1.setTop (mkF m 84 #[iv 1, iv cc] [(.ref b1), (.ref b1)])) (fun t k => XS.dup X1.here hx rfl (hb hby d20_83) rfl rfl k) ?_
  refine own_go (b := T1.setTop (mkF m 85 #[iv 1, iv cc] [(.int 0), (.ref b1), (.ref b1)])) (fun t k => XS.iconst X1.here hx rfl (hb hby d20_84) k) ?_
  refine own_go (b := T1.setTop (mkF m 87 #[iv 1, iv cc] [(.int 115), (.int 0), (.ref b1), (.ref b1)])) (fun t k => XS.bipush X1.here hx rfl (hb hby d20_85) k) ?_
  obtain ⟨cl2, Ar2, qc2, Sz2, Ng2, Hs2, Ft2⟩ := id V_b1
  have hin2 : ¬ ((0 : Int32) < 0 ∨ cl2.slots.size ≤ ((0 : Int32)).toNatClampNeg) := inb_of Sz2 ⟨by decide, by decide⟩
  obtain ⟨T3, h3, X3, e3, W3, st3⟩ := stC X1 hx hZ e1 Ar2 (j := (0 : Int32)) hin2 (g := (mkF m 87 #[iv 1, iv cc] [(.int 115), (.int 0), (.ref b1), (.ref b1)])) rfl rfl (hb hby d20_87)
  have V_b1_3 : Arv Z h3 b1 k1 .char (13 : Int32) [(.int (nar .char (115 : Int32))), (.int 0), (.int 0), (.int 0), (.int 0), (.int 0), (.int 0), (.int 0), (.int 0), (.int 0), (.int 0), (.int 0), (.int 0)] (.int (0 : Int32)) := Arv.set Ar2 qc2 Sz2 Ng2 Hs2 Ft2 (fits_nar_char _) W3 0 rfl (Nat.le_of_ble_eq_true rfl)
  have Zs3 : n0 ≤ h3.size := Nat.le_trans Zs1 (Keep.of_wr W3).1
  have N3 := Fr.snoc X3 N0 g_b1
  have Kp3 : Keep h0 h3 [] := Kp1.wr W3 (Or.inr sz_b1)
  refine own_go (b := T3.setTop (mkF m 88 #[iv 1, iv cc] [(.ref b1)])) st3 ?_
  refine own_go (b := T3.setTop (mkF m 89 #[iv 1, iv cc] [(.ref b1), (.ref b1)])) (fun t k => XS.dup X3.here hx rfl (hb hby d20_88) rfl rfl k) ?_
  refine own_go (b := T3.setTop (mkF m 90 #[iv 1, iv cc] [(.int 1), (.ref b1), (.ref b1)])) (fun t k => XS.iconst X3.here hx rfl (hb hby d20_89) k) ?_
  refine own_go (b := T3.setTop (mkF m 92 #[iv 1, iv cc] [(.int 105), (.int 1), (.ref b1), (.ref b1)])) (fun t k => XS.bipush X3.here hx rfl (hb hby d20_90) k) ?_
  obtain ⟨cl4, Ar4, qc4, Sz4, Ng4, Hs4, Ft4⟩ := id V_b1_3
  have hin4 : ¬ ((1 : Int32) < 0 ∨ cl4.slots.size ≤ ((1 : Int32)).toNatClampNeg) := inb_of Sz4 ⟨by decide, by decide⟩
  obtain ⟨T5, h5, X5, e5, W5, st5⟩ := stC X3 hx hZ e3 Ar4 (j := (1 : Int32)) hin4 (g := (mkF m 92 #[iv 1, iv cc] [(.int 105), (.int 1), (.ref b1), (.ref b1)])) rfl rfl (hb hby d20_92)
  have V_b1_5 : Arv Z h5 b1 k1 .char (13 : Int32) [(.int (nar .char (115 : Int32))), (.int (nar .char (105 : Int32))), (.int 0), (.int 0), (.int 0), (.int 0), (.int 0), (.int 0), (.int 0), (.int 0), (.int 0), (.int 0), (.int 0)] (.int (0 : Int32)) := Arv.set Ar4 qc4 Sz4 Ng4 Hs4 Ft4 (fits_nar_char _) W5 1 rfl (Nat.le_of_ble_eq_true rfl)
  have Zs5 : n0 ≤ h5.size := Nat.le_trans Zs3 (Keep.of_wr W5).1
  have N5 := Fr.snoc X5 N3 g_b1
  have Kp5 : Keep h0 h5 [] := Kp3.wr W5 (Or.inr sz_b1)
  refine own_go (b := T5.setTop (mkF m 93 #[iv 1, iv cc] [(.ref b1)])) st5 ?_
  refine own_go (b := T5.setTop (mkF m 94 #[iv 1, iv cc] [(.ref b1), (.ref b1)])) (fun t k => XS.dup X5.here hx rfl (hb hby d20_93) rfl rfl k) ?_
  refine own_go (b := T5.setTop (mkF m 95 #[iv 1, iv cc] [(.int 2), (.ref b1), (.ref b1)])) (fun t k => XS.iconst X5.here hx rfl (hb hby d20_94) k) ?_
  refine own_go (b := T5.setTop (mkF m 97 #[iv 1, iv cc] [(.int 110), (.int 2), (.ref b1), (.ref b1)])) (fun t k => XS.bipush X5.here hx rfl (hb hby d20_95) k) ?_
  obtain ⟨cl6, Ar6, qc6, Sz6, Ng6, Hs6, Ft6⟩ := id V_b1_5
  have hin6 : ¬ ((2 : Int32) < 0 ∨ cl6.slots.size ≤ ((2 : Int32)).toNatClampNeg) := inb_of Sz6 ⟨by decide, by decide⟩
  obtain ⟨T7, h7, X7, e7, W7, st7⟩ := stC X5 hx hZ e5 Ar6 (j := (2 : Int32)) hin6 (g := (mkF m 97 #[iv 1, iv cc] [(.int 110), (.int 2), (.ref b1), (.ref b1)])) rfl rfl (hb hby d20_97)
  have V_b1_7 : Arv Z h7 b1 k1 .char (13 : Int32) [(.int (nar .char (115 : Int32))), (.int (nar .char (105 : Int32))), (.int (nar .char (110 : Int32))), (.int 0), (.int 0), (.int 0), (.int 0), (.int 0), (.int 0), (.int 0), (.int 0), (.int 0), (.int 0)] (.int (0 : Int32)) := Arv.set Ar6 qc6 Sz6 Ng6 Hs6 Ft6 (fits_nar_char _) W7 2 rfl (Nat.le_of_ble_eq_true rfl)
  have Zs7 : n0 ≤ h7.size := Nat.le_trans Zs5 (Keep.of_wr W7).1
  have N7 := Fr.snoc X7 N5 g_b1
  have Kp7 : Keep h0 h7 [] := Kp5.wr W7 (Or.inr sz_b1)
  refine own_go (b := T7.setTop (mkF m 98 #[iv 1, iv cc] [(.ref b1)])) st7 ?_
  refine own_go (b := T7.setTop (mkF m 99 #[iv 1, iv cc] [(.ref b1), (.ref b1)])) (fun t k => XS.dup X7.here hx rfl (hb hby d20_98) rfl rfl k) ?_
  refine own_go (b := T7.setTop (mkF m 100 #[iv 1, iv cc] [(.int 3), (.ref b1), (.ref b1)])) (fun t k => XS.iconst X7.here hx rfl (hb hby d20_99) k) ?_
  refine own_go (b := T7.setTop (mkF m 102 #[iv 1, iv cc] [(.int 103), (.int 3), (.ref b1), (.ref b1)])) (fun t k => XS.bipush X7.here hx rfl (hb hby d20_100) k) ?_
  obtain ⟨cl8, Ar8, qc8, Sz8, Ng8, Hs8, Ft8⟩ := id V_b1_7
  have hin8 : ¬ ((3 : Int32) < 0 ∨ cl8.slots.size ≤ ((3 : Int32)).toNatClampNeg) := inb_of Sz8 ⟨by decide, by decide⟩
  obtain ⟨T9, h9, X9, e9, W9, st9⟩ := stC X7 hx hZ e7 Ar8 (j := (3 : Int32)) hin8 (g := (mkF m 102 #[iv 1, iv cc] [(.int 103), (.int 3), (.ref b1), (.ref b1)])) rfl rfl (hb hby d20_102)
  have V_b1_9 : Arv Z h9 b1 k1 .char (13 : Int32) [(.int (nar .char (115 : Int32))), (.int (nar .char (105 : Int32))), (.int (nar .char (110 : Int32))), (.int (nar .char (103 : Int32))), (.int 0), (.int 0), (.int 0), (.int 0), (.int 0), (.int 0), (.int 0), (.int 0), (.int 0)] (.int (0 : Int32)) := Arv.set Ar8 qc8 Sz8 Ng8 Hs8 Ft8 (fits_nar_char _) W9 3 rfl (Nat.le_of_ble_eq_true rfl)
  have Zs9 : n0 ≤ h9.size := Nat.le_trans Zs7 (Keep.of_wr W9).1
  have N9 := Fr.snoc X9 N7 g_b1
  have Kp9 : Keep h0 h9 [] := Kp7.wr W9 (Or.inr sz_b1)
  refine own_go (b := T9.setTop (mkF m 103 #[iv 1, iv cc] [(.ref b1)])) st9 ?_
  refine own_go (b := T9.setTop (mkF m 104 #[iv 1, iv cc] [(.ref b1), (.ref b1)])) (fun t k => XS.dup X9.here hx rfl (hb hby d20_103) rfl rfl k) ?_
  refine own_go (b := T9.setTop (mkF m 105 #[iv 1, iv cc] [(.int 4), (.ref b1), (.ref b1)])) (fun t k => XS.iconst X9.here hx rfl (hb hby d20_104) k) ?_
  refine own_go (b := T9.setTop (mkF m 107 #[iv 1, iv cc] [(.int 108), (.int 4), (.ref b1), (.ref b1)])) (fun t k => XS.bipush X9.here hx rfl (hb hby d20_105) k) ?_
  obtain ⟨cl10, Ar10, qc10, Sz10, Ng10, Hs10, Ft10⟩ := id V_b1_9
  have hin10 : ¬ ((4 : Int32) < 0 ∨ cl10.slots.size ≤ ((4 : Int32)).toNatClampNeg) := inb_of Sz10 ⟨by decide, by decide⟩
  obtain ⟨T11, h11, X11, e11, W11, st11⟩ := stC X9 hx hZ e9 Ar10 (j := (4 : Int32)) hin10 (g := (mkF m 107 #[iv 1, iv cc] [(.int 108), (.int 4), (.ref b1), (.ref b1)])) rfl rfl (hb hby d20_107)
  have V_b1_11 : Arv Z h11 b1 k1 .char (13 : Int32) [(.int (nar .char (115 : Int32))), (.int (nar .char (105 : Int32))), (.int (nar .char (110 : Int32))), (.int (nar .char (103 : Int32))), (.int (nar .char (108 : Int32))), (.int 0), (.int 0), (.int 0), (.int 0), (.int 0), (.int 0), (.int 0), (.int 0)] (.int (0 : Int32)) := Arv.set Ar10 qc10 Sz10 Ng10 Hs10 Ft10 (fits_nar_char _) W11 4 rfl (Nat.le_of_ble_eq_true rfl)
  have Zs11 : n0 ≤ h11.size := Nat.le_trans Zs9 (Keep.of_wr W11).1
  have N11 := Fr.snoc X11 N9 g_b1
  have Kp11 : Keep h0 h11 [] := Kp9.wr W11 (Or.inr sz_b1)
  refine own_go (b := T11.setTop (mkF m 108 #[iv 1, iv cc] [(.ref b1)])) st11 ?_
  refine own_go (b := T11.setTop (mkF m 109 #[iv 1, iv cc] [(.ref b1), (.ref b1)])) (fun t k => XS.dup X11.here hx rfl (hb hby d20_108) rfl rfl k) ?_
  refine own_go (b := T11.setTop (mkF m 110 #[iv 1, iv cc] [(.int 5), (.ref b1), (.ref b1)])) (fun t k => XS.iconst X11.here hx rfl (hb hby d20_109) k) ?_
  refine own_go (b := T11.setTop (mkF m 112 #[iv 1, iv cc] [(.int 101), (.int 5), (.ref b1), (.ref b1)])) (fun t k => XS.bipush X11.here hx rfl (hb hby d20_110) k) ?_
  obtain ⟨cl12, Ar12, qc12, Sz12, Ng12, Hs12, Ft12⟩ := id V_b1_11
  have hin12 : ¬ ((5 : Int32) < 0 ∨ cl12.slots.size ≤ ((5 : Int32)).toNatClampNeg) := inb_of Sz12 ⟨by decide, by decide⟩
  obtain ⟨T13, h13, X13, e13, W13, st13⟩ := stC X11 hx hZ e11 Ar12 (j := (5 : Int32)) hin12 (g := (mkF m 112 #[iv 1, iv cc] [(.int 101), (.int 5), (.ref b1), (.ref b1)])) rfl rfl (hb hby d20_112)
  have V_b1_13 : Arv Z h13 b1 k1 .char (13 : Int32) [(.int (nar .char (115 : Int32))), (.int (nar .char (105 : Int32))), (.int (nar .char (110 : Int32))), (.int (nar .char (103 : Int32))), (.int (nar .char (108 : Int32))), (.int (nar .char (101 : Int32))), (.int 0), (.int 0), (.int 0), (.int 0), (.int 0), (.int 0), (.int 0)] (.int (0 : Int32)) := Arv.set Ar12 qc12 Sz12 Ng12 Hs12 Ft12 (fits_nar_char _) W13 5 rfl (Nat.le_of_ble_eq_true rfl)
  have Zs13 : n0 ≤ h13.size := Nat.le_trans Zs11 (Keep.of_wr W13).1
  have N13 := Fr.snoc X13 N11 g_b1
  have Kp13 : Keep h0 h13 [] := Kp11.wr W13 (Or.inr sz_b1)
  refine own_go (b := T13.setTop (mkF m 113 #[iv 1, iv cc] [(.ref b1)])) st13 ?_
  refine own_go (b := T13.setTop (mkF m 114 #[iv 1, iv cc] [(.ref b1), (.ref b1)])) (fun t k => XS.dup X13.here hx rfl (hb hby d20_113) rfl rfl k) ?_
  refine own_go (b := T13.setTop (mkF m 116 #[iv 1, iv cc] [(.int 6), (.ref b1), (.ref b1)])) (fun t k => XS.bipush X13.here hx rfl (hb hby d20_114) k) ?_
  refine own_go (b := T13.setTop (mkF m 118 #[iv 1, iv cc] [(.int 45), (.int 6), (.ref b1), (.ref b1)])) (fun t k => XS.bipush X13.here hx rfl (hb hby d20_116) k) ?_
  obtain ⟨cl14, Ar14, qc14, Sz14, Ng14, Hs14, Ft14⟩ := id V_b1_13
  have hin14 : ¬ ((6 : Int32) < 0 ∨ cl14.slots.size ≤ ((6 : Int32)).toNatClampNeg) := inb_of Sz14 ⟨by decide, by decide⟩
  obtain ⟨T15, h15, X15, e15, W15, st15⟩ := stC X13 hx hZ e13 Ar14 (j := (6 : Int32)) hin14 (g := (mkF m 118 #[iv 1, iv cc] [(.int 45), (.int 6), (.ref b1), (.ref b1)])) rfl rfl (hb hby d20_118)
  have V_b1_15 : Arv Z h15 b1 k1 .char (13 : Int32) [(.int (nar .char (115 : Int32))), (.int (nar .char (105 : Int32))), (.int (nar .char (110 : Int32))), (.int (nar .char (103 : Int32))), (.int (nar .char (108 : Int32))), (.int (nar .char (101 : Int32))), (.int (nar .char (45 : Int32))), (.int 0), (.int 0), (.int 0), (.int 0), (.int 0), (.int 0)] (.int (0 : Int32)) := Arv.set Ar14 qc14 Sz14 Ng14 Hs14 Ft14 (fits_nar_char _) W15 6 rfl (Nat.le_of_ble_eq_true rfl)
  have Zs15 : n0 ≤ h15.size := Nat.le_trans Zs13 (Keep.of_wr W15).1
  have N15 := Fr.snoc X15 N13 g_b1
  have Kp15 : Keep h0 h15 [] := Kp13.wr W15 (Or.inr sz_b1)
  refine own_go (b := T15.setTop (mkF m 119 #[iv 1, iv cc] [(.ref b1)])) st15 ?_
  refine own_go (b := T15.setTop (mkF m 120 #[iv 1, iv cc] [(.ref b1), (.ref b1)])) (fun t k => XS.dup X15.here hx rfl (hb hby d20_119) rfl rfl k) ?_
  refine own_go (b := T15.setTop (mkF m 122 #[iv 1, iv cc] [(.int 7), (.ref b1), (.ref b1)])) (fun t k => XS.bipush X15.here hx rfl (hb hby d20_120) k) ?_
  refine own_go (b := T15.setTop (mkF m 124 #[iv 1, iv cc] [(.int 101), (.int 7), (.ref b1), (.ref b1)])) (fun t k => XS.bipush X15.here hx rfl (hb hby d20_122) k) ?_
  obtain ⟨cl16, Ar16, qc16, Sz16, Ng16, Hs16, Ft16⟩ := id V_b1_15
  have hin16 : ¬ ((7 : Int32) < 0 ∨ cl16.slots.size ≤ ((7 : Int32)).toNatClampNeg) := inb_of Sz16 ⟨by decide, by decide⟩
  obtain ⟨T17, h17, X17, e17, W17, st17⟩ := stC X15 hx hZ e15 Ar16 (j := (7 : Int32)) hin16 (g := (mkF m 124 #[iv 1, iv cc] [(.int 101), (.int 7), (.ref b1), (.ref b1)])) rfl rfl (hb hby d20_124)
  have V_b1_17 : Arv Z h17 b1 k1 .char (13 : Int32) [(.int (nar .char (115 : Int32))), (.int (nar .char (105 : Int32))), (.int (nar .char (110 : Int32))), (.int (nar .char (103 : Int32))), (.int (nar .char (108 : Int32))), (.int (nar .char (101 : Int32))), (.int (nar .char (45 : Int32))), (.int (nar .char (101 : Int32))), (.int 0), (.int 0), (.int 0), (.int 0), (.int 0)] (.int (0 : Int32)) := Arv.set Ar16 qc16 Sz16 Ng16 Hs16 Ft16 (fits_nar_char _) W17 7 rfl (Nat.le_of_ble_eq_true rfl)
  have Zs17 : n0 ≤ h17.size := Nat.le_trans Zs15 (Keep.of_wr W17).1
  have N17 := Fr.snoc X17 N15 g_b1
  have Kp17 : Keep h0 h17 [] := Kp15.wr W17 (Or.inr sz_b1)
  refine own_go (b := T17.setTop (mkF m 125 #[iv 1, iv cc] [(.ref b1)])) st17 ?_
  refine own_go (b := T17.setTop (mkF m 126 #[iv 1, iv cc] [(.ref b1), (.ref b1)])) (fun t k => XS.dup X17.here hx rfl (hb hby d20_125) rfl rfl k) ?_
  refine own_go (b := T17.setTop (mkF m 128 #[iv 1, iv cc] [(.int 8), (.ref b1), (.ref b1)])) (fun t k => XS.bipush X17.here hx rfl (hb hby d20_126) k) ?_
  refine own_go (b := T17.setTop (mkF m 130 #[iv 1, iv cc] [(.int 114), (.int 8), (.ref b1), (.ref b1)])) (fun t k => XS.bipush X17.here hx rfl (hb hby d20_128) k) ?_
  obtain ⟨cl18, Ar18, qc18, Sz18, Ng18, Hs18, Ft18⟩ := id V_b1_17
  have hin18 : ¬ ((8 : Int32) < 0 ∨ cl18.slots.size ≤ ((8 : Int32)).toNatClampNeg) := inb_of Sz18 ⟨by decide, by decide⟩
  obtain ⟨T19, h19, X19, e19, W19, st19⟩ := stC X17 hx hZ e17 Ar18 (j := (8 : Int32)) hin18 (g := (mkF m 130 #[iv 1, iv cc] [(.int 114), (.int 8), (.ref b1), (.ref b1)])) rfl rfl (hb hby d20_130)
  have V_b1_19 : Arv Z h19 b1 k1 .char (13 : Int32) [(.int (nar .char (115 : Int32))), (.int (nar .char (105 : Int32))), (.int (nar .char (110 : Int32))), (.int (nar .char (103 : Int32))), (.int (nar .char (108 : Int32))), (.int (nar .char (101 : Int32))), (.int (nar .char (45 : Int32))), (.int (nar .char (101 : Int32))), (.int (nar .char (114 : Int32))), (.int 0), (.int 0), (.int 0), (.int 0)] (.int (0 : Int32)) := Arv.set Ar18 qc18 Sz18 Ng18 Hs18 Ft18 (fits_nar_char _) W19 8 rfl (Nat.le_of_ble_eq_true rfl)
  have Zs19 : n0 ≤ h19.size := Nat.le_trans Zs17 (Keep.of_wr W19).1
  have N19 := Fr.snoc X19 N17 g_b1
  have Kp19 : Keep h0 h19 [] := Kp17.wr W19 (Or.inr sz_b1)
  refine own_go (b := T19.setTop (mkF m 131 #[iv 1, iv cc] [(.ref b1)])) st19 ?_
  refine own_go (b := T19.setTop (mkF m 132 #[iv 1, iv cc] [(.ref b1), (.ref b1)])) (fun t k => XS.dup X19.here hx rfl (hb hby d20_131) rfl rfl k) ?_
  refine own_go (b := T19.setTop (mkF m 134 #[iv 1, iv cc] [(.int 9), (.ref b1), (.ref b1)])) (fun t k => XS.bipush X19.here hx rfl (hb hby d20_132) k) ?_
  refine own_go (b := T19.setTop (mkF m 136 #[iv 1, iv cc] [(.int 114), (.int 9), (.ref b1), (.ref b1)])) (fun t k => XS.bipush X19.here hx rfl (hb hby d20_134) k) ?_
  obtain ⟨cl20, Ar20, qc20, Sz20, Ng20, Hs20, Ft20⟩ := id V_b1_19
  have hin20 : ¬ ((9 : Int32) < 0 ∨ cl20.slots.size ≤ ((9 : Int32)).toNatClampNeg) := inb_of Sz20 ⟨by decide, by decide⟩
  obtain ⟨T21, h21, X21, e21, W21, st21⟩ := stC X19 hx hZ e19 Ar20 (j := (9 : Int32)) hin20 (g := (mkF m 136 #[iv 1, iv cc] [(.int 114), (.int 9), (.ref b1), (.ref b1)])) rfl rfl (hb hby d20_136)
  have V_b1_21 : Arv Z h21 b1 k1 .char (13 : Int32) [(.int (nar .char (115 : Int32))), (.int (nar .char (105 : Int32))), (.int (nar .char (110 : Int32))), (.int (nar .char (103 : Int32))), (.int (nar .char (108 : Int32))), (.int (nar .char (101 : Int32))), (.int (nar .char (45 : Int32))), (.int (nar .char (101 : Int32))), (.int (nar .char (114 : Int32))), (.int (nar .char (114 : Int32))), (.int 0), (.int 0), (.int 0)] (.int (0 : Int32)) := Arv.set Ar20 qc20 Sz20 Ng20 Hs20 Ft20 (fits_nar_char _) W21 9 rfl (Nat.le_of_ble_eq_true rfl)
  have Zs21 : n0 ≤ h21.size := Nat.le_trans Zs19 (Keep.of_wr W21).1
  have N21 := Fr.snoc X21 N19 g_b1
  have Kp21 : Keep h0 h21 [] := Kp19.wr W21 (Or.inr sz_b1)
  refine own_go (b := T21.setTop (mkF m 137 #[iv 1, iv cc] [(.ref b1)])) st21 ?_
  refine own_go (b := T21.setTop (mkF m 138 #[iv 1, iv cc] [(.ref b1), (.ref b1)])) (fun t k => XS.dup X21.here hx rfl (hb hby d20_137) rfl rfl k) ?_
  refine own_go (b := T21.setTop (mkF m 140 #[iv 1, iv cc] [(.int 10), (.ref b1), (.ref b1)])) (fun t k => XS.bipush X21.here hx rfl (hb hby d20_138) k) ?_
  refine own_go (b := T21.setTop (mkF m 142 #[iv 1, iv cc] [(.int 111), (.int 10), (.ref b1), (.ref b1)])) (fun t k => XS.bipush X21.here hx rfl (hb hby d20_140) k) ?_
  obtain ⟨cl22, Ar22, qc22, Sz22, Ng22, Hs22, Ft22⟩ := id V_b1_21
  have hin22 : ¬ ((10 : Int32) < 0 ∨ cl22.slots.size ≤ ((10 : Int32)).toNatClampNeg) := inb_of Sz22 ⟨by decide, by decide⟩
  obtain ⟨T23, h23, X23, e23, W23, st23⟩ := stC X21 hx hZ e21 Ar22 (j := (10 : Int32)) hin22 (g := (mkF m 142 #[iv 1, iv cc] [(.int 111), (.int 10), (.ref b1), (.ref b1)])) rfl rfl (hb hby d20_142)
  have V_b1_23 : Arv Z h23 b1 k1 .char (13 : Int32) [(.int (nar .char (115 : Int32))), (.int (nar .char (105 : Int32))), (.int (nar .char (110 : Int32))), (.int (nar .char (103 : Int32))), (.int (nar .char (108 : Int32))), (.int (nar .char (101 : Int32))), (.int (nar .char (45 : Int32))), (.int (nar .char (101 : Int32))), (.int (nar .char (114 : Int32))), (.int (nar .char (114 : Int32))), (.int (nar .char (111 : Int32))), (.int 0), (.int 0)] (.int (0 : Int32)) := Arv.set Ar22 qc22 Sz22 Ng22 Hs22 Ft22 (fits_nar_char _) W23 10 rfl (Nat.le_of_ble_eq_true rfl)
  have Zs23 : n0 ≤ h23.size := Nat.le_trans Zs21 (Keep.of_wr W23).1
  have N23 := Fr.snoc X23 N21 g_b1
  have Kp23 : Keep h0 h23 [] := Kp21.wr W23 (Or.inr sz_b1)
  refine own_go (b := T23.setTop (mkF m 143 #[iv 1, iv cc] [(.ref b1)])) st23 ?_
  refine own_go (b := T23.setTop (mkF m 144 #[iv 1, iv cc] [(.ref b1), (.ref b1)])) (fun t k => XS.dup X23.here hx rfl (hb hby d20_143) rfl rfl k) ?_
  refine own_go (b := T23.setTop (mkF m 146 #[iv 1, iv cc] [(.int 11), (.ref b1), (.ref b1)])) (fun t k => XS.bipush X23.here hx rfl (hb hby d20_144) k) ?_
  refine own_go (b := T23.setTop (mkF m 148 #[iv 1, iv cc] [(.int 114), (.int 11), (.ref b1), (.ref b1)])) (fun t k => XS.bipush X23.here hx rfl (hb hby d20_146) k) ?_
  obtain ⟨cl24, Ar24, qc24, Sz24, Ng24, Hs24, Ft24⟩ := id V_b1_23
  have hin24 : ¬ ((11 : Int32) < 0 ∨ cl24.slots.size ≤ ((11 : Int32)).toNatClampNeg) := inb_of Sz24 ⟨by decide, by decide⟩
  obtain ⟨T25, h25, X25, e25, W25, st25⟩ := stC X23 hx hZ e23 Ar24 (j := (11 : Int32)) hin24 (g := (mkF m 148 #[iv 1, iv cc] [(.int 114), (.int 11), (.ref b1), (.ref b1)])) rfl rfl (hb hby d20_148)
  have V_b1_25 : Arv Z h25 b1 k1 .char (13 : Int32) [(.int (nar .char (115 : Int32))), (.int (nar .char (105 : Int32))), (.int (nar .char (110 : Int32))), (.int (nar .char (103 : Int32))), (.int (nar .char (108 : Int32))), (.int (nar .char (101 : Int32))), (.int (nar .char (45 : Int32))), (.int (nar .char (101 : Int32))), (.int (nar .char (114 : Int32))), (.int (nar .char (114 : Int32))), (.int (nar .char (111 : Int32))), (.int (nar .char (114 : Int32))), (.int 0)] (.int (0 : Int32)) := Arv.set Ar24 qc24 Sz24 Ng24 Hs24 Ft24 (fits_nar_char _) W25 11 rfl (Nat.le_of_ble_eq_true rfl)
  have Zs25 : n0 ≤ h25.size := Nat.le_trans Zs23 (Keep.of_wr W25).1
  have N25 := Fr.snoc X25 N23 g_b1
  have Kp25 : Keep h0 h25 [] := Kp23.wr W25 (Or.inr sz_b1)
  refine own_go (b := T25.setTop (mkF m 149 #[iv 1, iv cc] [(.ref b1)])) st25 ?_
  refine own_go (b := T25.setTop (mkF m 150 #[iv 1, iv cc] [(.ref b1), (.ref b1)])) (fun t k => XS.dup X25.here hx rfl (hb hby d20_149) rfl rfl k) ?_
  refine own_go (b := T25.setTop (mkF m 152 #[iv 1, iv cc] [(.int 12), (.ref b1), (.ref b1)])) (fun t k => XS.bipush X25.here hx rfl (hb hby d20_150) k) ?_
  refine own_go (b := T25.setTop (mkF m 153 #[iv 1, iv cc] [(.int cc), (.int 12), (.ref b1), (.ref b1)])) (fun t k => XS.iloadN X25.here hx rfl (hb hby d20_152) rfl  k) ?_
  obtain ⟨cl26, Ar26, qc26, Sz26, Ng26, Hs26, Ft26⟩ := id V_b1_25
  have hin26 : ¬ ((12 : Int32) < 0 ∨ cl26.slots.size ≤ ((12 : Int32)).toNatClampNeg) := inb_of Sz26 ⟨by decide, by decide⟩
  obtain ⟨T27, h27, X27, e27, W27, st27⟩ := stC X25 hx hZ e25 Ar26 (j := (12 : Int32)) hin26 (g := (mkF m 153 #[iv 1, iv cc] [(.int cc), (.int 12), (.ref b1), (.ref b1)])) rfl rfl (hb hby d20_153)
  have V_b1_27 : Arv Z h27 b1 k1 .char (13 : Int32) [(.int (nar .char (115 : Int32))), (.int (nar .char (105 : Int32))), (.int (nar .char (110 : Int32))), (.int (nar .char (103 : Int32))), (.int (nar .char (108 : Int32))), (.int (nar .char (101 : Int32))), (.int (nar .char (45 : Int32))), (.int (nar .char (101 : Int32))), (.int (nar .char (114 : Int32))), (.int (nar .char (114 : Int32))), (.int (nar .char (111 : Int32))), (.int (nar .char (114 : Int32))), (.int (nar .char cc))] (.int (0 : Int32)) := Arv.set Ar26 qc26 Sz26 Ng26 Hs26 Ft26 (fits_nar_char _) W27 12 rfl (Nat.le_of_ble_eq_true rfl)
  have Zs27 : n0 ≤ h27.size := Nat.le_trans Zs25 (Keep.of_wr W27).1
  have N27 := Fr.snoc X27 N25 g_b1
  have Kp27 : Keep h0 h27 [] := Kp25.wr W27 (Or.inr sz_b1)
  refine own_go (b := T27.setTop (mkF m 154 #[iv 1, iv cc] [(.ref b1)])) st27 ?_
  exact own_retA X27 hx hlk hrt rfl rfl (hb hby d20_154) (Nat.le_of_ble_eq_true rfl) (Nat.le_of_ble_eq_true rfl) (⟨_, _, rfl, N27, by rw [e27]; exact Kp27, g_b1, sz_b1, by rw [e27]; exact V_b1_27⟩)
theorem ef_1_2 (m : MethodId) (kw : Int32) : entryFrame m #[(.int kw)] 1 = mkF m 0 #[iv kw] [] := by first | (simp [entryFrame, mkF, argsToLocals, Value.category]; done) | rfl
def Q1_2 (Z : State) (kw : Int32) (h0 : Heap) (n0 : Nat) (v : Option Value) (h : Heap) (L : List Loc) : Prop := ∃ a k, v = some (.ref a) ∧ Fr n0 L ∧ Keep h0 h [] ∧ n0 ≤ a ∧ h0.size ≤ a ∧ Arv Z h a k .char (7 : Int32) [.int (nar .char (112 : Int32)), .int (nar .char (114 : Int32)), .int (nar .char (111 : Int32)), .int (nar .char (98 : Int32)), .int (nar .char (108 : Int32)), .int (nar .char (101 : Int32)), .int (nar .char (109 : Int32))] (.int (0 : Int32))
set_option maxRecDepth 65536 in
set_option maxHeartbeats 40000000 in
theorem rm1_2 (l : Launch) (Z : State) (a0 : Array Value) (hw : ∀ d ∈ tables_1, d.before a0 Z = true) (ws : List Jvm.Cond) (kw : Int32) (h0 : Heap) (n0 : Nat) (Z0 : n0 ≤ h0.size) (hk_ : kw = (2 : Int32)) :
    MetFree l (⟨"com/example/fault/fault/EnvelopeNamedPinLaw", "base", "(I)[C"⟩ : MethodName) (head1 (Jvm.Cond.code (⟨"com/example/fault/fault/EnvelopeNamedPinLaw", "base", "(I)[C"⟩ : MethodName) method_2_code 1 (some (.array .char)) :: ws) ({ frames := 0, cells := 1, slots := 7, locals := 0 } : Room)) (fun a U => a = #[(.int kw)] ∧ Z.Warmed39 U.vm ∧ U.heap = h0) (fun _ _ _ _ _ => True) (fun _ U o U' => ∃ v L, o = .returned v ∧ Q1_2 Z kw h0 n0 v U'.heap L ∧ FrameEnd U o U' L ({ frames := 0, cells := 1, slots := 7, locals := 0 } : Room).cells ({ frames := 0, cells := 1, slots := 7, locals := 0 } : Room).slots) := by
  refine MetFree.of_bodySF (plainFor_of_name pn_0) hisR ?_
  intro p e s m args below meth c s₁ Bd hml0 hP hK
  obtain ⟨rfl, hZ, hh⟩ := hP
  have hx := Bd.exec
  have hby := Bd.bytes
  have hml : c.maxLocals = 1 := hml0
  have hown : s.vm.findClass "com/example/fault/fault/EnvelopeNamedPinLaw" = some m.cls := findClass_of_methodNamed Bd.named
  have hnm := (name_of_methodNamed Bd.named Bd.method).1
  have hlk : meth.locks = false := Bd.notSynchronized
  have hrt := Bd.returns
  have X0 : Stand p l e ({ frames := 0, cells := 1, slots := 7, locals := 0 } : Room) s m #[(.int kw)] below meth c s₁ [] 0 0 := Stand.of_body Bd
  have e0 : s₁.heap = h0 := by rw [← hh, Bd.state]; rfl
  have N0 := Fr.nil n0
  show own_Endz p.tables e below (own_EndQ s ({ frames := 0, cells := 1, slots := 7, locals := 0 } : Room).cells ({ frames := 0, cells := 1, slots := 7, locals := 0 } : Room).slots (Q1_2 Z kw h0 n0)) (s₁.setTop (entryFrame m #[(.int kw)] 1))
  refine own_cast (ef_1_2 m kw) ?_
  subst hk_
  show own_Endz p.tables e below (own_EndQ s ({ frames := 0, cells := 1, slots := 7, locals := 0 } : Room).cells ({ frames := 0, cells := 1, slots := 7, locals := 0 } : Room).slots (Q1_2 Z ((2 : Int32)) h0 n0)) (s₁.setTop (mkF m 0 #[iv 2] []))
  refine own_go (b := s₁.setTop (mkF m 1 #[iv 2] [(.int 2)])) (fun t k => XS.iloadN X0.here hx rfl (hb hby d1_0) rfl  k) ?_
  refine own_go (b := s₁.setTop (mkF m 69 #[iv 2] [])) (fun t k => XS.ifYes X0.here hx rfl (pc0 := 1) (pc' := 69) rfl (hb hby d1_1) rfl ((if0 _ _).trans (feq (by decide : ¬ ((2 : Int32) = (0 : Int32)))).2) (by decide) (by decide) k) ?_
  refine own_go (b := s₁.setTop (mkF m 70 #[iv 2] [(.int 2)])) (fun t k => XS.iloadN X0.here hx rfl (hb hby d1_69) rfl  k) ?_
  refine own_go (b := s₁.setTop (mkF m 71 #[iv 2] [(.int 1), (.int 2)])) (fun t k => XS.iconst X0.here hx rfl (hb hby d1_70) k) ?_
  refine own_go (b := s₁.setTop (mkF m 145 #[iv 2] [])) (fun t k => XS.icmpYes X0.here hx rfl (pc0 := 71) (pc' := 145) rfl (hb hby d1_71) rfl (feq (by decide : ¬ ((2 : Int32) = (1 : Int32)))).2 (by decide) (by decide) k) ?_
  refine own_go (b := s₁.setTop (mkF m 147 #[iv 2] [(.int 7)])) (fun t k => XS.bipush X0.here hx rfl (hb hby d1_145) k) ?_
  obtain ⟨T1, h1, k1, X1, e1, E1, A1, st1⟩ := newP X0 hx hZ (hw _ (List.mem_of_getElem? (i := 8) rfl)) e0 (g := (mkF m 147 #[iv 2] [(.int 7)])) rfl (hb hby d1_147) rfl (by decide) (cap := 7) (by decide) (by decide) (by decide) (by decide)
  obtain ⟨b1, g1⟩ : ∃ z, z = h0.size := ⟨_, rfl⟩
  rw [← g1] at A1 st1
  have g_b1 : n0 ≤ b1 := Nat.le_trans Z0 (Nat.le_of_eq g1.symm)
  have sz_b1 : h0.size ≤ b1 := Nat.le_trans (Keep.refl h0 []).1 (Nat.le_of_eq g1.symm)
  have Zs1 : n0 ≤ h1.size := Nat.le_trans Z0 E1.1
  have Kp1 : Keep h0 h1 [] := (Keep.refl h0 []).ext E1
  have V_b1 : Arv Z h1 b1 k1 .char (7 : Int32) [(.int (0 : Int32)), (.int (0 : Int32)), (.int (0 : Int32)), (.int (0 : Int32)), (.int (0 : Int32)), (.int (0 : Int32)), (.int (0 : Int32))] (.int (0 : Int32)) := (Arv.new A1 (by decide)).pad (pad_rep [] (.int (0 : Int32)) 7)
  refine own_go (b := T1.setTop (mkF m 149 #[iv 2] [(.ref b1)])) st1 ?_
  refine own_go (b := T1.setTop (mkF m 150 #[iv 2] [(.ref b1), (.ref b1)])) (fun t k => XS.dup X1.here hx rfl (hb hby d1_149) rfl rfl k) ?_
  refine own_go (b := T1.setTop (mkF m 151 #[iv 2] [(.int 0), (.ref b1), (.ref b1)])) (fun t k => XS.iconst X1.here hx rfl (hb hby d1_150) k) ?_
  refine own_go (b := T1.setTop (mkF m 153 #[iv 2] [(.int 112), (.int 0), (.ref b1), (.ref b1)])) (fun t k => XS.bipush X1.here hx rfl (hb hby d1_151) k) ?_
  obtain ⟨cl2, Ar2, qc2, Sz2, Ng2, Hs2, Ft2⟩ := id V_b1
  have hin2 : ¬ ((0 : Int32) < 0 ∨ cl2.slots.size ≤ ((0 : Int32)).toNatClampNeg) := inb_of Sz2 ⟨by decide, by decide⟩
  obtain ⟨T3, h3, X3, e3, W3, st3⟩ := stC X1 hx hZ e1 Ar2 (j := (0 : Int32)) hin2 (g := (mkF m 153 #[iv 2] [(.int 112), (.int 0), (.ref b1), (.ref b1)])) rfl rfl (hb hby d1_153)
  have V_b1_3 : Arv Z h3 b1 k1 .char (7 : Int32) [(.int (nar .char (112 : Int32))), (.int 0), (.int 0), (.int 0), (.int 0), (.int 0), (.int 0)] (.int (0 : Int32)) := Arv.set Ar2 qc2 Sz2 Ng2 Hs2 Ft2 (fits_nar_char _) W3 0 rfl (Nat.le_of_ble_eq_true rfl)
  have Zs3 : n0 ≤ h3.size := Nat.le_trans Zs1 (Keep.of_wr W3).1
  have N3 := Fr.snoc X3 N0 g_b1
  have Kp3 : Keep h0 h3 [] := Kp1.wr W3 (Or.inr sz_b1)
  refine own_go (b := T3.setTop (mkF m 154 #[iv 2] [(.ref b1)])) st3 ?_
  refine own_go (b := T3.setTop (mkF m 155 #[iv 2] [(.ref b1), (.ref b1)])) (fun t k => XS.dup X3.here hx rfl (hb hby d1_154) rfl rfl k) ?_
  refine own_go (b := T3.setTop (mkF m 156 #[iv 2] [(.int 1), (.ref b1), (.ref b1)])) (fun t k => XS.iconst X3.here hx rfl (hb hby d1_155) k) ?_
  refine own_go (b := T3.setTop (mkF m 158 #[iv 2] [(.int 114), (.int 1), (.ref b1), (.ref b1)])) (fun t k => XS.bipush X3.here hx rfl (hb hby d1_156) k) ?_
  obtain ⟨cl4, Ar4, qc4, Sz4, Ng4, Hs4, Ft4⟩ := id V_b1_3
  have hin4 : ¬ ((1 : Int32) < 0 ∨ cl4.slots.size ≤ ((1 : Int32)).toNatClampNeg) := inb_of Sz4 ⟨by decide, by decide⟩
  obtain ⟨T5, h5, X5, e5, W5, st5⟩ := stC X3 hx hZ e3 Ar4 (j := (1 : Int32)) hin4 (g := (mkF m 158 #[iv 2] [(.int 114), (.int 1), (.ref b1), (.ref b1)])) rfl rfl (hb hby d1_158)
  have V_b1_5 : Arv Z h5 b1 k1 .char (7 : Int32) [(.int (nar .char (112 : Int32))), (.int (nar .char (114 : Int32))), (.int 0), (.int 0), (.int 0), (.int 0), (.int 0)] (.int (0 : Int32)) := Arv.set Ar4 qc4 Sz4 Ng4 Hs4 Ft4 (fits_nar_char _) W5 1 rfl (Nat.le_of_ble_eq_true rfl)
  have Zs5 : n0 ≤ h5.size := Nat.le_trans Zs3 (Keep.of_wr W5).1
  have N5 := Fr.snoc X5 N3 g_b1
  have Kp5 : Keep h0 h5 [] := Kp3.wr W5 (Or.inr sz_b1)
  refine own_go (b := T5.setTop (mkF m 159 #[iv 2] [(.ref b1)])) st5 ?_
  refine own_go (b := T5.setTop (mkF m 160 #[iv 2] [(.ref b1), (.ref b1)])) (fun t k => XS.dup X5.here hx rfl (hb hby d1_159) rfl rfl k) ?_
  refine own_go (b := T5.setTop (mkF m 161 #[iv 2] [(.int 2), (.ref b1), (.ref b1)])) (fun t k => XS.iconst X5.here hx rfl (hb hby d1_160) k) ?_
  refine own_go (b := T5.setTop (mkF m 163 #[iv 2] [(.int 111), (.int 2), (.ref b1), (.ref b1)])) (fun t k => XS.bipush X5.here hx rfl (hb hby d1_161) k) ?_
  obtain ⟨cl6, Ar6, qc6, Sz6, Ng6, Hs6, Ft6⟩ := id V_b1_5
  have hin6 : ¬ ((2 : Int32) < 0 ∨ cl6.slots.size ≤ ((2 : Int32)).toNatClampNeg) := inb_of Sz6 ⟨by decide, by decide⟩
  obtain ⟨T7, h7, X7, e7, W7, st7⟩ := stC X5 hx hZ e5 Ar6 (j := (2 : Int32)) hin6 (g := (mkF m 163 #[iv 2] [(.int 111), (.int 2), (.ref b1), (.ref b1)])) rfl rfl (hb hby d1_163)
  have V_b1_7 : Arv Z h7 b1 k1 .char (7 : Int32) [(.int (nar .char (112 : Int32))), (.int (nar .char (114 : Int32))), (.int (nar .char (111 : Int32))), (.int 0), (.int 0), (.int 0), (.int 0)] (.int (0 : Int32)) := Arv.set Ar6 qc6 Sz6 Ng6 Hs6 Ft6 (fits_nar_char _) W7 2 rfl (Nat.le_of_ble_eq_true rfl)
  have Zs7 : n0 ≤ h7.size := Nat.le_trans Zs5 (Keep.of_wr W7).1
  have N7 := Fr.snoc X7 N5 g_b1
  have Kp7 : Keep h0 h7 [] := Kp5.wr W7 (Or.inr sz_b1)
  refine own_go (b := T7.setTop (mkF m 164 #[iv 2] [(.ref b1)])) st7 ?_
  refine own_go (b := T7.setTop (mkF m 165 #[iv 2] [(.ref b1), (.ref b1)])) (fun t k => XS.dup X7.here hx rfl (hb hby d1_164) rfl rfl k) ?_
  refine own_go (b := T7.setTop (mkF m 166 #[iv 2] [(.int 3), (.ref b1), (.ref b1)])) (fun t k => XS.iconst X7.here hx rfl (hb hby d1_165) k) ?_
  refine own_go (b := T7.setTop (mkF m 168 #[iv 2] [(.int 98), (.int 3), (.ref b1), (.ref b1)])) (fun t k => XS.bipush X7.here hx rfl (hb hby d1_166) k) ?_
  obtain ⟨cl8, Ar8, qc8, Sz8, Ng8, Hs8, Ft8⟩ := id V_b1_7
  have hin8 : ¬ ((3 : Int32) < 0 ∨ cl8.slots.size ≤ ((3 : Int32)).toNatClampNeg) := inb_of Sz8 ⟨by decide, by decide⟩
  obtain ⟨T9, h9, X9, e9, W9, st9⟩ := stC X7 hx hZ e7 Ar8 (j := (3 : Int32)) hin8 (g := (mkF m 168 #[iv 2] [(.int 98), (.int 3), (.ref b1), (.ref b1)])) rfl rfl (hb hby d1_168)
  have V_b1_9 : Arv Z h9 b1 k1 .char (7 : Int32) [(.int (nar .char (112 : Int32))), (.int (nar .char (114 : Int32))), (.int (nar .char (111 : Int32))), (.int (nar .char (98 : Int32))), (.int 0), (.int 0), (.int 0)] (.int (0 : Int32)) := Arv.set Ar8 qc8 Sz8 Ng8 Hs8 Ft8 (fits_nar_char _) W9 3 rfl (Nat.le_of_ble_eq_true rfl)
  have Zs9 : n0 ≤ h9.size := Nat.le_trans Zs7 (Keep.of_wr W9).1
  have N9 := Fr.snoc X9 N7 g_b1
  have Kp9 : Keep h0 h9 [] := Kp7.wr W9 (Or.inr sz_b1)
  refine own_go (b := T9.setTop (mkF m 169 #[iv 2] [(.ref b1)])) st9 ?_
  refine own_go (b := T9.setTop (mkF m 170 #[iv 2] [(.ref b1), (.ref b1)])) (fun t k => XS.dup X9.here hx rfl (hb hby d1_169) rfl rfl k) ?_
  refine own_go (b := T9.setTop (mkF m 171 #[iv 2] [(.int 4), (.ref b1), (.ref b1)])) (fun t k => XS.iconst X9.here hx rfl (hb hby d1_170) k) ?_
  refine own_go (b := T9.setTop (mkF m 173 #[iv 2] [(.int 108), (.int 4), (.ref b1), (.ref b1)])) (fun t k => XS.bipush X9.here hx rfl (hb hby d1_171) k) ?_
  obtain ⟨cl10, Ar10, qc10, Sz10, Ng10, Hs10, Ft10⟩ := id V_b1_9
  have hin10 : ¬ ((4 : Int32) < 0 ∨ cl10.slots.size ≤ ((4 : Int32)).toNatClampNeg) := inb_of Sz10 ⟨by decide, by decide⟩
  obtain ⟨T11, h11, X11, e11, W11, st11⟩ := stC X9 hx hZ e9 Ar10 (j := (4 : Int32)) hin10 (g := (mkF m 173 #[iv 2] [(.int 108), (.int 4), (.ref b1), (.ref b1)])) rfl rfl (hb hby d1_173)
  have V_b1_11 : Arv Z h11 b1 k1 .char (7 : Int32) [(.int (nar .char (112 : Int32))), (.int (nar .char (114 : Int32))), (.int (nar .char (111 : Int32))), (.int (nar .char (98 : Int32))), (.int (nar .char (108 : Int32))), (.int 0), (.int 0)] (.int (0 : Int32)) := Arv.set Ar10 qc10 Sz10 Ng10 Hs10 Ft10 (fits_nar_char _) W11 4 rfl (Nat.le_of_ble_eq_true rfl)
  have Zs11 : n0 ≤ h11.size := Nat.le_trans Zs9 (Keep.of_wr W11).1
  have N11 := Fr.snoc X11 N9 g_b1
  have Kp11 : Keep h0 h11 [] := Kp9.wr W11 (Or.inr sz_b1)
  refine own_go (b := T11.setTop (mkF m 174 #[iv 2] [(.ref b1)])) st11 ?_
  refine own_go (b := T11.setTop (mkF m 175 #[iv 2] [(.ref b1), (.ref b1)])) (fun t k => XS.dup X11.here hx rfl (hb hby d1_174) rfl rfl k) ?_
  refine own_go (b := T11.setTop (mkF m 176 #[iv 2] [(.int 5), (.ref b1), (.ref b1)])) (fun t k => XS.iconst X11.here hx rfl (hb hby d1_175) k) ?_
  refine own_go (b := T11.setTop (mkF m 178 #[iv 2] [(.int 101), (.int 5), (.ref b1), (.ref b1)])) (fun t k => XS.bipush X11.here hx rfl (hb hby d1_176) k) ?_
  obtain ⟨cl12, Ar12, qc12, Sz12, Ng12, Hs12, Ft12⟩ := id V_b1_11
  have hin12 : ¬ ((5 : Int32) < 0 ∨ cl12.slots.size ≤ ((5 : Int32)).toNatClampNeg) := inb_of Sz12 ⟨by decide, by decide⟩
  obtain ⟨T13, h13, X13, e13, W13, st13⟩ := stC X11 hx hZ e11 Ar12 (j := (5 : Int32)) hin12 (g := (mkF m 178 #[iv 2] [(.int 101), (.int 5), (.ref b1), (.ref b1)])) rfl rfl (hb hby d1_178)
  have V_b1_13 : Arv Z h13 b1 k1 .char (7 : Int32) [(.int (nar .char (112 : Int32))), (.int (nar .char (114 : Int32))), (.int (nar .char (111 : Int32))), (.int (nar .char (98 : Int32))), (.int (nar .char (108 : Int32))), (.int (nar .char (101 : Int32))), (.int 0)] (.int (0 : Int32)) := Arv.set Ar12 qc12 Sz12 Ng12 Hs12 Ft12 (fits_nar_char _) W13 5 rfl (Nat.le_of_ble_eq_true rfl)
  have Zs13 : n0 ≤ h13.size := Nat.le_trans Zs11 (Keep.of_wr W13).1
  have N13 := Fr.snoc X13 N11 g_b1
  have Kp13 : Keep h0 h13 [] := Kp11.wr W13 (Or.inr sz_b1)
  refine own_go (b := T13.setTop (mkF m 179 #[iv 2] [(.ref b1)])) st13 ?_
  refine own_go (b := T13.setTop (mkF m 180 #[iv 2] [(.ref b1), (.ref b1)])) (fun t k => XS.dup X13.here hx rfl (hb hby d1_179) rfl rfl k) ?_
  refine own_go (b := T13.setTop (mkF m 182 #[iv 2] [(.int 6), (.ref b1), (.ref b1)])) (fun t k => XS.bipush X13.here hx rfl (hb hby d1_180) k) ?_
  refine own_go (b := T13.setTop (mkF m 184 #[iv 2] [(.int 109), (.int 6), (.ref b1), (.ref b1)])) (fun t k => XS.bipush X13.here hx rfl (hb hby d1_182) k) ?_
  obtain ⟨cl14, Ar14, qc14, Sz14, Ng14, Hs14, Ft14⟩ := id V_b1_13
  have hin14 : ¬ ((6 : Int32) < 0 ∨ cl14.slots.size ≤ ((6 : Int32)).toNatClampNeg) := inb_of Sz14 ⟨by decide, by decide⟩
  obtain ⟨T15, h15, X15, e15, W15, st15⟩ := stC X13 hx hZ e13 Ar14 (j := (6 : Int32)) hin14 (g := (mkF m 184 #[iv 2] [(.int 109), (.int 6), (.ref b1), (.ref b1)])) rfl rfl (hb hby d1_184)
  have V_b1_15 : Arv Z h15 b1 k1 .char (7 : Int32) [(.int (nar .char (112 : Int32))), (.int (nar .char (114 : Int32))), (.int (nar .char (111 : Int32))), (.int (nar .char (98 : Int32))), (.int (nar .char (108 : Int32))), (.int (nar .char (101 : Int32))), (.int (nar .char (109 : Int32)))] (.int (0 : Int32)) := Arv.set Ar14 qc14 Sz14 Ng14 Hs14 Ft14 (fits_nar_char _) W15 6 rfl (Nat.le_of_ble_eq_true rfl)
  have Zs15 : n0 ≤ h15.size := Nat.le_trans Zs13 (Keep.of_wr W15).1
  have N15 := Fr.snoc X15 N13 g_b1
  have Kp15 : Keep h0 h15 [] := Kp13.wr W15 (Or.inr sz_b1)
  refine own_go (b := T15.setTop (mkF m 185 #[iv 2] [(.ref b1)])) st15 ?_
  exact own_retA X15 hx hlk hrt rfl rfl (hb hby d1_185) (Nat.le_of_ble_eq_true rfl) (Nat.le_of_ble_eq_true rfl) (⟨_, _, rfl, N15, by rw [e15]; exact Kp15, g_b1, sz_b1, by rw [e15]; exact V_b1_15⟩)
theorem ef_20_2 (m : MethodId) (kw : Int32) (cc : Int32) : entryFrame m #[(.int kw), (.int cc)] 2 = mkF m 0 #[iv kw, iv cc] [] := by first | (simp [entryFrame, mkF, argsToLocals, Value.category]; done) | rfl
def Q20_2 (Z : State) (kw : Int32) (cc : Int32) (h0 : Heap) (n0 : Nat) (v : Option Value) (h : Heap) (L : List Loc) : Prop := ∃ a k, v = some (.ref a) ∧ Fr n0 L ∧ Keep h0 h [] ∧ n0 ≤ a ∧ h0.size ≤ a ∧ Arv Z h a k .char (8 : Int32) [.int (nar .char (112 : Int32)), .int (nar .char (114 : Int32)), .int (nar .char (111 : Int32)), .int (nar .char (98 : Int32)), .int (nar .char (108 : Int32)), .int (nar .char (101 : Int32)), .int (nar .char (109 : Int32)), .int (nar .char cc)] (.int (0 : Int32))
set_option maxRecDepth 65536 in
set_option maxHeartbeats 40000000 in
theorem rm20_2 (l : Launch) (Z : State) (a0 : Array Value) (hw : ∀ d ∈ tables_1, d.before a0 Z = true) (ws : List Jvm.Cond) (kw : Int32) (cc : Int32) (h0 : Heap) (n0 : Nat) (Z0 : n0 ≤ h0.size) (hk_ : kw = (2 : Int32)) :
    MetFree l (⟨"com/example/fault/fault/EnvelopeNamedPinLaw", "longer", "(IC)[C"⟩ : MethodName) (head1 (Jvm.Cond.code (⟨"com/example/fault/fault/EnvelopeNamedPinLaw", "longer", "(IC)[C"⟩ : MethodName) method_3_code 2 (some (.array .char)) :: ws) ({ frames := 0, cells := 1, slots := 8, locals := 0 } : Room)) (fun a U => a = #[(.int kw), (.int cc)] ∧ Z.Warmed39 U.vm ∧ U.heap = h0) (fun _ _ _ _ _ => True) (fun _ U o U' => ∃ v L, o = .returned v ∧ Q20_2 Z kw cc h0 n0 v U'.heap L ∧ FrameEnd U o U' L ({ frames := 0, cells := 1, slots := 8, locals := 0 } : Room).cells ({ frames := 0, cells := 1, slots := 8, locals := 0 } : Room).slots) := by
  refine MetFree.of_bodySF (plainFor_of_name pn_0) hisR ?_
  intro p e s m args below meth c s₁ Bd hml0 hP hK
  obtain ⟨rfl, hZ, hh⟩ := hP
  have hx := Bd.exec
  have hby := Bd.bytes
  have hml : c.maxLocals = 2 := hml0
  have hown : s.vm.findClass "com/example/fault/fault/EnvelopeNamedPinLaw" = some m.cls := findClass_of_methodNamed Bd.named
  have hnm := (name_of_methodNamed Bd.named Bd.method).1
  have hlk : meth.locks = false := Bd.notSynchronized
  have hrt := Bd.returns
  have X0 : Stand p l e ({ frames := 0, cells := 1, slots := 8, locals := 0 } : Room) s m #[(.int kw), (.int cc)] below meth c s₁ [] 0 0 := Stand.of_body Bd
  have e0 : s₁.heap = h0 := by rw [← hh, Bd.state]; rfl
  have N0 := Fr.nil n0
  show own_Endz p.tables e below (own_EndQ s ({ frames := 0, cells := 1, slots := 8, locals := 0 } : Room).cells ({ frames := 0, cells := 1, slots := 8, locals := 0 } : Room).slots (Q20_2 Z kw cc h0 n0)) (s₁.setTop (entryFrame m #[(.int kw), (.int cc)] 2))
  refine own_cast (ef_20_2 m kw cc) ?_
  subst hk_
  show own_Endz p.tables e below (own_EndQ s ({ frames := 0, cells := 1, slots := 8, locals := 0 } : Room).cells ({ frames := 0, cells := 1, slots := 8, locals := 0 } : Room).slots (Q20_2 Z ((2 : Int32)) cc h0 n0)) (s₁.setTop (mkF m 0 #[iv 2, iv cc] []))
  refine own_go (b := s₁.setTop (mkF m 1 #[iv 2, iv cc] [(.int 2)])) (fun t k => XS.iloadN X0.here hx rfl (hb hby d20_0) rfl  k) ?_
  refine own_go (b := s₁.setTop (mkF m 74 #[iv 2, iv cc] [])) (fun t k => XS.ifYes X0.here hx rfl (pc0 := 1) (pc' := 74) rfl (hb hby d20_1) rfl ((if0 _ _).trans (feq (by decide : ¬ ((2 : Int32) = (0 : Int32)))).2) (by decide) (by decide) k) ?_
  refine own_go (b := s₁.setTop (mkF m 75 #[iv 2, iv cc] [(.int 2)])) (fun t k => XS.iloadN X0.here hx rfl (hb hby d20_74) rfl  k) ?_
  refine own_go (b := s₁.setTop (mkF m 76 #[iv 2, iv cc] [(.int 1), (.int 2)])) (fun t k => XS.iconst X0.here hx rfl (hb hby d20_75) k) ?_
  refine own_go (b := s₁.setTop (mkF m 155 #[iv 2, iv cc] [])) (fun t k => XS.icmpYes X0.here hx rfl (pc0 := 76) (pc' := 155) rfl (hb hby d20_76) rfl (feq (by decide : ¬ ((2 : Int32) = (1 : Int32)))).2 (by decide) (by decide) k) ?_
  refine own_go (b := s₁.setTop (mkF m 157 #[iv 2, iv cc] [(.int 8)])) (fun t k => XS.bipush X0.here hx rfl (hb hby d20_155) k) ?_
  obtain ⟨T1, h1, k1, X1, e1, E1, A1, st1⟩ := newP X0 hx hZ (hw _ (List.mem_of_getElem? (i := 8) rfl)) e0 (g := (mkF m 157 #[iv 2, iv cc] [(.int 8)])) rfl (hb hby d20_157) rfl (by decide) (cap := 8) (by decide) (by decide) (by decide) (by decide)
  obtain ⟨b1, g1⟩ : ∃ z, z = h0.size := ⟨_, rfl⟩
  rw [← g1] at A1 st1
  have g_b1 : n0 ≤ b1 := Nat.le_trans Z0 (Nat.le_of_eq g1.symm)
  have sz_b1 : h0.size ≤ b1 := Nat.le_trans (Keep.refl h0 []).1 (Nat.le_of_eq g1.symm)
  have Zs1 : n0 ≤ h1.size := Nat.le_trans Z0 E1.1
  have Kp1 : Keep h0 h1 [] := (Keep.refl h0 []).ext E1
  have V_b1 : Arv Z h1 b1 k1 .char (8 : Int32) [(.int (0 : Int32)), (.int (0 : Int32)), (.int (0 : Int32)), (.int (0 : Int32)), (.int (0 : Int32)), (.int (0 : Int32)), (.int (0 : Int32)), (.int (0 : Int32))] (.int (0 : Int32)) := (Arv.new A1 (by decide)).pad (pad_rep [] (.int (0 : Int32)) 8)
  refine own_go (b := T1.setTop (mkF m 159 #[iv 2, iv cc] [(.ref b1)])) st1 ?_
  refine own_go (b := T1.setTop (mkF m 160 #[iv 2, iv cc] [(.ref b1), (.ref b1)])) (fun t k => XS.dup X1.here hx rfl (hb hby d20_159) rfl rfl k) ?_
  refine own_go (b := T1.setTop (mkF m 161 #[iv 2, iv cc] [(.int 0), (.ref b1), (.ref b1)])) (fun t k => XS.iconst X1.here hx rfl (hb hby d20_160) k) ?_
  refine own_go (b := T1.setTop (mkF m 163 #[iv 2, iv cc] [(.int 112), (.int 0), (.ref b1), (.ref b1)])) (fun t k => XS.bipush X1.here hx rfl (hb hby d20_161) k) ?_
  obtain ⟨cl2, Ar2, qc2, Sz2, Ng2, Hs2, Ft2⟩ := id V_b1
  have hin2 : ¬ ((0 : Int32) < 0 ∨ cl2.slots.size ≤ ((0 : Int32)).toNatClampNeg) := inb_of Sz2 ⟨by decide, by decide⟩
  obtain ⟨T3, h3, X3, e3, W3, st3⟩ := stC X1 hx hZ e1 Ar2 (j := (0 : Int32)) hin2 (g := (mkF m 163 #[iv 2, iv cc] [(.int 112), (.int 0), (.ref b1), (.ref b1)])) rfl rfl (hb hby d20_163)
  have V_b1_3 : Arv Z h3 b1 k1 .char (8 : Int32) [(.int (nar .char (112 : Int32))), (.int 0), (.int 0), (.int 0), (.int 0), (.int 0), (.int 0), (.int 0)] (.int (0 : Int32)) := Arv.set Ar2 qc2 Sz2 Ng2 Hs2 Ft2 (fits_nar_char _) W3 0 rfl (Nat.le_of_ble_eq_true rfl)
  have Zs3 : n0 ≤ h3.size := Nat.le_trans Zs1 (Keep.of_wr W3).1
  have N3 := Fr.snoc X3 N0 g_b1
  have Kp3 : Keep h0 h3 [] := Kp1.wr W3 (Or.inr sz_b1)
  refine own_go (b := T3.setTop (mkF m 164 #[iv 2, iv cc] [(.ref b1)])) st3 ?_
  refine own_go (b := T3.setTop (mkF m 165 #[iv 2, iv cc] [(.ref b1), (.ref b1)])) (fun t k => XS.dup X3.here hx rfl (hb hby d20_164) rfl rfl k) ?_
  refine own_go (b := T3.setTop (mkF m 166 #[iv 2, iv cc] [(.int 1), (.ref b1), (.ref b1)])) (fun t k => XS.iconst X3.here hx rfl (hb hby d20_165) k) ?_
  refine own_go (b := T3.setTop (mkF m 168 #[iv 2, iv cc] [(.int 114), (.int 1), (.ref b1), (.ref b1)])) (fun t k => XS.bipush X3.here hx rfl (hb hby d20_166) k) ?_
  obtain ⟨cl4, Ar4, qc4, Sz4, Ng4, Hs4, Ft4⟩ := id V_b1_3
  have hin4 : ¬ ((1 : Int32) < 0 ∨ cl4.slots.size ≤ ((1 : Int32)).toNatClampNeg) := inb_of Sz4 ⟨by decide, by decide⟩
  obtain ⟨T5, h5, X5, e5, W5, st5⟩ := stC X3 hx hZ e3 Ar4 (j := (1 : Int32)) hin4 (g := (mkF m 168 #[iv 2, iv cc] [(.int 114), (.int 1), (.ref b1), (.ref b1)])) rfl rfl (hb hby d20_168)
  have V_b1_5 : Arv Z h5 b1 k1 .char (8 : Int32) [(.int (nar .char (112 : Int32))), (.int (nar .char (114 : Int32))), (.int 0), (.int 0), (.int 0), (.int 0), (.int 0), (.int 0)] (.int (0 : Int32)) := Arv.set Ar4 qc4 Sz4 Ng4 Hs4 Ft4 (fits_nar_char _) W5 1 rfl (Nat.le_of_ble_eq_true rfl)
  have Zs5 : n0 ≤ h5.size := Nat.le_trans Zs3 (Keep.of_wr W5).1
  have N5 := Fr.snoc X5 N3 g_b1
  have Kp5 : Keep h0 h5 [] := Kp3.wr W5 (Or.inr sz_b1)
  refine own_go (b := T5.setTop (mkF m 169 #[iv 2, iv cc] [(.ref b1)])) st5 ?_
  refine own_go (b := T5.setTop (mkF m 170 #[iv 2, iv cc] [(.ref b1), (.ref b1)])) (fun t k => XS.dup X5.here hx rfl (hb hby d20_169) rfl rfl k) ?_
  refine own_go (b := T5.setTop (mkF m 171 #[iv 2, iv cc] [(.int 2), (.ref b1), (.ref b1)])) (fun t k => XS.iconst X5.here hx rfl (hb hby d20_170) k) ?_
  refine own_go (b := T5.setTop (mkF m 173 #[iv 2, iv cc] [(.int 111), (.int 2), (.ref b1), (.ref b1)])) (fun t k => XS.bipush X5.here hx rfl (hb hby d20_171) k) ?_
  obtain ⟨cl6, Ar6, qc6, Sz6, Ng6, Hs6, Ft6⟩ := id V_b1_5
  have hin6 : ¬ ((2 : Int32) < 0 ∨ cl6.slots.size ≤ ((2 : Int32)).toNatClampNeg) := inb_of Sz6 ⟨by decide, by decide⟩
  obtain ⟨T7, h7, X7, e7, W7, st7⟩ := stC X5 hx hZ e5 Ar6 (j := (2 : Int32)) hin6 (g := (mkF m 173 #[iv 2, iv cc] [(.int 111), (.int 2), (.ref b1), (.ref b1)])) rfl rfl (hb hby d20_173)
  have V_b1_7 : Arv Z h7 b1 k1 .char (8 : Int32) [(.int (nar .char (112 : Int32))), (.int (nar .char (114 : Int32))), (.int (nar .char (111 : Int32))), (.int 0), (.int 0), (.int 0), (.int 0), (.int 0)] (.int (0 : Int32)) := Arv.set Ar6 qc6 Sz6 Ng6 Hs6 Ft6 (fits_nar_char _) W7 2 rfl (Nat.le_of_ble_eq_true rfl)
  have Zs7 : n0 ≤ h7.size := Nat.le_trans Zs5 (Keep.of_wr W7).1
  have N7 := Fr.snoc X7 N5 g_b1
  have Kp7 : Keep h0 h7 [] := Kp5.wr W7 (Or.inr sz_b1)
  refine own_go (b := T7.setTop (mkF m 174 #[iv 2, iv cc] [(.ref b1)])) st7 ?_
  refine own_go (b := T7.setTop (mkF m 175 #[iv 2, iv cc] [(.ref b1), (.ref b1)])) (fun t k => XS.dup X7.here hx rfl (hb hby d20_174) rfl rfl k) ?_
  refine own_go (b := T7.setTop (mkF m 176 #[iv 2, iv cc] [(.int 3), (.ref b1), (.ref b1)])) (fun t k => XS.iconst X7.here hx rfl (hb hby d20_175) k) ?_
  refine own_go (b := T7.setTop (mkF m 178 #[iv 2, iv cc] [(.int 98), (.int 3), (.ref b1), (.ref b1)])) (fun t k => XS.bipush X7.here hx rfl (hb hby d20_176) k) ?_
  obtain ⟨cl8, Ar8, qc8, Sz8, Ng8, Hs8, Ft8⟩ := id V_b1_7
  have hin8 : ¬ ((3 : Int32) < 0 ∨ cl8.slots.size ≤ ((3 : Int32)).toNatClampNeg) := inb_of Sz8 ⟨by decide, by decide⟩
  obtain ⟨T9, h9, X9, e9, W9, st9⟩ := stC X7 hx hZ e7 Ar8 (j := (3 : Int32)) hin8 (g := (mkF m 178 #[iv 2, iv cc] [(.int 98), (.int 3), (.ref b1), (.ref b1)])) rfl rfl (hb hby d20_178)
  have V_b1_9 : Arv Z h9 b1 k1 .char (8 : Int32) [(.int (nar .char (112 : Int32))), (.int (nar .char (114 : Int32))), (.int (nar .char (111 : Int32))), (.int (nar .char (98 : Int32))), (.int 0), (.int 0), (.int 0), (.int 0)] (.int (0 : Int32)) := Arv.set Ar8 qc8 Sz8 Ng8 Hs8 Ft8 (fits_nar_char _) W9 3 rfl (Nat.le_of_ble_eq_true rfl)
  have Zs9 : n0 ≤ h9.size := Nat.le_trans Zs7 (Keep.of_wr W9).1
  have N9 := Fr.snoc X9 N7 g_b1
  have Kp9 : Keep h0 h9 [] := Kp7.wr W9 (Or.inr sz_b1)
  refine own_go (b := T9.setTop (mkF m 179 #[iv 2, iv cc] [(.ref b1)])) st9 ?_
  refine own_go (b := T9.setTop (mkF m 180 #[iv 2, iv cc] [(.ref b1), (.ref b1)])) (fun t k => XS.dup X9.here hx rfl (hb hby d20_179) rfl rfl k) ?_
  refine own_go (b := T9.setTop (mkF m 181 #[iv 2, iv cc] [(.int 4), (.ref b1), (.ref b1)])) (fun t k => XS.iconst X9.here hx rfl (hb hby d20_180) k) ?_
  refine own_go (b := T9.setTop (mkF m 183 #[iv 2, iv cc] [(.int 108), (.int 4), (.ref b1), (.ref b1)])) (fun t k => XS.bipush X9.here hx rfl (hb hby d20_181) k) ?_
  obtain ⟨cl10, Ar10, qc10, Sz10, Ng10, Hs10, Ft10⟩ := id V_b1_9
  have hin10 : ¬ ((4 : Int32) < 0 ∨ cl10.slots.size ≤ ((4 : Int32)).toNatClampNeg) := inb_of Sz10 ⟨by decide, by decide⟩
  obtain ⟨T11, h11, X11, e11, W11, st11⟩ := stC X9 hx hZ e9 Ar10 (j := (4 : Int32)) hin10 (g := (mkF m 183 #[iv 2, iv cc] [(.int 108), (.int 4), (.ref b1), (.ref b1)])) rfl rfl (hb hby d20_183)
  have V_b1_11 : Arv Z h11 b1 k1 .char (8 : Int32) [(.int (nar .char (112 : Int32))), (.int (nar .char (114 : Int32))), (.int (nar .char (111 : Int32))), (.int (nar .char (98 : Int32))), (.int (nar .char (108 : Int32))), (.int 0), (.int 0), (.int 0)] (.int (0 : Int32)) := Arv.set Ar10 qc10 Sz10 Ng10 Hs10 Ft10 (fits_nar_char _) W11 4 rfl (Nat.le_of_ble_eq_true rfl)
  have Zs11 : n0 ≤ h11.size := Nat.le_trans Zs9 (Keep.of_wr W11).1
  have N11 := Fr.snoc X11 N9 g_b1
  have Kp11 : Keep h0 h11 [] := Kp9.wr W11 (Or.inr sz_b1)
  refine own_go (b := T11.setTop (mkF m 184 #[iv 2, iv cc] [(.ref b1)])) st11 ?_
  refine own_go (b := T11.setTop (mkF m 185 #[iv 2, iv cc] [(.ref b1), (.ref b1)])) (fun t k => XS.dup X11.here hx rfl (hb hby d20_184) rfl rfl k) ?_
  refine own_go (b := T11.setTop (mkF m 186 #[iv 2, iv cc] [(.int 5), (.ref b1), (.ref b1)])) (fun t k => XS.iconst X11.here hx rfl (hb hby d20_185) k) ?_
  refine own_go (b := T11.setTop (mkF m 188 #[iv 2, iv cc] [(.int 101), (.int 5), (.ref b1), (.ref b1)])) (fun t k => XS.bipush X11.here hx rfl (hb hby d20_186) k) ?_
  obtain ⟨cl12, Ar12, qc12, Sz12, Ng12, Hs12, Ft12⟩ := id V_b1_11
  have hin12 : ¬ ((5 : Int32) < 0 ∨ cl12.slots.size ≤ ((5 : Int32)).toNatClampNeg) := inb_of Sz12 ⟨by decide, by decide⟩
  obtain ⟨T13, h13, X13, e13, W13, st13⟩ := stC X11 hx hZ e11 Ar12 (j := (5 : Int32)) hin12 (g := (mkF m 188 #[iv 2, iv cc] [(.int 101), (.int 5), (.ref b1), (.ref b1)])) rfl rfl (hb hby d20_188)
  have V_b1_13 : Arv Z h13 b1 k1 .char (8 : Int32) [(.int (nar .char (112 : Int32))), (.int (nar .char (114 : Int32))), (.int (nar .char (111 : Int32))), (.int (nar .char (98 : Int32))), (.int (nar .char (108 : Int32))), (.int (nar .char (101 : Int32))), (.int 0), (.int 0)] (.int (0 : Int32)) := Arv.set Ar12 qc12 Sz12 Ng12 Hs12 Ft12 (fits_nar_char _) W13 5 rfl (Nat.le_of_ble_eq_true rfl)
  have Zs13 : n0 ≤ h13.size := Nat.le_trans Zs11 (Keep.of_wr W13).1
  have N13 := Fr.snoc X13 N11 g_b1
  have Kp13 : Keep h0 h13 [] := Kp11.wr W13 (Or.inr sz_b1)
  refine own_go (b := T13.setTop (mkF m 189 #[iv 2, iv cc] [(.ref b1)])) st13 ?_
  refine own_go (b := T13.setTop (mkF m 190 #[iv 2, iv cc] [(.ref b1), (.ref b1)])) (fun t k => XS.dup X13.here hx rfl (hb hby d20_189) rfl rfl k) ?_
  refine own_go (b := T13.setTop (mkF m 192 #[iv 2, iv cc] [(.int 6), (.ref b1), (.ref b1)])) (fun t k => XS.bipush X13.here hx rfl (hb hby d20_190) k) ?_
  refine own_go (b := T13.setTop (mkF m 194 #[iv 2, iv cc] [(.int 109), (.int 6), (.ref b1), (.ref b1)])) (fun t k => XS.bipush X13.here hx rfl (hb hby d20_192) k) ?_
  obtain ⟨cl14, Ar14, qc14, Sz14, Ng14, Hs14, Ft14⟩ := id V_b1_13
  have hin14 : ¬ ((6 : Int32) < 0 ∨ cl14.slots.size ≤ ((6 : Int32)).toNatClampNeg) := inb_of Sz14 ⟨by decide, by decide⟩
  obtain ⟨T15, h15, X15, e15, W15, st15⟩ := stC X13 hx hZ e13 Ar14 (j := (6 : Int32)) hin14 (g := (mkF m 194 #[iv 2, iv cc] [(.int 109), (.int 6), (.ref b1), (.ref b1)])) rfl rfl (hb hby d20_194)
  have V_b1_15 : Arv Z h15 b1 k1 .char (8 : Int32) [(.int (nar .char (112 : Int32))), (.int (nar .char (114 : Int32))), (.int (nar .char (111 : Int32))), (.int (nar .char (98 : Int32))), (.int (nar .char (108 : Int32))), (.int (nar .char (101 : Int32))), (.int (nar .char (109 : Int32))), (.int 0)] (.int (0 : Int32)) := Arv.set Ar14 qc14 Sz14 Ng14 Hs14 Ft14 (fits_nar_char _) W15 6 rfl (Nat.le_of_ble_eq_true rfl)
  have Zs15 : n0 ≤ h15.size := Nat.le_trans Zs13 (Keep.of_wr W15).1
  have N15 := Fr.snoc X15 N13 g_b1
  have Kp15 : Keep h0 h15 [] := Kp13.wr W15 (Or.inr sz_b1)
  refine own_go (b := T15.setTop (mkF m 195 #[iv 2, iv cc] [(.ref b1)])) st15 ?_
  refine own_go (b := T15.setTop (mkF m 196 #[iv 2, iv cc] [(.ref b1), (.ref b1)])) (fun t k => XS.dup X15.here hx rfl (hb hby d20_195) rfl rfl k) ?_
  refine own_go (b := T15.setTop (mkF m 198 #[iv 2, iv cc] [(.int 7), (.ref b1), (.ref b1)])) (fun t k => XS.bipush X15.here hx rfl (hb hby d20_196) k) ?_
  refine own_go (b := T15.setTop (mkF m 199 #[iv 2, iv cc] [(.int cc), (.int 7), (.ref b1), (.ref b1)])) (fun t k => XS.iloadN X15.here hx rfl (hb hby d20_198) rfl  k) ?_
  obtain ⟨cl16, Ar16, qc16, Sz16, Ng16, Hs16, Ft16⟩ := id V_b1_15
  have hin16 : ¬ ((7 : Int32) < 0 ∨ cl16.slots.size ≤ ((7 : Int32)).toNatClampNeg) := inb_of Sz16 ⟨by decide, by decide⟩
  obtain ⟨T17, h17, X17, e17, W17, st17⟩ := stC X15 hx hZ e15 Ar16 (j := (7 : Int32)) hin16 (g := (mkF m 199 #[iv 2, iv cc] [(.int cc), (.int 7), (.ref b1), (.ref b1)])) rfl rfl (hb hby d20_199)
  have V_b1_17 : Arv Z h17 b1 k1 .char (8 : Int32) [(.int (nar .char (112 : Int32))), (.int (nar .char (114 : Int32))), (.int (nar .char (111 : Int32))), (.int (nar .char (98 : Int32))), (.int (nar .char (108 : Int32))), (.int (nar .char (101 : Int32))), (.int (nar .char (109 : Int32))), (.int (nar .char cc))] (.int (0 : Int32)) := Arv.set Ar16 qc16 Sz16 Ng16 Hs16 Ft16 (fits_nar_char _) W17 7 rfl (Nat.le_of_ble_eq_true rfl)
  have Zs17 : n0 ≤ h17.size := Nat.le_trans Zs15 (Keep.of_wr W17).1
  have N17 := Fr.snoc X17 N15 g_b1
  have Kp17 : Keep h0 h17 [] := Kp15.wr W17 (Or.inr sz_b1)
  refine own_go (b := T17.setTop (mkF m 200 #[iv 2, iv cc] [(.ref b1)])) st17 ?_
  exact own_retA X17 hx hlk hrt rfl rfl (hb hby d20_200) (Nat.le_of_ble_eq_true rfl) (Nat.le_of_ble_eq_true rfl) (⟨_, _, rfl, N17, by rw [e17]; exact Kp17, g_b1, sz_b1, by rw [e17]; exact V_b1_17⟩)
theorem d18_0 : decode method_5_code 0 = .ok (.iload_n 0, 1) := by decide +kernel
theorem d18_1 : decode method_5_code 1 = .ok (.newarray .char, 2) := by decide +kernel
theorem d18_3 : decode method_5_code 3 = .ok (.astore_n 2, 1) := by decide +kernel
theorem d18_4 : decode method_5_code 4 = .ok (.iload_n 0, 1) := by decide +kernel
theorem d18_5 : decode method_5_code 5 = .ok (.ifCond .le 12, 3) := by decide +kernel
theorem d18_8 : decode method_5_code 8 = .ok (.aload_n 2, 1) := by decide +kernel
theorem d18_9 : decode method_5_code 9 = .ok (.iconst 0, 1) := by decide +kernel
theorem d18_10 : decode method_5_code 10 = .ok (.iload_n 1, 1) := by decide +kernel
theorem d18_11 : decode method_5_code 11 = .ok (.sipush 255, 3) := by decide +kernel
theorem d18_14 : decode method_5_code 14 = .ok (.iand, 1) := by decide +kernel
theorem d18_15 : decode method_5_code 15 = .ok (.i2c, 1) := by decide +kernel
theorem d18_16 : decode method_5_code 16 = .ok (.castore, 1) := by decide +kernel
theorem d18_17 : decode method_5_code 17 = .ok (.iload_n 0, 1) := by decide +kernel
theorem d18_18 : decode method_5_code 18 = .ok (.iconst 1, 1) := by decide +kernel
theorem d18_19 : decode method_5_code 19 = .ok (.if_icmp .le 15, 3) := by decide +kernel
theorem d18_22 : decode method_5_code 22 = .ok (.aload_n 2, 1) := by decide +kernel
theorem d18_23 : decode method_5_code 23 = .ok (.iconst 1, 1) := by decide +kernel
theorem d18_24 : decode method_5_code 24 = .ok (.iload_n 1, 1) := by decide +kernel
theorem d18_25 : decode method_5_code 25 = .ok (.bipush 8, 2) := by decide +kernel
theorem d18_27 : decode method_5_code 27 = .ok (.iushr, 1) := by decide +kernel
theorem d18_28 : decode method_5_code 28 = .ok (.sipush 255, 3) := by decide +kernel
theorem d18_31 : decode method_5_code 31 = .ok (.iand, 1) := by decide +kernel
theorem d18_32 : decode method_5_code 32 = .ok (.i2c, 1) := by decide +kernel
theorem d18_33 : decode method_5_code 33 = .ok (.castore, 1) := by decide +kernel
theorem d18_34 : decode method_5_code 34 = .ok (.iload_n 0, 1) := by decide +kernel
theorem d18_35 : decode method_5_code 35 = .ok (.iconst 2, 1) := by decide +kernel
theorem d18_36 : decode method_5_code 36 = .ok (.if_icmp .le 15, 3) := by decide +kernel
theorem d18_39 : decode method_5_code 39 = .ok (.aload_n 2, 1) := by decide +kernel
theorem d18_40 : decode method_5_code 40 = .ok (.iconst 2, 1) := by decide +kernel
theorem d18_41 : decode method_5_code 41 = .ok (.iload_n 1, 1) := by decide +kernel
theorem d18_42 : decode method_5_code 42 = .ok (.bipush 16, 2) := by decide +kernel
theorem d18_44 : decode method_5_code 44 = .ok (.iushr, 1) := by decide +kernel
theorem d18_45 : decode method_5_code 45 = .ok (.sipush 255, 3) := by decide +kernel
theorem d18_48 : decode method_5_code 48 = .ok (.iand, 1) := by decide +kernel
theorem d18_49 : decode method_5_code 49 = .ok (.i2c, 1) := by decide +kernel
theorem d18_50 : decode method_5_code 50 = .ok (.castore, 1) := by decide +kernel
theorem d18_51 : decode method_5_code 51 = .ok (.iload_n 0, 1) := by decide +kernel
theorem d18_52 : decode method_5_code 52 = .ok (.iconst 3, 1) := by decide +kernel
theorem d18_53 : decode method_5_code 53 = .ok (.if_icmp .le 15, 3) := by decide +kernel
theorem d18_56 : decode method_5_code 56 = .ok (.aload_n 2, 1) := by decide +kernel
theorem d18_57 : decode method_5_code 57 = .ok (.iconst 3, 1) := by decide +kernel
theorem d18_58 : decode method_5_code 58 = .ok (.iload_n 1, 1) := by decide +kernel
theorem d18_59 : decode method_5_code 59 = .ok (.bipush 24, 2) := by decide +kernel
theorem d18_61 : decode method_5_code 61 = .ok (.iushr, 1) := by decide +kernel
theorem d18_62 : decode method_5_code 62 = .ok (.sipush 255, 3) := by decide +kernel
theorem d18_65 : decode method_5_code 65 = .ok (.iand, 1) := by decide +kernel
theorem d18_66 : decode method_5_code 66 = .ok (.i2c, 1) := by decide +kernel
theorem d18_67 : decode method_5_code 67 = .ok (.castore, 1) := by decide +kernel
theorem d18_68 : decode method_5_code 68 = .ok (.aload_n 2, 1) := by decide +kernel
theorem d18_69 : decode method_5_code 69 = .ok (.areturn, 1) := by decide +kernel
theorem ef_18_0 (m : MethodId) (nn : Int32) (cc : Int32) : entryFrame m #[(.int nn), (.int cc)] 3 = mkF m 0 #[iv nn, iv cc, .unset] [] := by first | (simp [entryFrame, mkF, argsToLocals, Value.category]; done) | rfl
def Q18_0 (Z : State) (nn : Int32) (cc : Int32) (h0 : Heap) (n0 : Nat) (v : Option Value) (h : Heap) (L : List Loc) : Prop := ∃ a k, v = some (.ref a) ∧ Fr n0 L ∧ Keep h0 h [] ∧ n0 ≤ a ∧ h0.size ≤ a ∧ Arv Z h a k .char (0 : Int32) [] (.int (0 : Int32))
set_option maxRecDepth 65536 in
set_option maxHeartbeats 40000000 in
theorem rm18_0 (l : Launch) (Z : State) (a0 : Array Value) (hw : ∀ d ∈ tables_1, d.before a0 Z = true) (ws : List Jvm.Cond) (nn : Int32) (cc : Int32) (h0 : Heap) (n0 : Nat) (Z0 : n0 ≤ h0.size) (hk_ : nn = (0 : Int32)) :
    MetFree l (⟨"com/example/fault/fault/EnvelopeNamedPinLaw", "drawn", "(II)[C"⟩ : MethodName) (head1 (Jvm.Cond.code (⟨"com/example/fault/fault/EnvelopeNamedPinLaw", "drawn", "(II)[C"⟩ : MethodName) method_5_code 3 (some (.array .char)) :: ws) ({ frames := 0, cells := 1, slots := 0, locals := 0 } : Room)) (fun a U => a = #[(.int nn), (.int cc)] ∧ Z.Warmed39 U.vm ∧ U.heap = h0) (fun _ _ _ _ _ => True) (fun _ U o U' => ∃ v L, o = .returned v ∧ Q18_0 Z nn cc h0 n0 v U'.heap L ∧ FrameEnd U o U' L ({ frames := 0, cells := 1, slots := 0, locals := 0 } : Room).cells ({ frames := 0, cells := 1, slots := 0, locals := 0 } : Room).slots) := by
  refine MetFree.of_bodySF (plainFor_of_name pn_0) hisR ?_
  intro p e s m args below meth c s₁ Bd hml0 hP hK
  obtain ⟨rfl, hZ, hh⟩ := hP
  have hx := Bd.exec
  have hby := Bd.bytes
  have hml : c.maxLocals = 3 := hml0
  have hown : s.vm.findClass "com/example/fault/fault/EnvelopeNamedPinLaw" = some m.cls := findClass_of_methodNamed Bd.named
  have hnm := (name_of_methodNamed Bd.named Bd.method).1
  have hlk : meth.locks = false := Bd.notSynchronized
  have hrt := Bd.returns
  have X0 : Stand p l e ({ frames := 0, cells := 1, slots := 0, locals := 0 } : Room) s m #[(.int nn), (.int cc)] below meth c s₁ [] 0 0 := Stand.of_body Bd
  have e0 : s₁.heap = h0 := by rw [← hh, Bd.state]; rfl
  have N0 := Fr.nil n0
  show own_Endz p.tables e below (own_EndQ s ({ frames := 0, cells := 1, slots := 0, locals := 0 } : Room).cells ({ frames := 0, cells := 1, slots := 0, locals := 0 } : Room).slots (Q18_0 Z nn cc h0 n0)) (s₁.setTop (entryFrame m #[(.int nn), (.int cc)] 3))
  refine own_cast (ef_18_0 m nn cc) ?_
  subst hk_
  show own_Endz p.tables e below (own_EndQ s ({ frames := 0, cells := 1, slots := 0, locals := 0 } : Room).cells ({ frames := 0, cells := 1, slots := 0, locals := 0 } : Room).slots (Q18_0 Z ((0 : Int32)) cc h0 n0)) (s₁.setTop (mkF m 0 #[iv 0, iv cc, .unset] []))
  refine own_go (b := s₁.setTop (mkF m 1 #[iv 0, iv cc, .unset] [(.int 0)])) (fun t k => XS.iloadN X0.here hx rfl (hb hby d18_0) rfl  k) ?_
  obtain ⟨T1, h1, k1, X1, e1, E1, A1, st1⟩ := newP X0 hx hZ (hw _ (List.mem_of_getElem? (i := 8) rfl)) e0 (g := (mkF m 1 #[iv 0, iv cc, .unset] [(.int 0)])) rfl (hb hby d18_1) rfl (by decide) (cap := 0) (by decide) (by decide) (by decide) (by decide)
  obtain ⟨b1, g1⟩ : ∃ z, z = h0.size := ⟨_, rfl⟩
  rw [← g1] at A1 st1
  have g_b1 : n0 ≤ b1 := Nat.le_trans Z0 (Nat.le_of_eq g1.symm)
  have sz_b1 : h0.size ≤ b1 := Nat.le_trans (Keep.refl h0 []).1 (Nat.le_of_eq g1.symm)
  have Zs1 : n0 ≤ h1.size := Nat.le_trans Z0 E1.1
  have Kp1 : Keep h0 h1 [] := (Keep.refl h0 []).ext E1
  have V_b1 : Arv Z h1 b1 k1 .char (0 : Int32) [] (.int (0 : Int32)) := (Arv.new A1 (by decide)).pad (pad_rep [] (.int (0 : Int32)) 0)
  refine own_go (b := T1.setTop (mkF m 3 #[iv 0, iv cc, .unset] [(.ref b1)])) st1 ?_
  refine own_go (b := T1.setTop (mkF m 4 #[iv 0, iv cc, rv b1] [])) (fun t k => XS.astoreN X1.here hx rfl (hb hby d18_3) rfl rfl (l' := #[iv 0, iv cc, rv b1]) rfl k) ?_
  refine own_go (b := T1.setTop (mkF m 5 #[iv 0, iv cc, rv b1] [(.int 0)])) (fun t k => XS.iloadN X1.here hx rfl (hb hby d18_4) rfl  k) ?_
  refine own_go (b := T1.setTop (mkF m 17 #[iv 0, iv cc, rv b1] [])) (fun t k => XS.ifYes X1.here hx rfl (pc0 := 5) (pc' := 17) rfl (hb hby d18_5) rfl ((if0 _ _).trans (flt (by decide : ¬ ((0 : Int32) < (0 : Int32)))).2.2.2) (by decide) (by decide) k) ?_
  refine own_go (b := T1.setTop (mkF m 18 #[iv 0, iv cc, rv b1] [(.int 0)])) (fun t k => XS.iloadN X1.here hx rfl (hb hby d18_17) rfl  k) ?_
  refine own_go (b := T1.setTop (mkF m 19 #[iv 0, iv cc, rv b1] [(.int 1), (.int 0)])) (fun t k => XS.iconst X1.here hx rfl (hb hby d18_18) k) ?_
  refine own_go (b := T1.setTop (mkF m 34 #[iv 0, iv cc, rv b1] [])) (fun t k => XS.icmpYes X1.here hx rfl (pc0 := 19) (pc' := 34) rfl (hb hby d18_19) rfl (flt (by decide : ¬ ((1 : Int32) < (0 : Int32)))).2.2.2 (by decide) (by decide) k) ?_
  refine own_go (b := T1.setTop (mkF m 35 #[iv 0, iv cc, rv b1] [(.int 0)])) (fun t k => XS.iloadN X1.here hx rfl (hb hby d18_34) rfl  k) ?_
  refine own_go (b := T1.setTop (mkF m 36 #[iv 0, iv cc, rv b1] [(.int 2), (.int 0)])) (fun t k => XS.iconst X1.here hx rfl (hb hby d18_35) k) ?_
  refine own_go (b := T1.setTop (mkF m 51 #[iv 0, iv cc, rv b1] [])) (fun t k => XS.icmpYes X1.here hx rfl (pc0 := 36) (pc' := 51) rfl (hb hby d18_36) rfl (flt (by decide : ¬ ((2 : Int32) < (0 : Int32)))).2.2.2 (by decide) (by decide) k) ?_
  refine own_go (b := T1.setTop (mkF m 52 #[iv 0, iv cc, rv b1] [(.int 0)])) (fun t k => XS.iloadN X1.here hx rfl (hb hby d18_51) rfl  k) ?_
  refine own_go (b := T1.setTop (mkF m 53 #[iv 0, iv cc, rv b1] [(.int 3), (.int 0)])) (fun t k => XS.iconst X1.here hx rfl (hb hby d18_52) k) ?_
  refine own_go (b := T1.setTop (mkF m 68 #[iv 0, iv cc, rv b1] [])) (fun t k => XS.icmpYes X1.here hx rfl (pc0 := 53) (pc' := 68) rfl (hb hby d18_53) rfl (flt (by decide : ¬ ((3 : Int32) < (0 : Int32)))).2.2.2 (by decide) (by decide) k) ?_
  refine own_go (b := T1.setTop (mkF m 69 #[iv 0, iv cc, rv b1] [(.ref b1)])) (fun t k => XS.aloadN X1.here hx rfl (hb hby d18_68) rfl rfl k) ?_
  exact own_retA X1 hx hlk hrt rfl rfl (hb hby d18_69) (Nat.le_of_ble_eq_true rfl) (Nat.le_of_ble_eq_true rfl) (⟨_, _, rfl, N0, by rw [e1]; exact Kp1, g_b1, sz_b1, by rw [e1]; exact V_b1⟩)
theorem ef_18_1 (m : MethodId) (nn : Int32) (cc : Int32) : entryFrame m #[(.int nn), (.int cc)] 3 = mkF m 0 #[iv nn, iv cc, .unset] [] := by first | (simp [entryFrame, mkF, argsToLocals, Value.category]; done) | rfl
def Q18_1 (Z : State) (nn : Int32) (cc : Int32) (h0 : Heap) (n0 : Nat) (v : Option Value) (h : Heap) (L : List Loc) : Prop := ∃ a k, v = some (.ref a) ∧ Fr n0 L ∧ Keep h0 h [] ∧ n0 ≤ a ∧ h0.size ≤ a ∧ Arv Z h a k .char (1 : Int32) [.int (nar .char ((cc &&& (255 : Int32)).toUInt32.toUInt16.toUInt32.toInt32))] (.int (0 : Int32))
set_option maxRecDepth 65536 in
set_option maxHeartbeats 40000000 in
theorem rm18_1 (l : Launch) (Z : State) (a0 : Array Value) (hw : ∀ d ∈ tables_1, d.before a0 Z = true) (ws : List Jvm.Cond) (nn : Int32) (cc : Int32) (h0 : Heap) (n0 : Nat) (Z0 : n0 ≤ h0.size) (hk_ : nn = (1 : Int32)) :
    MetFree l (⟨"com/example/fault/fault/EnvelopeNamedPinLaw", "drawn", "(II)[C"⟩ : MethodName) (head1 (Jvm.Cond.code (⟨"com/example/fault/fault/EnvelopeNamedPinLaw", "drawn", "(II)[C"⟩ : MethodName) method_5_code 3 (some (.array .char)) :: ws) ({ frames := 0, cells := 1, slots := 1, locals := 0 } : Room)) (fun a U => a = #[(.int nn), (.int cc)] ∧ Z.Warmed39 U.vm ∧ U.heap = h0) (fun _ _ _ _ _ => True) (fun _ U o U' => ∃ v L, o = .returned v ∧ Q18_1 Z nn cc h0 n0 v U'.heap L ∧ FrameEnd U o U' L ({ frames := 0, cells := 1, slots := 1, locals := 0 } : Room).cells ({ frames := 0, cells := 1, slots := 1, locals := 0 } : Room).slots) := by
  refine MetFree.of_bodySF (plainFor_of_name pn_0) hisR ?_
  intro p e s m args below meth c s₁ Bd hml0 hP hK
  obtain ⟨rfl, hZ, hh⟩ := hP
  have hx := Bd.exec
  have hby := Bd.bytes
  have hml : c.maxLocals = 3 := hml0
  have hown : s.vm.findClass "com/example/fault/fault/EnvelopeNamedPinLaw" = some m.cls := findClass_of_methodNamed Bd.named
  have hnm := (name_of_methodNamed Bd.named Bd.method).1
  have hlk : meth.locks = false := Bd.notSynchronized
  have hrt := Bd.returns
  have X0 : Stand p l e ({ frames := 0, cells := 1, slots := 1, locals := 0 } : Room) s m #[(.int nn), (.int cc)] below meth c s₁ [] 0 0 := Stand.of_body Bd
  have e0 : s₁.heap = h0 := by rw [← hh, Bd.state]; rfl
  have N0 := Fr.nil n0
  show own_Endz p.tables e below (own_EndQ s ({ frames := 0, cells := 1, slots := 1, locals := 0 } : Room).cells ({ frames := 0, cells := 1, slots := 1, locals := 0 } : Room).slots (Q18_1 Z nn cc h0 n0)) (s₁.setTop (entryFrame m #[(.int nn), (.int cc)] 3))
  refine own_cast (ef_18_1 m nn cc) ?_
  subst hk_
  show own_Endz p.tables e below (own_EndQ s ({ frames := 0, cells := 1, slots := 1, locals := 0 } : Room).cells ({ frames := 0, cells := 1, slots := 1, locals := 0 } : Room).slots (Q18_1 Z ((1 : Int32)) cc h0 n0)) (s₁.setTop (mkF m 0 #[iv 1, iv cc, .unset] []))
  refine own_go (b := s₁.setTop (mkF m 1 #[iv 1, iv cc, .unset] [(.int 1)])) (fun t k => XS.iloadN X0.here hx rfl (hb hby d18_0) rfl  k) ?_
  obtain ⟨T1, h1, k1, X1, e1, E1, A1, st1⟩ := newP X0 hx hZ (hw _ (List.mem_of_getElem? (i := 8) rfl)) e0 (g := (mkF m 1 #[iv 1, iv cc, .unset] [(.int 1)])) rfl (hb hby d18_1) rfl (by decide) (cap := 1) (by decide) (by decide) (by decide) (by decide)
  obtain ⟨b1, g1⟩ : ∃ z, z = h0.size := ⟨_, rfl⟩
  rw [← g1] at A1 st1
  have g_b1 : n0 ≤ b1 := Nat.le_trans Z0 (Nat.le_of_eq g1.symm)
  have sz_b1 : h0.size ≤ b1 := Nat.le_trans (Keep.refl h0 []).1 (Nat.le_of_eq g1.symm)
  have Zs1 : n0 ≤ h1.size := Nat.le_trans Z0 E1.1
  have Kp1 : Keep h0 h1 [] := (Keep.refl h0 []).ext E1
  have V_b1 : Arv Z h1 b1 k1 .char (1 : Int32) [(.int (0 : Int32))] (.int (0 : Int32)) := (Arv.new A1 (by decide)).pad (pad_rep [] (.int (0 : Int32)) 1)
  refine own_go (b := T1.setTop (mkF m 3 #[iv 1, iv cc, .unset] [(.ref b1)])) st1 ?_
  refine own_go (b := T1.setTop (mkF m 4 #[iv 1, iv cc, rv b1] [])) (fun t k => XS.astoreN X1.here hx rfl (hb hby d18_3) rfl rfl (l' := #[iv 1, iv cc, rv b1]) rfl k) ?_
  refine own_go (b := T1.setTop (mkF m 5 #[iv 1, iv cc, rv b1] [(.int 1)])) (fun t k => XS.iloadN X1.here hx rfl (hb hby d18_4) rfl  k) ?_
  refine own_go (b := T1.setTop (mkF m 8 #[iv 1, iv cc, rv b1] [])) (fun t k => XS.ifNo X1.here hx rfl (hb hby d18_5) rfl ((if0 _ _).trans (tlt (by decide : (0 : Int32) < (1 : Int32))).2.2.2) k) ?_
  refine own_go (b := T1.setTop (mkF m 9 #[iv 1, iv cc, rv b1] [(.ref b1)])) (fun t k => XS.aloadN X1.here hx rfl (hb hby d18_8) rfl rfl k) ?_
  refine own_go (b := T1.setTop (mkF m 10 #[iv 1, iv cc, rv b1] [(.int 0), (.ref b1)])) (fun t k => XS.iconst X1.here hx rfl (hb hby d18_9) k) ?_
  refine own_go (b := T1.setTop (mkF m 11 #[iv 1, iv cc, rv b1] [(.int cc), (.int 0), (.ref b1)])) (fun t k => XS.iloadN X1.here hx rfl (hb hby d18_10) rfl  k) ?_
  refine own_go (b := T1.setTop (mkF m 14 #[iv 1, iv cc, rv b1] [(.int 255), (.int cc), (.int 0), (.ref b1)])) (fun t k => XS.sipush X1.here hx rfl (hb hby d18_11) k) ?_
  refine own_go (b := T1.setTop (mkF m 15 #[iv 1, iv cc, rv b1] [(.int (cc &&& (255 : Int32))), (.int 0), (.ref b1)])) (fun t k => XS.iand X1.here hx rfl (hb hby d18_14) rfl k) ?_
  refine own_go (b := T1.setTop (mkF m 16 #[iv 1, iv cc, rv b1] [(.int ((cc &&& (255 : Int32)).toUInt32.toUInt16.toUInt32.toInt32)), (.int 0), (.ref b1)])) (fun t k => XS.i2c X1.here hx rfl (hb hby d18_15) rfl k) ?_
  obtain ⟨cl2, Ar2, qc2, Sz2, Ng2, Hs2, Ft2⟩ := id V_b1
  have hin2 : ¬ ((0 : Int32) < 0 ∨ cl2.slots.size ≤ ((0 : Int32)).toNatClampNeg) := inb_of Sz2 ⟨by decide, by decide⟩
  obtain ⟨T3, h3, X3, e3, W3, st3⟩ := stC X1 hx hZ e1 Ar2 (j := (0 : Int32)) hin2 (g := (mkF m 16 #[iv 1, iv cc, rv b1] [(.int ((cc &&& (255 : Int32)).toUInt32.toUInt16.toUInt32.toInt32)), (.int 0), (.ref b1)])) rfl rfl (hb hby d18_16)
  have V_b1_3 : Arv Z h3 b1 k1 .char (1 : Int32) [(.int (nar .char ((cc &&& (255 : Int32)).toUInt32.toUInt16.toUInt32.toInt32)))] (.int (0 : Int32)) := Arv.set Ar2 qc2 Sz2 Ng2 Hs2 Ft2 (fits_nar_char _) W3 0 rfl (Nat.le_of_ble_eq_true rfl)
  have Zs3 : n0 ≤ h3.size := Nat.le_trans Zs1 (Keep.of_wr W3).1
  have N3 := Fr.snoc X3 N0 g_b1
  have Kp3 : Keep h0 h3 [] := Kp1.wr W3 (Or.inr sz_b1)
  refine own_go (b := T3.setTop (mkF m 17 #[iv 1, iv cc, rv b1] [])) st3 ?_
  refine own_go (b := T3.setTop (mkF m 18 #[iv 1, iv cc, rv b1] [(.int 1)])) (fun t k => XS.iloadN X3.here hx rfl (hb hby d18_17) rfl  k) ?_
  refine own_go (b := T3.setTop (mkF m 19 #[iv 1, iv cc, rv b1] [(.int 1), (.int 1)])) (fun t k => XS.iconst X3.here hx rfl (hb hby d18_18) k) ?_
  refine own_go (b := T3.setTop (mkF m 34 #[iv 1, iv cc, rv b1] [])) (fun t k => XS.icmpYes X3.here hx rfl (pc0 := 19) (pc' := 34) rfl (hb hby d18_19) rfl (flt (by decide : ¬ ((1 : Int32) < (1 : Int32)))).2.2.2 (by decide) (by decide) k) ?_
  refine own_go (b := T3.setTop (mkF m 35 #[iv 1, iv cc, rv b1] [(.int 1)])) (fun t k => XS.iloadN X3.here hx rfl (hb hby d18_34) rfl  k) ?_
  refine own_go (b := T3.setTop (mkF m 36 #[iv 1, iv cc, rv b1] [(.int 2), (.int 1)])) (fun t k => XS.iconst X3.here hx rfl (hb hby d18_35) k) ?_
  refine own_go (b := T3.setTop (mkF m 51 #[iv 1, iv cc, rv b1] [])) (fun t k => XS.icmpYes X3.here hx rfl (pc0 := 36) (pc' := 51) rfl (hb hby d18_36) rfl (flt (by decide : ¬ ((2 : Int32) < (1 : Int32)))).2.2.2 (by decide) (by decide) k) ?_
  refine own_go (b := T3.setTop (mkF m 52 #[iv 1, iv cc, rv b1] [(.int 1)])) (fun t k => XS.iloadN X3.here hx rfl (hb hby d18_51) rfl  k) ?_
  refine own_go (b := T3.setTop (mkF m 53 #[iv 1, iv cc, rv b1] [(.int 3), (.int 1)])) (fun t k => XS.iconst X3.here hx rfl (hb hby d18_52) k) ?_
  refine own_go (b := T3.setTop (mkF m 68 #[iv 1, iv cc, rv b1] [])) (fun t k => XS.icmpYes X3.here hx rfl (pc0 := 53) (pc' := 68) rfl (hb hby d18_53) rfl (flt (by decide : ¬ ((3 : Int32) < (1 : Int32)))).2.2.2 (by decide) (by decide) k) ?_
  refine own_go (b := T3.setTop (mkF m 69 #[iv 1, iv cc, rv b1] [(.ref b1)])) (fun t k => XS.aloadN X3.here hx rfl (hb hby d18_68) rfl rfl k) ?_
  exact own_retA X3 hx hlk hrt rfl rfl (hb hby d18_69) (Nat.le_of_ble_eq_true rfl) (Nat.le_of_ble_eq_true rfl) (⟨_, _, rfl, N3, by rw [e3]; exact Kp3, g_b1, sz_b1, by rw [e3]; exact V_b1_3⟩)
theorem ef_18_2 (m : MethodId) (nn : Int32) (cc : Int32) : entryFrame m #[(.int nn), (.int cc)] 3 = mkF m 0 #[iv nn, iv cc, .unset] [] := by first | (simp [entryFrame, mkF, argsToLocals, Value.category]; done) | rfl
def Q18_2 (Z : State) (nn : Int32) (cc : Int32) (h0 : Heap) (n0 : Nat) (v : Option Value) (h : Heap) (L : List Loc) : Prop := ∃ a k, v = some (.ref a) ∧ Fr n0 L ∧ Keep h0 h [] ∧ n0 ≤ a ∧ h0.size ≤ a ∧ Arv Z h a k .char (2 : Int32) [.int (nar .char ((cc &&& (255 : Int32)).toUInt32.toUInt16.toUInt32.toInt32)), .int (nar .char ((((cc.toUInt32 >>> ((8 : Int32) &&& 31).toUInt32).toInt32) &&& (255 : Int32)).toUInt32.toUInt16.toUInt32.toInt32))] (.int (0 : Int32))
set_option maxRecDepth 65536 in
set_option maxHeartbeats 40000000 in
theorem rm18_2 (l : Launch) (Z : State) (a0 : Array Value) (hw : ∀ d ∈ tables_1, d.before a0 Z = true) (ws : List Jvm.Cond) (nn : Int32) (cc : Int32) (h0 : Heap) (n0 : Nat) (Z0 : n0 ≤ h0.size) (hk_ : nn = (2 : Int32)) :
    MetFree l (⟨"com/example/fault/fault/EnvelopeNamedPinLaw", "drawn", "(II)[C"⟩ : MethodName) (head1 (Jvm.Cond.code (⟨"com/example/fault/fault/EnvelopeNamedPinLaw", "drawn", "(II)[C"⟩ : MethodName) method_5_code 3 (some (.array .char)) :: ws) ({ frames := 0, cells := 1, slots := 2, locals := 0 } : Room)) (fun a U => a = #[(.int nn), (.int cc)] ∧ Z.Warmed39 U.vm ∧ U.heap = h0) (fun _ _ _ _ _ => True) (fun _ U o U' => ∃ v L, o = .returned v ∧ Q18_2 Z nn cc h0 n0 v U'.heap L ∧ FrameEnd U o U' L ({ frames := 0, cells := 1, slots := 2, locals := 0 } : Room).cells ({ frames := 0, cells := 1, slots := 2, locals := 0 } : Room).slots) := by
  refine MetFree.of_bodySF (plainFor_of_name pn_0) hisR ?_
  intro p e s m args below meth c s₁ Bd hml0 hP hK
  obtain ⟨rfl, hZ, hh⟩ := hP
  have hx := Bd.exec
  have hby := Bd.bytes
  have hml : c.maxLocals = 3 := hml0
  have hown : s.vm.findClass "com/example/fault/fault/EnvelopeNamedPinLaw" = some m.cls := findClass_of_methodNamed Bd.named
  have hnm := (name_of_methodNamed Bd.named Bd.method).1
  have hlk : meth.locks = false := Bd.notSynchronized
  have hrt := Bd.returns
  have X0 : Stand p l e ({ frames := 0, cells := 1, slots := 2, locals := 0 } : Room) s m #[(.int nn), (.int cc)] below meth c s₁ [] 0 0 := Stand.of_body Bd
  have e0 : s₁.heap = h0 := by rw [← hh, Bd.state]; rfl
  have N0 := Fr.nil n0
  show own_Endz p.tables e below (own_EndQ s ({ frames := 0, cells := 1, slots := 2, locals := 0 } : Room).cells ({ frames := 0, cells := 1, slots := 2, locals := 0 } : Room).slots (Q18_2 Z nn cc h0 n0)) (s₁.setTop (entryFrame m #[(.int nn), (.int cc)] 3))
  refine own_cast (ef_18_2 m nn cc) ?_
  subst hk_
  show own_Endz p.tables e below (own_EndQ s ({ frames := 0, cells := 1, slots := 2, locals := 0 } : Room).cells ({ frames := 0, cells := 1, slots := 2, locals := 0 } : Room).slots (Q18_2 Z ((2 : Int32)) cc h0 n0)) (s₁.setTop (mkF m 0 #[iv 2, iv cc, .unset] []))
  refine own_go (b := s₁.setTop (mkF m 1 #[iv 2, iv cc, .unset] [(.int 2)])) (fun t k => XS.iloadN X0.here hx rfl (hb hby d18_0) rfl  k) ?_
  obtain ⟨T1, h1, k1, X1, e1, E1, A1, st1⟩ := newP X0 hx hZ (hw _ (List.mem_of_getElem? (i := 8) rfl)) e0 (g := (mkF m 1 #[iv 2, iv cc, .unset] [(.int 2)])) rfl (hb hby d18_1) rfl (by decide) (cap := 2) (by decide) (by decide) (by decide) (by decide)
  obtain ⟨b1, g1⟩ : ∃ z, z = h0.size := ⟨_, rfl⟩
  rw [← g1] at A1 st1
  have g_b1 : n0 ≤ b1 := Nat.le_trans Z0 (Nat.le_of_eq g1.symm)
  have sz_b1 : h0.size ≤ b1 := Nat.le_trans (Keep.refl h0 []).1 (Nat.le_of_eq g1.symm)
  have Zs1 : n0 ≤ h1.size := Nat.le_trans Z0 E1.1
  have Kp1 : Keep h0 h1 [] := (Keep.refl h0 []).ext E1
  have V_b1 : Arv Z h1 b1 k1 .char (2 : Int32) [(.int (0 : Int32)), (.int (0 : Int32))] (.int (0 : Int32)) := (Arv.new A1 (by decide)).pad (pad_rep [] (.int (0 : Int32)) 2)
  refine own_go (b := T1.setTop (mkF m 3 #[iv 2, iv cc, .unset] [(.ref b1)])) st1 ?_
  refine own_go (b := T1.setTop (mkF m 4 #[iv 2, iv cc, rv b1] [])) (fun t k => XS.astoreN X1.here hx rfl (hb hby d18_3) rfl rfl (l' := #[iv 2, iv cc, rv b1]) rfl k) ?_
  refine own_go (b := T1.setTop (mkF m 5 #[iv 2, iv cc, rv b1] [(.int 2)])) (fun t k => XS.iloadN X1.here hx rfl (hb hby d18_4) rfl  k) ?_
  refine own_go (b := T1.setTop (mkF m 8 #[iv 2, iv cc, rv b1] [])) (fun t k => XS.ifNo X1.here hx rfl (hb hby d18_5) rfl ((if0 _ _).trans (tlt (by decide : (0 : Int32) < (2 : Int32))).2.2.2) k) ?_
  refine own_go (b := T1.setTop (mkF m 9 #[iv 2, iv cc, rv b1] [(.ref b1)])) (fun t k => XS.aloadN X1.here hx rfl (hb hby d18_8) rfl rfl k) ?_
  refine own_go (b := T1.setTop (mkF m 10 #[iv 2, iv cc, rv b1] [(.int 0), (.ref b1)])) (fun t k => XS.iconst X1.here hx rfl (hb hby d18_9) k) ?_
  refine own_go (b := T1.setTop (mkF m 11 #[iv 2, iv cc, rv b1] [(.int cc), (.int 0), (.ref b1)])) (fun t k => XS.iloadN X1.here hx rfl (hb hby d18_10) rfl  k) ?_
  refine own_go (b := T1.setTop (mkF m 14 #[iv 2, iv cc, rv b1] [(.int 255), (.int cc), (.int 0), (.ref b1)])) (fun t k => XS.sipush X1.here hx rfl (hb hby d18_11) k) ?_
  refine own_go (b := T1.setTop (mkF m 15 #[iv 2, iv cc, rv b1] [(.int (cc &&& (255 : Int32))), (.int 0), (.ref b1)])) (fun t k => XS.iand X1.here hx rfl (hb hby d18_14) rfl k) ?_
  refine own_go (b := T1.setTop (mkF m 16 #[iv 2, iv cc, rv b1] [(.int ((cc &&& (255 : Int32)).toUInt32.toUInt16.toUInt32.toInt32)), (.int 0), (.ref b1)])) (fun t k => XS.i2c X1.here hx rfl (hb hby d18_15) rfl k) ?_
  obtain ⟨cl2, Ar2, qc2, Sz2, Ng2, Hs2, Ft2⟩ := id V_b1
  have hin2 : ¬ ((0 : Int32) < 0 ∨ cl2.slots.size ≤ ((0 : Int32)).toNatClampNeg) := inb_of Sz2 ⟨by decide, by decide⟩
  obtain ⟨T3, h3, X3, e3, W3, st3⟩ := stC X1 hx hZ e1 Ar2 (j := (0 : Int32)) hin2 (g := (mkF m 16 #[iv 2, iv cc, rv b1] [(.int ((cc &&& (255 : Int32)).toUInt32.toUInt16.toUInt32.toInt32)), (.int 0), (.ref b1)])) rfl rfl (hb hby d18_16)
  have V_b1_3 : Arv Z h3 b1 k1 .char (2 : Int32) [(.int (nar .char ((cc &&& (255 : Int32)).toUInt32.toUInt16.toUInt32.toInt32))), (.int 0)] (.int (0 : Int32)) := Arv.set Ar2 qc2 Sz2 Ng2 Hs2 Ft2 (fits_nar_char _) W3 0 rfl (Nat.le_of_ble_eq_true rfl)
  have Zs3 : n0 ≤ h3.size := Nat.le_trans Zs1 (Keep.of_wr W3).1
  have N3 := Fr.snoc X3 N0 g_b1
  have Kp3 : Keep h0 h3 [] := Kp1.wr W3 (Or.inr sz_b1)
  refine own_go (b := T3.setTop (mkF m 17 #[iv 2, iv cc, rv b1] [])) st3 ?_
  refine own_go (b := T3.setTop (mkF m 18 #[iv 2, iv cc, rv b1] [(.int 2)])) (fun t k => XS.iloadN X3.here hx rfl (hb hby d18_17) rfl  k) ?_
  refine own_go (b := T3.setTop (mkF m 19 #[iv 2, iv cc, rv b1] [(.int 1), (.int 2)])) (fun t k => XS.iconst X3.here hx rfl (hb hby d18_18) k) ?_
  refine own_go (b := T3.setTop (mkF m 22 #[iv 2, iv cc, rv b1] [])) (fun t k => XS.icmpNo X3.here hx rfl (hb hby d18_19) rfl (tlt (by decide : (1 : Int32) < (2 : Int32))).2.2.2 k) ?_
  refine own_go (b := T3.setTop (mkF m 23 #[iv 2, iv cc, rv b1] [(.ref b1)])) (fun t k => XS.aloadN X3.here hx rfl (hb hby d18_22) rfl rfl k) ?_
  refine own_go (b := T3.setTop (mkF m 24 #[iv 2, iv cc, rv b1] [(.int 1), (.ref b1)])) (fun t k => XS.iconst X3.here hx rfl (hb hby d18_23) k) ?_
  refine own_go (b := T3.setTop (mkF m 25 #[iv 2, iv cc, rv b1] [(.int cc), (.int 1), (.ref b1)])) (fun t k => XS.iloadN X3.here hx rfl (hb hby d18_24) rfl  k) ?_
  refine own_go (b := T3.setTop (mkF m 27 #[iv 2, iv cc, rv b1] [(.int 8), (.int cc), (.int 1), (.ref b1)])) (fun t k => XS.bipush X3.here hx rfl (hb hby d18_25) k) ?_
  refine own_go (b := T3.setTop (mkF m 28 #[iv 2, iv cc, rv b1] [(.int ((cc.toUInt32 >>> ((8 : Int32) &&& 31).toUInt32).toInt32)), (.int 1), (.ref b1)])) (fun t k => XS.iushr X3.here hx rfl (hb hby d18_27) rfl k) ?_
  refine own_go (b := T3.setTop (mkF m 31 #[iv 2, iv cc, rv b1] [(.int 255), (.int ((cc.toUInt32 >>> ((8 : Int32) &&& 31).toUInt32).toInt32)), (.int 1), (.ref b1)])) (fun t k => XS.sipush X3.here hx rfl (hb hby d18_28) k) ?_
  refine own_go (b := T3.setTop (mkF m 32 #[iv 2, iv cc, rv b1] [(.int (((cc.toUInt32 >>> ((8 : Int32) &&& 31).toUInt32).toInt32) &&& (255 : Int32))), (.int 1), (.ref b1)])) (fun t k => XS.iand X3.here hx rfl (hb hby d18_31) rfl k) ?_
  refine own_go (b := T3.setTop (mkF m 33 #[iv 2, iv cc, rv b1] [(.int ((((cc.toUInt32 >>> ((8 : Int32) &&& 31).toUInt32).toInt32) &&& (255 : Int32)).toUInt32.toUInt16.toUInt32.toInt32)), (.int 1), (.ref b1)])) (fun t k => XS.i2c X3.here hx rfl (hb hby d18_32) rfl k) ?_
  obtain ⟨cl4, Ar4, qc4, Sz4, Ng4, Hs4, Ft4⟩ := id V_b1_3
  have hin4 : ¬ ((1 : Int32) < 0 ∨ cl4.slots.size ≤ ((1 : Int32)).toNatClampNeg) := inb_of Sz4 ⟨by decide, by decide⟩
  obtain ⟨T5, h5, X5, e5, W5, st5⟩ := stC X3 hx hZ e3 Ar4 (j := (1 : Int32)) hin4 (g := (mkF m 33 #[iv 2, iv cc, rv b1] [(.int ((((cc.toUInt32 >>> ((8 : Int32) &&& 31).toUInt32).toInt32) &&& (255 : Int32)).toUInt32.toUInt16.toUInt32.toInt32)), (.int 1), (.ref b1)])) rfl rfl (hb hby d18_33)
  have V_b1_5 : Arv Z h5 b1 k1 .char (2 : Int32) [(.int (nar .char ((cc &&& (255 : Int32)).toUInt32.toUInt16.toUInt32.toInt32))), (.int (nar .char ((((cc.toUInt32 >>> ((8 : Int32) &&& 31).toUInt32).toInt32) &&& (255 : Int32)).toUInt32.toUInt16.toUInt32.toInt32)))] (.int (0 : Int32)) := Arv.set Ar4 qc4 Sz4 Ng4 Hs4 Ft4 (fits_nar_char _) W5 1 rfl (Nat.le_of_ble_eq_true rfl)
  have Zs5 : n0 ≤ h5.size := Nat.le_trans Zs3 (Keep.of_wr W5).1
  have N5 := Fr.snoc X5 N3 g_b1
  have Kp5 : Keep h0 h5 [] := Kp3.wr W5 (Or.inr sz_b1)
  refine own_go (b := T5.setTop (mkF m 34 #[iv 2, iv cc, rv b1] [])) st5 ?_
  refine own_go (b := T5.setTop (mkF m 35 #[iv 2, iv cc, rv b1] [(.int 2)])) (fun t k => XS.iloadN X5.here hx rfl (hb hby d18_34) rfl  k) ?_
  refine own_go (b := T5.setTop (mkF m 36 #[iv 2, iv cc, rv b1] [(.int 2), (.int 2)])) (fun t k => XS.iconst X5.here hx rfl (hb hby d18_35) k) ?_
  refine own_go (b := T5.setTop (mkF m 51 #[iv 2, iv cc, rv b1] [])) (fun t k => XS.icmpYes X5.here hx rfl (pc0 := 36) (pc' := 51) rfl (hb hby d18_36) rfl (flt (by decide : ¬ ((2 : Int32) < (2 : Int32)))).2.2.2 (by decide) (by decide) k) ?_
  refine own_go (b := T5.setTop (mkF m 52 #[iv 2, iv cc, rv b1] [(.int 2)])) (fun t k => XS.iloadN X5.here hx rfl (hb hby d18_51) rfl  k) ?_
  refine own_go (b := T5.setTop (mkF m 53 #[iv 2, iv cc, rv b1] [(.int 3), (.int 2)])) (fun t k => XS.iconst X5.here hx rfl (hb hby d18_52) k) ?_
  refine own_go (b := T5.setTop (mkF m 68 #[iv 2, iv cc, rv b1] [])) (fun t k => XS.icmpYes X5.here hx rfl (pc0 := 53) (pc' := 68) rfl (hb hby d18_53) rfl (flt (by decide : ¬ ((3 : Int32) < (2 : Int32)))).2.2.2 (by decide) (by decide) k) ?_
  refine own_go (b := T5.setTop (mkF m 69 #[iv 2, iv cc, rv b1] [(.ref b1)])) (fun t k => XS.aloadN X5.here hx rfl (hb hby d18_68) rfl rfl k) ?_
  exact own_retA X5 hx hlk hrt rfl rfl (hb hby d18_69) (Nat.le_of_ble_eq_true rfl) (Nat.le_of_ble_eq_true rfl) (⟨_, _, rfl, N5, by rw [e5]; exact Kp5, g_b1, sz_b1, by rw [e5]; exact V_b1_5⟩)
theorem ef_18_3 (m : MethodId) (nn : Int32) (cc : Int32) : entryFrame m #[(.int nn), (.int cc)] 3 = mkF m 0 #[iv nn, iv cc, .unset] [] := by first | (simp [entryFrame, mkF, argsToLocals, Value.category]; done) | rfl
def Q18_3 (Z : State) (nn : Int32) (cc : Int32) (h0 : Heap) (n0 : Nat) (v : Option Value) (h : Heap) (L : List Loc) : Prop := ∃ a k, v = some (.ref a) ∧ Fr n0 L ∧ Keep h0 h [] ∧ n0 ≤ a ∧ h0.size ≤ a ∧ Arv Z h a k .char (3 : Int32) [.int (nar .char ((cc &&& (255 : Int32)).toUInt32.toUInt16.toUInt32.toInt32)), .int (nar .char ((((cc.toUInt32 >>> ((8 : Int32) &&& 31).toUInt32).toInt32) &&& (255 : Int32)).toUInt32.toUInt16.toUInt32.toInt32)), .int (nar .char ((((cc.toUInt32 >>> ((16 : Int32) &&& 31).toUInt32).toInt32) &&& (255 : Int32)).toUInt32.toUInt16.toUInt32.toInt32))] (.int (0 : Int32))
set_option maxRecDepth 65536 in
set_option maxHeartbeats 40000000 in
theorem rm18_3 (l : Launch) (Z : State) (a0 : Array Value) (hw : ∀ d ∈ tables_1, d.before a0 Z = true) (ws : List Jvm.Cond) (nn : Int32) (cc : Int32) (h0 : Heap) (n0 : Nat) (Z0 : n0 ≤ h0.size) (hk_ : nn = (3 : Int32)) :
    MetFree l (⟨"com/example/fault/fault/EnvelopeNamedPinLaw", "drawn", "(II)[C"⟩ : MethodName) (head1 (Jvm.Cond.code (⟨"com/example/fault/fault/EnvelopeNamedPinLaw", "drawn", "(II)[C"⟩ : MethodName) method_5_code 3 (some (.array .char)) :: ws) ({ frames := 0, cells := 1, slots := 3, locals := 0 } : Room)) (fun a U => a = #[(.int nn), (.int cc)] ∧ Z.Warmed39 U.vm ∧ U.heap = h0) (fun _ _ _ _ _ => True) (fun _ U o U' => ∃ v L, o = .returned v ∧ Q18_3 Z nn cc h0 n0 v U'.heap L ∧ FrameEnd U o U' L ({ frames := 0, cells := 1, slots := 3, locals := 0 } : Room).cells ({ frames := 0, cells := 1, slots := 3, locals := 0 } : Room).slots) := by
  refine MetFree.of_bodySF (plainFor_of_name pn_0) hisR ?_
  intro p e s m args below meth c s₁ Bd hml0 hP hK
  obtain ⟨rfl, hZ, hh⟩ := hP
  have hx := Bd.exec
  have hby := Bd.bytes
  have hml : c.maxLocals = 3 := hml0
  have hown : s.vm.findClass "com/example/fault/fault/EnvelopeNamedPinLaw" = some m.cls := findClass_of_methodNamed Bd.named
  have hnm := (name_of_methodNamed Bd.named Bd.method).1
  have hlk : meth.locks = false := Bd.notSynchronized
  have hrt := Bd.returns
  have X0 : Stand p l e ({ frames := 0, cells := 1, slots := 3, locals := 0 } : Room) s m #[(.int nn), (.int cc)] below meth c s₁ [] 0 0 := Stand.of_body Bd
  have e0 : s₁.heap = h0 := by rw [← hh, Bd.state]; rfl
  have N0 := Fr.nil n0
  show own_Endz p.tables e below (own_EndQ s ({ frames := 0, cells := 1, slots := 3, locals := 0 } : Room).cells ({ frames := 0, cells := 1, slots := 3, locals := 0 } : Room).slots (Q18_3 Z nn cc h0 n0)) (s₁.setTop (entryFrame m #[(.int nn), (.int cc)] 3))
  refine own_cast (ef_18_3 m nn cc) ?_
  subst hk_
  show own_Endz p.tables e below (own_EndQ s ({ frames := 0, cells := 1, slots := 3, locals := 0 } : Room).cells ({ frames := 0, cells := 1, slots := 3, locals := 0 } : Room).slots (Q18_3 Z ((3 : Int32)) cc h0 n0)) (s₁.setTop (mkF m 0 #[iv 3, iv cc, .unset] []))
  refine own_go (b := s₁.setTop (mkF m 1 #[iv 3, iv cc, .unset] [(.int 3)])) (fun t k => XS.iloadN X0.here hx rfl (hb hby d18_0) rfl  k) ?_
  obtain ⟨T1, h1, k1, X1, e1, E1, A1, st1⟩ := newP X0 hx hZ (hw _ (List.mem_of_getElem? (i := 8) rfl)) e0 (g := (mkF m 1 #[iv 3, iv cc, .unset] [(.int 3)])) rfl (hb hby d18_1) rfl (by decide) (cap := 3) (by decide) (by decide) (by decide) (by decide)
  obtain ⟨b1, g1⟩ : ∃ z, z = h0.size := ⟨_, rfl⟩
  rw [← g1] at A1 st1
  have g_b1 : n0 ≤ b1 := Nat.le_trans Z0 (Nat.le_of_eq g1.symm)
  have sz_b1 : h0.size ≤ b1 := Nat.le_trans (Keep.refl h0 []).1 (Nat.le_of_eq g1.symm)
  have Zs1 : n0 ≤ h1.size := Nat.le_trans Z0 E1.1
  have Kp1 : Keep h0 h1 [] := (Keep.refl h0 []).ext E1
  have V_b1 : Arv Z h1 b1 k1 .char (3 : Int32) [(.int (0 : Int32)), (.int (0 : Int32)), (.int (0 : Int32))] (.int (0 : Int32)) := (Arv.new A1 (by decide)).pad (pad_rep [] (.int (0 : Int32)) 3)
  refine own_go (b := T1.setTop (mkF m 3 #[iv 3, iv cc, .unset] [(.ref b1)])) st1 ?_
  refine own_go (b := T1.setTop (mkF m 4 #[iv 3, iv cc, rv b1] [])) (fun t k => XS.astoreN X1.here hx rfl (hb hby d18_3) rfl rfl (l' := #[iv 3, iv cc, rv b1]) rfl k) ?_
  refine own_go (b := T1.setTop (mkF m 5 #[iv 3, iv cc, rv b1] [(.int 3)])) (fun t k => XS.iloadN X1.here hx rfl (hb hby d18_4) rfl  k) ?_
  refine own_go (b := T1.setTop (mkF m 8 #[iv 3, iv cc, rv b1] [])) (fun t k => XS.ifNo X1.here hx rfl (hb hby d18_5) rfl ((if0 _ _).trans (tlt (by decide : (0 : Int32) < (3 : Int32))).2.2.2) k) ?_
  refine own_go (b := T1.setTop (mkF m 9 #[iv 3, iv cc, rv b1] [(.ref b1)])) (fun t k => XS.aloadN X1.here hx rfl (hb hby d18_8) rfl rfl k) ?_
  refine own_go (b := T1.setTop (mkF m 10 #[iv 3, iv cc, rv b1] [(.int 0), (.ref b1)])) (fun t k => XS.iconst X1.here hx rfl (hb hby d18_9) k) ?_
  refine own_go (b := T1.setTop (mkF m 11 #[iv 3, iv cc, rv b1] [(.int cc), (.int 0), (.ref b1)])) (fun t k => XS.iloadN X1.here hx rfl (hb hby d18_10) rfl  k) ?_
  refine own_go (b := T1.setTop (mkF m 14 #[iv 3, iv cc, rv b1] [(.int 255), (.int cc), (.int 0), (.ref b1)])) (fun t k => XS.sipush X1.here hx rfl (hb hby d18_11) k) ?_
  refine own_go (b := T1.setTop (mkF m 15 #[iv 3, iv cc, rv b1] [(.int (cc &&& (255 : Int32))), (.int 0), (.ref b1)])) (fun t k => XS.iand X1.here hx rfl (hb hby d18_14) rfl k) ?_
  refine own_go (b := T1.setTop (mkF m 16 #[iv 3, iv cc, rv b1] [(.int ((cc &&& (255 : Int32)).toUInt32.toUInt16.toUInt32.toInt32)), (.int 0), (.ref b1)])) (fun t k => XS.i2c X1.here hx rfl (hb hby d18_15) rfl k) ?_
  obtain ⟨cl2, Ar2, qc2, Sz2, Ng2, Hs2, Ft2⟩ := id V_b1
  have hin2 : ¬ ((0 : Int32) < 0 ∨ cl2.slots.size ≤ ((0 : Int32)).toNatClampNeg) := inb_of Sz2 ⟨by decide, by decide⟩
  obtain ⟨T3, h3, X3, e3, W3, st3⟩ := stC X1 hx hZ e1 Ar2 (j := (0 : Int32)) hin2 (g := (mkF m 16 #[iv 3, iv cc, rv b1] [(.int ((cc &&& (255 : Int32)).toUInt32.toUInt16.toUInt32.toInt32)), (.int 0), (.ref b1)])) rfl rfl (hb hby d18_16)
  have V_b1_3 : Arv Z h3 b1 k1 .char (3 : Int32) [(.int (nar .char ((cc &&& (255 : Int32)).toUInt32.toUInt16.toUInt32.toInt32))), (.int 0), (.int 0)] (.int (0 : Int32)) := Arv.set Ar2 qc2 Sz2 Ng2 Hs2 Ft2 (fits_nar_char _) W3 0 rfl (Nat.le_of_ble_eq_true rfl)
  have Zs3 : n0 ≤ h3.size := Nat.le_trans Zs1 (Keep.of_wr W3).1
  have N3 := Fr.snoc X3 N0 g_b1
  have Kp3 : Keep h0 h3 [] := Kp1.wr W3 (Or.inr sz_b1)
  refine own_go (b := T3.setTop (mkF m 17 #[iv 3, iv cc, rv b1] [])) st3 ?_
  refine own_go (b := T3.setTop (mkF m 18 #[iv 3, iv cc, rv b1] [(.int 3)])) (fun t k => XS.iloadN X3.here hx rfl (hb hby d18_17) rfl  k) ?_
  refine own_go (b := T3.setTop (mkF m 19 #[iv 3, iv cc, rv b1] [(.int 1), (.int 3)])) (fun t k => XS.iconst X3.here hx rfl (hb hby d18_18) k) ?_
  refine own_go (b := T3.setTop (mkF m 22 #[iv 3, iv cc, rv b1] [])) (fun t k => XS.icmpNo X3.here hx rfl (hb hby d18_19) rfl (tlt (by decide : (1 : Int32) < (3 : Int32))).2.2.2 k) ?_
  refine own_go (b := T3.setTop (mkF m 23 #[iv 3, iv cc, rv b1] [(.ref b1)])) (fun t k => XS.aloadN X3.here hx rfl (hb hby d18_22) rfl rfl k) ?_
  refine own_go (b := T3.setTop (mkF m 24 #[iv 3, iv cc, rv b1] [(.int 1), (.ref b1)])) (fun t k => XS.iconst X3.here hx rfl (hb hby d18_23) k) ?_
  refine own_go (b := T3.setTop (mkF m 25 #[iv 3, iv cc, rv b1] [(.int cc), (.int 1), (.ref b1)])) (fun t k => XS.iloadN X3.here hx rfl (hb hby d18_24) rfl  k) ?_
  refine own_go (b := T3.setTop (mkF m 27 #[iv 3, iv cc, rv b1] [(.int 8), (.int cc), (.int 1), (.ref b1)])) (fun t k => XS.bipush X3.here hx rfl (hb hby d18_25) k) ?_
  refine own_go (b := T3.setTop (mkF m 28 #[iv 3, iv cc, rv b1] [(.int ((cc.toUInt32 >>> ((8 : Int32) &&& 31).toUInt32).toInt32)), (.int 1), (.ref b1)])) (fun t k => XS.iushr X3.here hx rfl (hb hby d18_27) rfl k) ?_
  refine own_go (b := T3.setTop (mkF m 31 #[iv 3, iv cc, rv b1] [(.int 255), (.int ((cc.toUInt32 >>> ((8 : Int32) &&& 31).toUInt32).toInt32)), (.int 1), (.ref b1)])) (fun t k => XS.sipush X3.here hx rfl (hb hby d18_28) k) ?_
  refine own_go (b := T3.setTop (mkF m 32 #[iv 3, iv cc, rv b1] [(.int (((cc.toUInt32 >>> ((8 : Int32) &&& 31).toUInt32).toInt32) &&& (255 : Int32))), (.int 1), (.ref b1)])) (fun t k => XS.iand X3.here hx rfl (hb hby d18_31) rfl k) ?_
  refine own_go (b := T3.setTop (mkF m 33 #[iv 3, iv cc, rv b1] [(.int ((((cc.toUInt32 >>> ((8 : Int32) &&& 31).toUInt32).toInt32) &&& (255 : Int32)).toUInt32.toUInt16.toUInt32.toInt32)), (.int 1), (.ref b1)])) (fun t k => XS.i2c X3.here hx rfl (hb hby d18_32) rfl k) ?_
  obtain ⟨cl4, Ar4, qc4, Sz4, Ng4, Hs4, Ft4⟩ := id V_b1_3
  have hin4 : ¬ ((1 : Int32) < 0 ∨ cl4.slots.size ≤ ((1 : Int32)).toNatClampNeg) := inb_of Sz4 ⟨by decide, by decide⟩
  obtain ⟨T5, h5, X5, e5, W5, st5⟩ := stC X3 hx hZ e3 Ar4 (j := (1 : Int32)) hin4 (g := (mkF m 33 #[iv 3, iv cc, rv b1] [(.int ((((cc.toUInt32 >>> ((8 : Int32) &&& 31).toUInt32).toInt32) &&& (255 : Int32)).toUInt32.toUInt16.toUInt32.toInt32)), (.int 1), (.ref b1)])) rfl rfl (hb hby d18_33)
  have V_b1_5 : Arv Z h5 b1 k1 .char (3 : Int32) [(.int (nar .char ((cc &&& (255 : Int32)).toUInt32.toUInt16.toUInt32.toInt32))), (.int (nar .char ((((cc.toUInt32 >>> ((8 : Int32) &&& 31).toUInt32).toInt32) &&& (255 : Int32)).toUInt32.toUInt16.toUInt32.toInt32))), (.int 0)] (.int (0 : Int32)) := Arv.set Ar4 qc4 Sz4 Ng4 Hs4 Ft4 (fits_nar_char _) W5 1 rfl (Nat.le_of_ble_eq_true rfl)
  have Zs5 : n0 ≤ h5.size := Nat.le_trans Zs3 (Keep.of_wr W5).1
  have N5 := Fr.snoc X5 N3 g_b1
  have Kp5 : Keep h0 h5 [] := Kp3.wr W5 (Or.inr sz_b1)
  refine own_go (b := T5.setTop (mkF m 34 #[iv 3, iv cc, rv b1] [])) st5 ?_
  refine own_go (b := T5.setTop (mkF m 35 #[iv 3, iv cc, rv b1] [(.int 3)])) (fun t k => XS.iloadN X5.here hx rfl (hb hby d18_34) rfl  k) ?_
  refine own_go (b := T5.setTop (mkF m 36 #[iv 3, iv cc, rv b1] [(.int 2), (.int 3)])) (fun t k => XS.iconst X5.here hx rfl (hb hby d18_35) k) ?_
  refine own_go (b := T5.setTop (mkF m 39 #[iv 3, iv cc, rv b1] [])) (fun t k => XS.icmpNo X5.here hx rfl (hb hby d18_36) rfl (tlt (by decide : (2 : Int32) < (3 : Int32))).2.2.2 k) ?_
  refine own_go (b := T5.setTop (mkF m 40 #[iv 3, iv cc, rv b1] [(.ref b1)])) (fun t k => XS.aloadN X5.here hx rfl (hb hby d18_39) rfl rfl k) ?_
  refine own_go (b := T5.setTop (mkF m 41 #[iv 3, iv cc, rv b1] [(.int 2), (.ref b1)])) (fun t k => XS.iconst X5.here hx rfl (hb hby d18_40) k) ?_
  refine own_go (b := T5.setTop (mkF m 42 #[iv 3, iv cc, rv b1] [(.int cc), (.int 2), (.ref b1)])) (fun t k => XS.iloadN X5.here hx rfl (hb hby d18_41) rfl  k) ?_
  refine own_go (b := T5.setTop (mkF m 44 #[iv 3, iv cc, rv b1] [(.int 16), (.int cc), (.int 2), (.ref b1)])) (fun t k => XS.bipush X5.here hx rfl (hb hby d18_42) k) ?_
  refine own_go (b := T5.setTop (mkF m 45 #[iv 3, iv cc, rv b1] [(.int ((cc.toUInt32 >>> ((16 : Int32) &&& 31).toUInt32).toInt32)), (.int 2), (.ref b1)])) (fun t k => XS.iushr X5.here hx rfl (hb hby d18_44) rfl k) ?_
  refine own_go (b := T5.setTop (mkF m 48 #[iv 3, iv cc, rv b1] [(.int 255), (.int ((cc.toUInt32 >>> ((16 : Int32) &&& 31).toUInt32).toInt32)), (.int 2), (.ref b1)])) (fun t k => XS.sipush X5.here hx rfl (hb hby d18_45) k) ?_
  refine own_go (b := T5.setTop (mkF m 49 #[iv 3, iv cc, rv b1] [(.int (((cc.toUInt32 >>> ((16 : Int32) &&& 31).toUInt32).toInt32) &&& (255 : Int32))), (.int 2), (.ref b1)])) (fun t k => XS.iand X5.here hx rfl (hb hby d18_48) rfl k) ?_
  refine own_go (b := T5.setTop (mkF m 50 #[iv 3, iv cc, rv b1] [(.int ((((cc.toUInt32 >>> ((16 : Int32) &&& 31).toUInt32).toInt32) &&& (255 : Int32)).toUInt32.toUInt16.toUInt32.toInt32)), (.int 2), (.ref b1)])) (fun t k => XS.i2c X5.here hx rfl (hb hby d18_49) rfl k) ?_
  obtain ⟨cl6, Ar6, qc6, Sz6, Ng6, Hs6, Ft6⟩ := id V_b1_5
  have hin6 : ¬ ((2 : Int32) < 0 ∨ cl6.slots.size ≤ ((2 : Int32)).toNatClampNeg) := inb_of Sz6 ⟨by decide, by decide⟩
  obtain ⟨T7, h7, X7, e7, W7, st7⟩ := stC X5 hx hZ e5 Ar6 (j := (2 : Int32)) hin6 (g := (mkF m 50 #[iv 3, iv cc, rv b1] [(.int ((((cc.toUInt32 >>> ((16 : Int32) &&& 31).toUInt32).toInt32) &&& (255 : Int32)).toUInt32.toUInt16.toUInt32.toInt32)), (.int 2), (.ref b1)])) rfl rfl (hb hby d18_50)
  have V_b1_7 : Arv Z h7 b1 k1 .char (3 : Int32) [(.int (nar .char ((cc &&& (255 : Int32)).toUInt32.toUInt16.toUInt32.toInt32))), (.int (nar .char ((((cc.toUInt32 >>> ((8 : Int32) &&& 31).toUInt32).toInt32) &&& (255 : Int32)).toUInt32.toUInt16.toUInt32.toInt32))), (.int (nar .char ((((cc.toUInt32 >>> ((16 : Int32) &&& 31).toUInt32).toInt32) &&& (255 : Int32)).toUInt32.toUInt16.toUInt32.toInt32)))] (.int (0 : Int32)) := Arv.set Ar6 qc6 Sz6 Ng6 Hs6 Ft6 (fits_nar_char _) W7 2 rfl (Nat.le_of_ble_eq_true rfl)
  have Zs7 : n0 ≤ h7.size := Nat.le_trans Zs5 (Keep.of_wr W7).1
  have N7 := Fr.snoc X7 N5 g_b1
  have Kp7 : Keep h0 h7 [] := Kp5.wr W7 (Or.inr sz_b1)
  refine own_go (b := T7.setTop (mkF m 51 #[iv 3, iv cc, rv b1] [])) st7 ?_
  refine own_go (b := T7.setTop (mkF m 52 #[iv 3, iv cc, rv b1] [(.int 3)])) (fun t k => XS.iloadN X7.here hx rfl (hb hby d18_51) rfl  k) ?_
  refine own_go (b := T7.setTop (mkF m 53 #[iv 3, iv cc, rv b1] [(.int 3), (.int 3)])) (fun t k => XS.iconst X7.here hx rfl (hb hby d18_52) k) ?_
  refine own_go (b := T7.setTop (mkF m 68 #[iv 3, iv cc, rv b1] [])) (fun t k => XS.icmpYes X7.here hx rfl (pc0 := 53) (pc' := 68) rfl (hb hby d18_53) rfl (flt (by decide : ¬ ((3 : Int32) < (3 : Int32)))).2.2.2 (by decide) (by decide) k) ?_
  refine own_go (b := T7.setTop (mkF m 69 #[iv 3, iv cc, rv b1] [(.ref b1)])) (fun t k => XS.aloadN X7.here hx rfl (hb hby d18_68) rfl rfl k) ?_
  exact own_retA X7 hx hlk hrt rfl rfl (hb hby d18_69) (Nat.le_of_ble_eq_true rfl) (Nat.le_of_ble_eq_true rfl) (⟨_, _, rfl, N7, by rw [e7]; exact Kp7, g_b1, sz_b1, by rw [e7]; exact V_b1_7⟩)
theorem ef_18_4 (m : MethodId) (nn : Int32) (cc : Int32) : entryFrame m #[(.int nn), (.int cc)] 3 = mkF m 0 #[iv nn, iv cc, .unset] [] := by first | (simp [entryFrame, mkF, argsToLocals, Value.category]; done) | rfl
def Q18_4 (Z : State) (nn : Int32) (cc : Int32) (h0 : Heap) (n0 : Nat) (v : Option Value) (h : Heap) (L : List Loc) : Prop := ∃ a k, v = some (.ref a) ∧ Fr n0 L ∧ Keep h0 h [] ∧ n0 ≤ a ∧ h0.size ≤ a ∧ Arv Z h a k .char (4 : Int32) [.int (nar .char ((cc &&& (255 : Int32)).toUInt32.toUInt16.toUInt32.toInt32)), .int (nar .char ((((cc.toUInt32 >>> ((8 : Int32) &&& 31).toUInt32).toInt32) &&& (255 : Int32)).toUInt32.toUInt16.toUInt32.toInt32)), .int (nar .char ((((cc.toUInt32 >>> ((16 : Int32) &&& 31).toUInt32).toInt32) &&& (255 : Int32)).toUInt32.toUInt16.toUInt32.toInt32)), .int (nar .char ((((cc.toUInt32 >>> ((24 : Int32) &&& 31).toUInt32).toInt32) &&& (255 : Int32)).toUInt32.toUInt16.toUInt32.toInt32))] (.int (0 : Int32))
set_option maxRecDepth 65536 in
set_option maxHeartbeats 40000000 in
theorem rm18_4 (l : Launch) (Z : State) (a0 : Array Value) (hw : ∀ d ∈ tables_1, d.before a0 Z = true) (ws : List Jvm.Cond) (nn : Int32) (cc : Int32) (h0 : Heap) (n0 : Nat) (Z0 : n0 ≤ h0.size) (hk_ : nn = (4 : Int32)) :
    MetFree l (⟨"com/example/fault/fault/EnvelopeNamedPinLaw", "drawn", "(II)[C"⟩ : MethodName) (head1 (Jvm.Cond.code (⟨"com/example/fault/fault/EnvelopeNamedPinLaw", "drawn", "(II)[C"⟩ : MethodName) method_5_code 3 (some (.array .char)) :: ws) ({ frames := 0, cells := 1, slots := 4, locals := 0 } : Room)) (fun a U => a = #[(.int nn), (.int cc)] ∧ Z.Warmed39 U.vm ∧ U.heap = h0) (fun _ _ _ _ _ => True) (fun _ U o U' => ∃ v L, o = .returned v ∧ Q18_4 Z nn cc h0 n0 v U'.heap L ∧ FrameEnd U o U' L ({ frames := 0, cells := 1, slots := 4, locals := 0 } : Room).cells ({ frames := 0, cells := 1, slots := 4, locals := 0 } : Room).slots) := by
  refine MetFree.of_bodySF (plainFor_of_name pn_0) hisR ?_
  intro p e s m args below meth c s₁ Bd hml0 hP hK
  obtain ⟨rfl, hZ, hh⟩ := hP
  have hx := Bd.exec
  have hby := Bd.bytes
  have hml : c.maxLocals = 3 := hml0
  have hown : s.vm.findClass "com/example/fault/fault/EnvelopeNamedPinLaw" = some m.cls := findClass_of_methodNamed Bd.named
  have hnm := (name_of_methodNamed Bd.named Bd.method).1
  have hlk : meth.locks = false := Bd.notSynchronized
  have hrt := Bd.returns
  have X0 : Stand p l e ({ frames := 0, cells := 1, slots := 4, locals := 0 } : Room) s m #[(.int nn), (.int cc)] below meth c s₁ [] 0 0 := Stand.of_body Bd
  have e0 : s₁.heap = h0 := by rw [← hh, Bd.state]; rfl
  have N0 := Fr.nil n0
  show own_Endz p.tables e below (own_EndQ s ({ frames := 0, cells := 1, slots := 4, locals := 0 } : Room).cells ({ frames := 0, cells := 1, slots := 4, locals := 0 } : Room).slots (Q18_4 Z nn cc h0 n0)) (s₁.setTop (entryFrame m #[(.int nn), (.int cc)] 3))
  refine own_cast (ef_18_4 m nn cc) ?_
  subst hk_
  show own_Endz p.tables e below (own_EndQ s ({ frames := 0, cells := 1, slots := 4, locals := 0 } : Room).cells ({ frames := 0, cells := 1, slots := 4, locals := 0 } : Room).slots (Q18_4 Z ((4 : Int32)) cc h0 n0)) (s₁.setTop (mkF m 0 #[iv 4, iv cc, .unset] []))
  refine own_go (b := s₁.setTop (mkF m 1 #[iv 4, iv cc, .unset] [(.int 4)])) (fun t k => XS.iloadN X0.here hx rfl (hb hby d18_0) rfl  k) ?_
  obtain ⟨T1, h1, k1, X1, e1, E1, A1, st1⟩ := newP X0 hx hZ (hw _ (List.mem_of_getElem? (i := 8) rfl)) e0 (g := (mkF m 1 #[iv 4, iv cc, .unset] [(.int 4)])) rfl (hb hby d18_1) rfl (by decide) (cap := 4) (by decide) (by decide) (by decide) (by decide)
  obtain ⟨b1, g1⟩ : ∃ z, z = h0.size := ⟨_, rfl⟩
  rw [← g1] at A1 st1
  have g_b1 : n0 ≤ b1 := Nat.le_trans Z0 (Nat.le_of_eq g1.symm)
  have sz_b1 : h0.size ≤ b1 := Nat.le_trans (Keep.refl h0 []).1 (Nat.le_of_eq g1.symm)
  have Zs1 : n0 ≤ h1.size := Nat.le_trans Z0 E1.1
  have Kp1 : Keep h0 h1 [] := (Keep.refl h0 []).ext E1
  have V_b1 : Arv Z h1 b1 k1 .char (4 : Int32) [(.int (0 : Int32)), (.int (0 : Int32)), (.int (0 : Int32)), (.int (0 : Int32))] (.int (0 : Int32)) := (Arv.new A1 (by decide)).pad (pad_rep [] (.int (0 : Int32)) 4)
  refine own_go (b := T1.setTop (mkF m 3 #[iv 4, iv cc, .unset] [(.ref b1)])) st1 ?_
  refine own_go (b := T1.setTop (mkF m 4 #[iv 4, iv cc, rv b1] [])) (fun t k => XS.astoreN X1.here hx rfl (hb hby d18_3) rfl rfl (l' := #[iv 4, iv cc, rv b1]) rfl k) ?_
  refine own_go (b := T1.setTop (mkF m 5 #[iv 4, iv cc, rv b1] [(.int 4)])) (fun t k => XS.iloadN X1.here hx rfl (hb hby d18_4) rfl  k) ?_
  refine own_go (b := T1.setTop (mkF m 8 #[iv 4, iv cc, rv b1] [])) (fun t k => XS.ifNo X1.here hx rfl (hb hby d18_5) rfl ((if0 _ _).trans (tlt (by decide : (0 : Int32) < (4 : Int32))).2.2.2) k) ?_
  refine own_go (b := T1.setTop (mkF m 9 #[iv 4, iv cc, rv b1] [(.ref b1)])) (fun t k => XS.aloadN X1.here hx rfl (hb hby d18_8) rfl rfl k) ?_
  refine own_go (b := T1.setTop (mkF m 10 #[iv 4, iv cc, rv b1] [(.int 0), (.ref b1)])) (fun t k => XS.iconst X1.here hx rfl (hb hby d18_9) k) ?_
  refine own_go (b := T1.setTop (mkF m 11 #[iv 4, iv cc, rv b1] [(.int cc), (.int 0), (.ref b1)])) (fun t k => XS.iloadN X1.here hx rfl (hb hby d18_10) rfl  k) ?_
  refine own_go (b := T1.setTop (mkF m 14 #[iv 4, iv cc, rv b1] [(.int 255), (.int cc), (.int 0), (.ref b1)])) (fun t k => XS.sipush X1.here hx rfl (hb hby d18_11) k) ?_
  refine own_go (b := T1.setTop (mkF m 15 #[iv 4, iv cc, rv b1] [(.int (cc &&& (255 : Int32))), (.int 0), (.ref b1)])) (fun t k => XS.iand X1.here hx rfl (hb hby d18_14) rfl k) ?_
  refine own_go (b := T1.setTop (mkF m 16 #[iv 4, iv cc, rv b1] [(.int ((cc &&& (255 : Int32)).toUInt32.toUInt16.toUInt32.toInt32)), (.int 0), (.ref b1)])) (fun t k => XS.i2c X1.here hx rfl (hb hby d18_15) rfl k) ?_
  obtain ⟨cl2, Ar2, qc2, Sz2, Ng2, Hs2, Ft2⟩ := id V_b1
  have hin2 : ¬ ((0 : Int32) < 0 ∨ cl2.slots.size ≤ ((0 : Int32)).toNatClampNeg) := inb_of Sz2 ⟨by decide, by decide⟩
  obtain ⟨T3, h3, X3, e3, W3, st3⟩ := stC X1 hx hZ e1 Ar2 (j := (0 : Int32)) hin2 (g := (mkF m 16 #[iv 4, iv cc, rv b1] [(.int ((cc &&& (255 : Int32)).toUInt32.toUInt16.toUInt32.toInt32)), (.int 0), (.ref b1)])) rfl rfl (hb hby d18_16)
  have V_b1_3 : Arv Z h3 b1 k1 .char (4 : Int32) [(.int (nar .char ((cc &&& (255 : Int32)).toUInt32.toUInt16.toUInt32.toInt32))), (.int 0), (.int 0), (.int 0)] (.int (0 : Int32)) := Arv.set Ar2 qc2 Sz2 Ng2 Hs2 Ft2 (fits_nar_char _) W3 0 rfl (Nat.le_of_ble_eq_true rfl)
  have Zs3 : n0 ≤ h3.size := Nat.le_trans Zs1 (Keep.of_wr W3).1
  have N3 := Fr.snoc X3 N0 g_b1
  have Kp3 : Keep h0 h3 [] := Kp1.wr W3 (Or.inr sz_b1)
  refine own_go (b := T3.setTop (mkF m 17 #[iv 4, iv cc, rv b1] [])) st3 ?_
  refine own_go (b := T3.setTop (mkF m 18 #[iv 4, iv cc, rv b1] [(.int 4)])) (fun t k => XS.iloadN X3.here hx rfl (hb hby d18_17) rfl  k) ?_
  refine own_go (b := T3.setTop (mkF m 19 #[iv 4, iv cc, rv b1] [(.int 1), (.int 4)])) (fun t k => XS.iconst X3.here hx rfl (hb hby d18_18) k) ?_
  refine own_go (b := T3.setTop (mkF m 22 #[iv 4, iv cc, rv b1] [])) (fun t k => XS.icmpNo X3.here hx rfl (hb hby d18_19) rfl (tlt (by decide : (1 : Int32) < (4 : Int32))).2.2.2 k) ?_
  refine own_go (b := T3.setTop (mkF m 23 #[iv 4, iv cc, rv b1] [(.ref b1)])) (fun t k => XS.aloadN X3.here hx rfl (hb hby d18_22) rfl rfl k) ?_
  refine own_go (b := T3.setTop (mkF m 24 #[iv 4, iv cc, rv b1] [(.int 1), (.ref b1)])) (fun t k => XS.iconst X3.here hx rfl (hb hby d18_23) k) ?_
  refine own_go (b := T3.setTop (mkF m 25 #[iv 4, iv cc, rv b1] [(.int cc), (.int 1), (.ref b1)])) (fun t k => XS.iloadN X3.here hx rfl (hb hby d18_24) rfl  k) ?_
  refine own_go (b := T3.setTop (mkF m 27 #[iv 4, iv cc, rv b1] [(.int 8), (.int cc), (.int 1), (.ref b1)])) (fun t k => XS.bipush X3.here hx rfl (hb hby d18_25) k) ?_
  refine own_go (b := T3.setTop (mkF m 28 #[iv 4, iv cc, rv b1] [(.int ((cc.toUInt32 >>> ((8 : Int32) &&& 31).toUInt32).toInt32)), (.int 1), (.ref b1)])) (fun t k => XS.iushr X3.here hx rfl (hb hby d18_27) rfl k) ?_
  refine own_go (b := T3.setTop (mkF m 31 #[iv 4, iv cc, rv b1] [(.int 255), (.int ((cc.toUInt32 >>> ((8 : Int32) &&& 31).toUInt32).toInt32)), (.int 1), (.ref b1)])) (fun t k => XS.sipush X3.here hx rfl (hb hby d18_28) k) ?_
  refine own_go (b := T3.setTop (mkF m 32 #[iv 4, iv cc, rv b1] [(.int (((cc.toUInt32 >>> ((8 : Int32) &&& 31).toUInt32).toInt32) &&& (255 : Int32))), (.int 1), (.ref b1)])) (fun t k => XS.iand X3.here hx rfl (hb hby d18_31) rfl k) ?_
  refine own_go (b := T3.setTop (mkF m 33 #[iv 4, iv cc, rv b1] [(.int ((((cc.toUInt32 >>> ((8 : Int32) &&& 31).toUInt32).toInt32) &&& (255 : Int32)).toUInt32.toUInt16.toUInt32.toInt32)), (.int 1), (.ref b1)])) (fun t k => XS.i2c X3.here hx rfl (hb hby d18_32) rfl k) ?_
  obtain ⟨cl4, Ar4, qc4, Sz4, Ng4, Hs4, Ft4⟩ := id V_b1_3
  have hin4 : ¬ ((1 : Int32) < 0 ∨ cl4.slots.size ≤ ((1 : Int32)).toNatClampNeg) := inb_of Sz4 ⟨by decide, by decide⟩
  obtain ⟨T5, h5, X5, e5, W5, st5⟩ := stC X3 hx hZ e3 Ar4 (j := (1 : Int32)) hin4 (g := (mkF m 33 #[iv 4, iv cc, rv b1] [(.int ((((cc.toUInt32 >>> ((8 : Int32) &&& 31).toUInt32).toInt32) &&& (255 : Int32)).toUInt32.toUInt16.toUInt32.toInt32)), (.int 1), (.ref b1)])) rfl rfl (hb hby d18_33)
  have V_b1_5 : Arv Z h5 b1 k1 .char (4 : Int32) [(.int (nar .char ((cc &&& (255 : Int32)).toUInt32.toUInt16.toUInt32.toInt32))), (.int (nar .char ((((cc.toUInt32 >>> ((8 : Int32) &&& 31).toUInt32).toInt32) &&& (255 : Int32)).toUInt32.toUInt16.toUInt32.toInt32))), (.int 0), (.int 0)] (.int (0 : Int32)) := Arv.set Ar4 qc4 Sz4 Ng4 Hs4 Ft4 (fits_nar_char _) W5 1 rfl (Nat.le_of_ble_eq_true rfl)
  have Zs5 : n0 ≤ h5.size := Nat.le_trans Zs3 (Keep.of_wr W5).1
  have N5 := Fr.snoc X5 N3 g_b1
  have Kp5 : Keep h0 h5 [] := Kp3.wr W5 (Or.inr sz_b1)
  refine own_go (b := T5.setTop (mkF m 34 #[iv 4, iv cc, rv b1] [])) st5 ?_
  refine own_go (b := T5.setTop (mkF m 35 #[iv 4, iv cc, rv b1] [(.int 4)])) (fun t k => XS.iloadN X5.here hx rfl (hb hby d18_34) rfl  k) ?_
  refine own_go (b := T5.setTop (mkF m 36 #[iv 4, iv cc, rv b1] [(.int 2), (.int 4)])) (fun t k => XS.iconst X5.here hx rfl (hb hby d18_35) k) ?_
  refine own_go (b := T5.setTop (mkF m 39 #[iv 4, iv cc, rv b1] [])) (fun t k => XS.icmpNo X5.here hx rfl (hb hby d18_36) rfl (tlt (by decide : (2 : Int32) < (4 : Int32))).2.2.2 k) ?_
  refine own_go (b := T5.setTop (mkF m 40 #[iv 4, iv cc, rv b1] [(.ref b1)])) (fun t k => XS.aloadN X5.here hx rfl (hb hby d18_39) rfl rfl k) ?_
  refine own_go (b := T5.setTop (mkF m 41 #[iv 4, iv cc, rv b1] [(.int 2), (.ref b1)])) (fun t k => XS.iconst X5.here hx rfl (hb hby d18_40) k) ?_
  refine own_go (b := T5.setTop (mkF m 42 #[iv 4, iv cc, rv b1] [(.int cc), (.int 2), (.ref b1)])) (fun t k => XS.iloadN X5.here hx rfl (hb hby d18_41) rfl  k) ?_
  refine own_go (b := T5.setTop (mkF m 44 #[iv 4, iv cc, rv b1] [(.int 16), (.int cc), (.int 2), (.ref b1)])) (fun t k => XS.bipush X5.here hx rfl (hb hby d18_42) k) ?_
  refine own_go (b := T5.setTop (mkF m 45 #[iv 4, iv cc, rv b1] [(.int ((cc.toUInt32 >>> ((16 : Int32) &&& 31).toUInt32).toInt32)), (.int 2), (.ref b1)])) (fun t k => XS.iushr X5.here hx rfl (hb hby d18_44) rfl k) ?_
  refine own_go (b := T5.setTop (mkF m 48 #[iv 4, iv cc, rv b1] [(.int 255), (.int ((cc.toUInt32 >>> ((16 : Int32) &&& 31).toUInt32).toInt32)), (.int 2), (.ref b1)])) (fun t k => XS.sipush X5.here hx rfl (hb hby d18_45) k) ?_
  refine own_go (b := T5.setTop (mkF m 49 #[iv 4, iv cc, rv b1] [(.int (((cc.toUInt32 >>> ((16 : Int32) &&& 31).toUInt32).toInt32) &&& (255 : Int32))), (.int 2), (.ref b1)])) (fun t k => XS.iand X5.here hx rfl (hb hby d18_48) rfl k) ?_
  refine own_go (b := T5.setTop (mkF m 50 #[iv 4, iv cc, rv b1] [(.int ((((cc.toUInt32 >>> ((16 : Int32) &&& 31).toUInt32).toInt32) &&& (255 : Int32)).toUInt32.toUInt16.toUInt32.toInt32)), (.int 2), (.ref b1)])) (fun t k => XS.i2c X5.here hx rfl (hb hby d18_49) rfl k) ?_
  obtain ⟨cl6, Ar6, qc6, Sz6, Ng6, Hs6, Ft6⟩ := id V_b1_5
  have hin6 : ¬ ((2 : Int32) < 0 ∨ cl6.slots.size ≤ ((2 : Int32)).toNatClampNeg) := inb_of Sz6 ⟨by decide, by decide⟩
  obtain ⟨T7, h7, X7, e7, W7, st7⟩ := stC X5 hx hZ e5 Ar6 (j := (2 : Int32)) hin6 (g := (mkF m 50 #[iv 4, iv cc, rv b1] [(.int ((((cc.toUInt32 >>> ((16 : Int32) &&& 31).toUInt32).toInt32) &&& (255 : Int32)).toUInt32.toUInt16.toUInt32.toInt32)), (.int 2), (.ref b1)])) rfl rfl (hb hby d18_50)
  have V_b1_7 : Arv Z h7 b1 k1 .char (4 : Int32) [(.int (nar .char ((cc &&& (255 : Int32)).toUInt32.toUInt16.toUInt32.toInt32))), (.int (nar .char ((((cc.toUInt32 >>> ((8 : Int32) &&& 31).toUInt32).toInt32) &&& (255 : Int32)).toUInt32.toUInt16.toUInt32.toInt32))), (.int (nar .char ((((cc.toUInt32 >>> ((16 : Int32) &&& 31).toUInt32).toInt32) &&& (255 : Int32)).toUInt32.toUInt16.toUInt32.toInt32))), (.int 0)] (.int (0 : Int32)) := Arv.set Ar6 qc6 Sz6 Ng6 Hs6 Ft6 (fits_nar_char _) W7 2 rfl (Nat.le_of_ble_eq_true rfl)
  have Zs7 : n0 ≤ h7.size := Nat.le_trans Zs5 (Keep.of_wr W7).1
  have N7 := Fr.snoc X7 N5 g_b1
  have Kp7 : Keep h0 h7 [] := Kp5.wr W7 (Or.inr sz_b1)
  refine own_go (b := T7.setTop (mkF m 51 #[iv 4, iv cc, rv b1] [])) st7 ?_
  refine own_go (b := T7.setTop (mkF m 52 #[iv 4, iv cc, rv b1] [(.int 4)])) (fun t k => XS.iloadN X7.here hx rfl (hb hby d18_51) rfl  k) ?_
  refine own_go (b := T7.setTop (mkF m 53 #[iv 4, iv cc, rv b1] [(.int 3), (.int 4)])) (fun t k => XS.iconst X7.here hx rfl (hb hby d18_52) k) ?_
  refine own_go (b := T7.setTop (mkF m 56 #[iv 4, iv cc, rv b1] [])) (fun t k => XS.icmpNo X7.here hx rfl (hb hby d18_53) rfl (tlt (by decide : (3 : Int32) < (4 : Int32))).2.2.2 k) ?_
  refine own_go (b := T7.setTop (mkF m 57 #[iv 4, iv cc, rv b1] [(.ref b1)])) (fun t k => XS.aloadN X7.here hx rfl (hb hby d18_56) rfl rfl k) ?_
  refine own_go (b := T7.setTop (mkF m 58 #[iv 4, iv cc, rv b1] [(.int 3), (.ref b1)])) (fun t k => XS.iconst X7.here hx rfl (hb hby d18_57) k) ?_
  refine own_go (b := T7.setTop (mkF m 59 #[iv 4, iv cc, rv b1] [(.int cc), (.int 3), (.ref b1)])) (fun t k => XS.iloadN X7.here hx rfl (hb hby d18_58) rfl  k) ?_
  refine own_go (b := T7.setTop (mkF m 61 #[iv 4, iv cc, rv b1] [(.int 24), (.int cc), (.int 3), (.ref b1)])) (fun t k => XS.bipush X7.here hx rfl (hb hby d18_59) k) ?_
  refine own_go (b := T7.setTop (mkF m 62 #[iv 4, iv cc, rv b1] [(.int ((cc.toUInt32 >>> ((24 : Int32) &&& 31).toUInt32).toInt32)), (.int 3), (.ref b1)])) (fun t k => XS.iushr X7.here hx rfl (hb hby d18_61) rfl k) ?_
  refine own_go (b := T7.setTop (mkF m 65 #[iv 4, iv cc, rv b1] [(.int 255), (.int ((cc.toUInt32 >>> ((24 : Int32) &&& 31).toUInt32).toInt32)), (.int 3), (.ref b1)])) (fun t k => XS.sipush X7.here hx rfl (hb hby d18_62) k) ?_
  refine own_go (b := T7.setTop (mkF m 66 #[iv 4, iv cc, rv b1] [(.int (((cc.toUInt32 >>> ((24 : Int32) &&& 31).toUInt32).toInt32) &&& (255 : Int32))), (.int 3), (.ref b1)])) (fun t k => XS.iand X7.here hx rfl (hb hby d18_65) rfl k) ?_
  refine own_go (b := T7.setTop (mkF m 67 #[iv 4, iv cc, rv b1] [(.int ((((cc.toUInt32 >>> ((24 : Int32) &&& 31).toUInt32).toInt32) &&& (255 : Int32)).toUInt32.toUInt16.toUInt32.toInt32)), (.int 3), (.ref b1)])) (fun t k => XS.i2c X7.here hx rfl (hb hby d18_66) rfl k) ?_
  obtain ⟨cl8, Ar8, qc8, Sz8, Ng8, Hs8, Ft8⟩ := id V_b1_7
  have hin8 : ¬ ((3 : Int32) < 0 ∨ cl8.slots.size ≤ ((3 : Int32)).toNatClampNeg) := inb_of Sz8 ⟨by decide, by decide⟩
  obtain ⟨T9, h9, X9, e9, W9, st9⟩ := stC X7 hx hZ e7 Ar8 (j := (3 : Int32)) hin8 (g := (mkF m 67 #[iv 4, iv cc, rv b1] [(.int ((((cc.toUInt32 >>> ((24 : Int32) &&& 31).toUInt32).toInt32) &&& (255 : Int32)).toUInt32.toUInt16.toUInt32.toInt32)), (.int 3), (.ref b1)])) rfl rfl (hb hby d18_67)
  have V_b1_9 : Arv Z h9 b1 k1 .char (4 : Int32) [(.int (nar .char ((cc &&& (255 : Int32)).toUInt32.toUInt16.toUInt32.toInt32))), (.int (nar .char ((((cc.toUInt32 >>> ((8 : Int32) &&& 31).toUInt32).toInt32) &&& (255 : Int32)).toUInt32.toUInt16.toUInt32.toInt32))), (.int (nar .char ((((cc.toUInt32 >>> ((16 : Int32) &&& 31).toUInt32).toInt32) &&& (255 : Int32)).toUInt32.toUInt16.toUInt32.toInt32))), (.int (nar .char ((((cc.toUInt32 >>> ((24 : Int32) &&& 31).toUInt32).toInt32) &&& (255 : Int32)).toUInt32.toUInt16.toUInt32.toInt32)))] (.int (0 : Int32)) := Arv.set Ar8 qc8 Sz8 Ng8 Hs8 Ft8 (fits_nar_char _) W9 3 rfl (Nat.le_of_ble_eq_true rfl)
  have Zs9 : n0 ≤ h9.size := Nat.le_trans Zs7 (Keep.of_wr W9).1
  have N9 := Fr.snoc X9 N7 g_b1
  have Kp9 : Keep h0 h9 [] := Kp7.wr W9 (Or.inr sz_b1)
  refine own_go (b := T9.setTop (mkF m 68 #[iv 4, iv cc, rv b1] [])) st9 ?_
  refine own_go (b := T9.setTop (mkF m 69 #[iv 4, iv cc, rv b1] [(.ref b1)])) (fun t k => XS.aloadN X9.here hx rfl (hb hby d18_68) rfl rfl k) ?_
  exact own_retA X9 hx hlk hrt rfl rfl (hb hby d18_69) (Nat.le_of_ble_eq_true rfl) (Nat.le_of_ble_eq_true rfl) (⟨_, _, rfl, N9, by rw [e9]; exact Kp9, g_b1, sz_b1, by rw [e9]; exact V_b1_9⟩)
theorem own_r5 (k : Int32) : ∃ j : Nat, j < 5 ∧ (k &&& 2147483647) % 5 = j.toInt32 := by
  have h1 := c_mask k 2147483647 31 (by decide) (by decide)
  have h2 := (c_irem (k &&& 2147483647) 5 5 (by decide)).1 (by omega)
  refine ⟨((k &&& 2147483647) % 5).toInt.toNat, by omega, ?_⟩
  rw [← Int32.toInt_inj, len_toInt (by omega)]
  omega
theorem own_r3 (k : Int32) : ∃ j : Nat, j < 3 ∧ (k &&& 2147483647) % 3 = j.toInt32 := by
  have h1 := c_mask k 2147483647 31 (by decide) (by decide)
  have h2 := (c_irem (k &&& 2147483647) 3 3 (by decide)).1 (by omega)
  refine ⟨((k &&& 2147483647) % 3).toInt.toNat, by omega, ?_⟩
  rw [← Int32.toInt_inj, len_toInt (by omega)]
  omega
theorem own_r11 (k : Int32) : ∃ j : Nat, j < 11 ∧ (k &&& 2147483647) % 11 = j.toInt32 := by
  have h1 := c_mask k 2147483647 31 (by decide) (by decide)
  have h2 := (c_irem (k &&& 2147483647) 11 11 (by decide)).1 (by omega)
  refine ⟨((k &&& 2147483647) % 11).toInt.toNat, by omega, ?_⟩
  rw [← Int32.toInt_inj, len_toInt (by omega)]
  omega
theorem own_r12 (k : Int32) : ∃ j : Nat, j < 12 ∧ (k &&& 2147483647) % 12 = j.toInt32 := by
  have h1 := c_mask k 2147483647 31 (by decide) (by decide)
  have h2 := (c_irem (k &&& 2147483647) 12 12 (by decide)).1 (by omega)
  refine ⟨((k &&& 2147483647) % 12).toInt.toNat, by omega, ?_⟩
  rw [← Int32.toInt_inj, len_toInt (by omega)]
  omega
theorem own_r7 (k : Int32) : ∃ j : Nat, j < 7 ∧ (k &&& 2147483647) % 7 = j.toInt32 := by
  have h1 := c_mask k 2147483647 31 (by decide) (by decide)
  have h2 := (c_irem (k &&& 2147483647) 7 7 (by decide)).1 (by omega)
  refine ⟨((k &&& 2147483647) % 7).toInt.toNat, by omega, ?_⟩
  rw [← Int32.toInt_inj, len_toInt (by omega)]
  omega
theorem pd_8 : parseMethodDescriptor "(Ljava/lang/String;)I" = some ⟨[(.object "java/lang/String")], some .int⟩ := by decide +kernel
theorem pd_9 : parseMethodDescriptor "(Ljava/lang/String;)Ljava/util/Optional;" = some ⟨[(.object "java/lang/String")], some (.object "java/util/Optional")⟩ := by decide +kernel
theorem pd_10 : parseMethodDescriptor "()Z" = some ⟨[], some .boolean⟩ := by decide +kernel
theorem pd_11 : parseMethodDescriptor "()Ljava/lang/Object;" = some ⟨[], some (.object "java/lang/Object")⟩ := by decide +kernel
theorem pd_12 : parseMethodDescriptor "(I)[C" = some ⟨[.int], some (.array .char)⟩ := by decide +kernel
theorem pd_13 : parseMethodDescriptor "([C)V" = some ⟨[(.array .char)], none⟩ := by decide +kernel
theorem pd_14 : parseMethodDescriptor "(IC)[C" = some ⟨[.int, .char], some (.array .char)⟩ := by decide +kernel
theorem pd_15 : parseMethodDescriptor "(II)[C" = some ⟨[.int, .int], some (.array .char)⟩ := by decide +kernel
theorem pd_16 : parseMethodDescriptor "(I)Ljava/lang/String;" = some ⟨[.int], some (.object "java/lang/String")⟩ := by decide +kernel
theorem ef_0 (m : MethodId) (mr : Int32) (wr : Int32) (pr : Int32) (cr : Int32) (er : Int32) : entryFrame m #[(.int mr), (.int wr), (.int pr), (.int cr), (.int er)] maxLocals = mkF m 0 #[iv mr, iv wr, iv pr, iv cr, iv er, .unset, .unset, .unset, .unset, .unset, .unset] [] := by first | (simp [entryFrame, mkF, argsToLocals, Value.category, maxLocals]; done) | rfl
def Q0 (Z : State) (mr : Int32) (wr : Int32) (pr : Int32) (cr : Int32) (er : Int32) (G1 : Int32) (ad0 : Addr) (ad1 : Addr) (ad2 : Addr) (al : Addr) (kl : ClassId) (em : Addr) (nm0 : Addr) (nm1 : Addr) (nm2 : Addr) (h0 : Heap) (n0 : Nat) (v : Option Value) (h : Heap) (L : List Loc) : Prop := v = some (.int 1) ∧ Fr n0 L
set_option maxRecDepth 65536 in
set_option maxHeartbeats 40000000 in
theorem rm0 (l : Launch) (Z : State) (a0 : Array Value) (hw : ∀ d ∈ tables_1, d.before a0 Z = true) (ws : List Jvm.Cond) (mr : Int32) (wr : Int32) (pr : Int32) (cr : Int32) (er : Int32) (G1 : Int32) (ad0 : Addr) (ad1 : Addr) (ad2 : Addr) (al : Addr) (kl : ClassId) (em : Addr) (nm0 : Addr) (nm1 : Addr) (nm2 : Addr) (h0 : Heap) (n0 : Nat) (Z0 : n0 ≤ h0.size) (Od : Old Z n0 h0) (Hc : ∀ q ∈ consts_1, Jvm.Lit.constHeld Z q.1 q.2) (hcw : Jvm.Lit.compactW.before a0 Z = true) (O2 : Sta Z Z.heap "java/lang/String" "COMPACT_STRINGS" "Z" (.int G1)) (P5 : ¬ (G1 = (0 : Int32))) (Sv : Sta Z Z.heap "com/example/fault/fault/Envelope" "$VALUES" "[Lcom/example/fault/fault/Envelope;" (.ref al)) (Ev : Exa Z Z.heap al "[Lcom/example/fault/fault/Envelope;") (Vv : Arv Z Z.heap al kl (.object "com/example/fault/fault/Envelope") (3 : Int32) [.ref ad0, .ref ad1, .ref ad2] .null) (Sm : Sta Z Z.heap "java/util/Optional" "EMPTY" "Ljava/util/Optional;" (.ref em)) (Em : Exa Z Z.heap em "java/util/Optional") (Fm : Fld Z Z.heap em "java/util/Optional" "value" "Ljava/lang/Object;" .null) (Fc0 : Fld Z Z.heap ad0 "com/example/fault/fault/Envelope" "catalogName" "Ljava/lang/String;" (.ref nm0)) (Fc1 : Fld Z Z.heap ad1 "com/example/fault/fault/Envelope" "catalogName" "Ljava/lang/String;" (.ref nm1)) (Fc2 : Fld Z Z.heap ad2 "com/example/fault/fault/Envelope" "catalogName" "Ljava/lang/String;" (.ref nm2)) (Sn0 : own_St Z Z.heap nm0 own_n0) (Sn1 : own_St Z Z.heap nm1 own_n1) (Sn2 : own_St Z Z.heap nm2 own_n2) (Sd0 : Sta Z Z.heap "com/example/fault/fault/Envelope" "ERRORS_LIST" "Lcom/example/fault/fault/Envelope;" (.ref ad0)) (Sd1 : Sta Z Z.heap "com/example/fault/fault/Envelope" "SINGLE_ERROR" "Lcom/example/fault/fault/Envelope;" (.ref ad1)) (Sd2 : Sta Z Z.heap "com/example/fault/fault/Envelope" "PROBLEM" "Lcom/example/fault/fault/Envelope;" (.ref ad2)) :
    MetFree l x (head1 (Jvm.Cond.code x code maxLocals ret :: ws) room_1) (fun a U => a = #[(.int mr), (.int wr), (.int pr), (.int cr), (.int er)] ∧ Z.Warmed39 U.vm ∧ U.heap = h0 ∧ IB Z U.vm ([] : List String)) (fun _ _ _ _ _ => True) (fun _ U o U' => ∃ v L, o = .returned v ∧ Q0 Z mr wr pr cr er G1 ad0 ad1 ad2 al kl em nm0 nm1 nm2 h0 n0 v U'.heap L ∧ IB Z U'.vm ["", "ERRORS_LIST", "SINGLE_ERROR", "PROBLEM", "errors-list", "single-error", "problem"] ∧ ReturnedEndW U o U' L room_1.cells room_1.slots) := by
  refine MetFree.of_bodySF (plainFor_of_name pn_0) hisR ?_
  intro p e s m args below meth c s₁ Bd hml0 hP hK
  obtain ⟨rfl, hZ, hh, I0⟩ := hP
  have hx := Bd.exec
  have hby := Bd.bytes
  have hml : c.maxLocals = 11 := hml0
  have hown : s.vm.findClass "com/example/fault/fault/EnvelopeNamedPinLaw" = some m.cls := findClass_of_methodNamed Bd.named
  have hnm := (name_of_methodNamed Bd.named Bd.method).1
  have hlk : meth.locks = false := Bd.notSynchronized
  have hrt := Bd.returns
  have X0 : Stand p l e room_1 s m #[(.int mr), (.int wr), (.int pr), (.int cr), (.int er)] below meth c s₁ [] 0 0 := Stand.of_body Bd
  have e0 : s₁.heap = h0 := by rw [← hh, Bd.state]; rfl
  have N0 := Fr.nil n0
  replace X0 : Stand p l e room_1 (s.setVm s.vm) m #[(.int mr), (.int wr), (.int pr), (.int cr), (.int er)] below meth c s₁ [] 0 0 := X0
  replace hZ : Z.Warmed39 (s.setVm s.vm).vm := hZ
  replace hown : (s.setVm s.vm).vm.findClass "com/example/fault/fault/EnvelopeNamedPinLaw" = some m.cls := hown
  have hS0 := own_since s
  have Le0 : own_Le s.heap.size h0 := Nat.le_of_eq (congrArg Array.size hh)
  show own_Endz p.tables e below (own_EndW Z s ["", "ERRORS_LIST", "SINGLE_ERROR", "PROBLEM", "errors-list", "single-error", "problem"] room_1.cells room_1.slots (Q0 Z mr wr pr cr er G1 ad0 ad1 ad2 al kl em nm0 nm1 nm2 h0 n0)) (s₁.setTop (entryFrame m #[(.int mr), (.int wr), (.int pr), (.int cr), (.int er)] maxLocals))
  refine own_cast (ef_0 m mr wr pr cr er) ?_
  have hws : ∀ d ∈ StrChars.Road.words, d.before a0 Z = true := fun d hd => hw d (own_wB d hd)
  have J155 : ∀ (TJ : State) (hJ : Heap) (lJ : List Loc) (vJ : Vm) (kJ : Nat) (mJ wJ : Int32) (xJ : Addr) (cs : List Int32) (s8 s9 : Slot) (XJ : Stand p l e room_1 (s.setVm vJ) m #[(.int mr), (.int wr), (.int pr), (.int cr), (.int er)] below meth c TJ lJ 6 80) (eJ : TJ.heap = hJ) (NJ : Fr n0 lJ) (ZJ : n0 ≤ hJ.size) (OJ : Old Z n0 hJ) (SnJ : s.Since vJ kJ) (LeJ : own_Le kJ hJ) (hZ : Z.Warmed39 (s.setVm vJ).vm) (hown : (s.setVm vJ).vm.findClass "com/example/fault/fault/EnvelopeNamedPinLaw" = some m.cls) (IJ : IB Z vJ ["", "ERRORS_LIST", "SINGLE_ERROR", "PROBLEM"]) (SxJ : own_St Z hJ xJ cs) (o8 : One s8) (o9 : One s9), own_Endz p.tables e below (own_EndW Z s ["", "ERRORS_LIST", "SINGLE_ERROR", "PROBLEM", "errors-list", "single-error", "problem"] room_1.cells room_1.slots (Q0 Z mr wr pr cr er G1 ad0 ad1 ad2 al kl em nm0 nm1 nm2 h0 n0)) (TJ.setTop (mkF m 155 #[iv mr, iv wr, iv pr, iv cr, iv er, iv mJ, iv wJ, rv xJ, s8, s9, .unset] [])) := by
    intro TJ hJ lJ vJ kJ mJ wJ xJ cs s8 s9 XJ eJ NJ ZJ OJ SnJ LeJ hZ hown IJ SxJ o8 o9
    refine own_go (b := TJ.setTop (mkF m 157 #[iv mr, iv wr, iv pr, iv cr, iv er, iv mJ, iv wJ, rv xJ, s8, s9, .unset] [(.ref xJ)])) (fun t k => XS.aload XJ.here hx rfl (hb hby at_155) rfl rfl k) ?_
    obtain ⟨_, _, ⟨T1, L1, k1, n1⟩, -, X1, hSa1, hG1, ⟨Lc1, ⟨hQ1, I1⟩, l1, y1, z1⟩, st1⟩ := callSS XJ hx (y := (⟨"com/example/fault/fault/EnvelopeNamedPinLaw", "expected", "(Ljava/lang/String;)I"⟩ : MethodName)) hown (mvT hZ (hw _ (List.mem_of_getElem? (i := 35) rfl))) (mvT hZ (hw _ (List.mem_of_getElem? (i := 36) rfl))) (mvT hZ (hw _ (List.mem_of_getElem? (i := 6) rfl))) (mvT hZ (hw _ (List.mem_of_getElem? (i := 37) rfl))) (by decide) (own_backS (W := 0) (rm8 l Z a0 hw [] xJ cs G1 hJ n0 ZJ OJ Hc hcw O2 P5 SxJ) hZ (own_IBm (Te := ["", "ERRORS_LIST", "SINGLE_ERROR", "PROBLEM"]) IJ rfl (by simp)) (hw _ (List.mem_of_getElem? (i := 37) rfl)) (hw _ (List.mem_of_getElem? (i := 6) rfl)) (by decide) (by decide)) (g := (mkF m 157 #[iv mr, iv wr, iv pr, iv cr, iv er, iv mJ, iv wJ, rv xJ, s8, s9, .unset] [(.ref xJ)])) rfl (by rw [hml]; rfl) (argsL := [(.ref xJ)]) (rest := []) (lenOf pd_8 rfl) rfl (by show 2 * 0 + _ ≤ _; exact Nat.le_of_eq rfl) (hb hby at_157) (fun _ _ => ⟨rfl, eJ, (by decide : 6 + 6 ≤ _), (by decide : 80 + 132 ≤ _)⟩)
    dsimp only [Pt.U, Pt.locs, Pt.cells, Pt.slots] at X1 l1 y1 z1 st1 hQ1 hSa1 hG1 I1
    subst l1 y1 z1
    obtain ⟨hS1, hZ, hown⟩ := own_reb SnJ (own_LeT LeJ eJ) hSa1 hG1 hZ hown
    have Le1 : own_Le T1.heap.size T1.heap := Nat.le_refl _
    obtain ⟨rfl, N1q, K1⟩ := hQ1
    have Zs1 : n0 ≤ T1.heap.size := Nat.le_trans ZJ K1.1
    have N1 := Fr.app NJ N1q
    have Ol1 := OJ.keep K1 all0
    obtain ⟨lq1, X1, N1⟩ : ∃ lq, Stand p l e room_1 (s.setVm T1.vm) m #[(.int mr), (.int wr), (.int pr), (.int cr), (.int er)] below meth c T1 lq 12 212 ∧ Fr n0 lq := ⟨_, X1, N1⟩
    refine own_tr (b := T1.setTop (mkF m 160 #[iv mr, iv wr, iv pr, iv cr, iv er, iv mJ, iv wJ, rv xJ, s8, s9, .unset] [(.int (own_exp cs))])) st1 ?_
    refine own_go (b := T1.setTop (mkF m 162 #[iv mr, iv wr, iv pr, iv cr, iv er, iv mJ, iv wJ, rv xJ, iv (own_exp cs), s9, .unset] [])) (fun t k => XS.istore X1.here hx rfl (hb hby at_160) rfl (l' := #[iv mr, iv wr, iv pr, iv cr, iv er, iv mJ, iv wJ, rv xJ, iv (own_exp cs), s9, .unset]) (XS.store1 (o := s8) rfl o8 rfl) k) ?_
    refine own_go (b := T1.setTop (mkF m 164 #[iv mr, iv wr, iv pr, iv cr, iv er, iv mJ, iv wJ, rv xJ, iv (own_exp cs), s9, .unset] [(.ref xJ)])) (fun t k => XS.aload X1.here hx rfl (hb hby at_162) rfl rfl k) ?_
    obtain ⟨_, _, ⟨T2, L2, k2, n2⟩, -, X2, ⟨Lc2, hQ2, l2, y2, z2⟩, st2⟩ := Jvm.LawKit.callS X1 hx (y := (⟨"com/example/fault/fault/Envelope", "named", "(Ljava/lang/String;)Ljava/util/Optional;"⟩ : MethodName)) hown (mvT hZ (hw _ (List.mem_of_getElem? (i := 51) rfl))) (mvT hZ (hw _ (List.mem_of_getElem? (i := 52) rfl))) (mvT hZ (hw _ (List.mem_of_getElem? (i := 53) rfl))) (mvT hZ (hw _ (List.mem_of_getElem? (i := 54) rfl))) (by decide) (backOf (W := 0) (rm11 l Z a0 hw [] xJ cs G1 ad0 ad1 ad2 al kl em nm0 nm1 nm2 T1.heap n0 Zs1 Ol1 O2 P5 Sv Ev Vv Sm Em Fm Fc0 Fc1 Fc2 Sn0 Sn1 Sn2 (SxJ.keep K1 nin0)) hZ (hw _ (List.mem_of_getElem? (i := 54) rfl)) (hw _ (List.mem_of_getElem? (i := 53) rfl)) (by decide) (by decide)) (g := (mkF m 164 #[iv mr, iv wr, iv pr, iv cr, iv er, iv mJ, iv wJ, rv xJ, iv (own_exp cs), s9, .unset] [(.ref xJ)])) rfl (by rw [hml]; rfl) (argsL := [(.ref xJ)]) (rest := []) (lenOf pd_9 rfl) rfl (by show 2 * 0 + _ ≤ _; exact Nat.le_of_eq rfl) (hb hby at_164) (fun _ _ => ⟨rfl, rfl, (by decide : 12 + 2 ≤ _), (by decide : 212 + 4 ≤ _)⟩)
    dsimp only [Pt.U, Pt.locs, Pt.cells, Pt.slots] at X2 l2 y2 z2 st2 hQ2
    subst l2 y2 z2
    obtain ⟨ro2, rfl, N2q, K2, Er2, Fo2⟩ := hQ2
    have Zs2 : n0 ≤ T2.heap.size := Nat.le_trans Zs1 K2.1
    have N2 := Fr.app N1 N2q
    have Ol2 := Ol1.keep K2 all0
    obtain ⟨lq2, X2, N2⟩ : ∃ lq, Stand p l e room_1 (s.setVm T1.vm) m #[(.int mr), (.int wr), (.int pr), (.int cr), (.int er)] below meth c T2 lq 14 216 ∧ Fr n0 lq := ⟨_, X2, N2⟩
    refine own_go (b := T2.setTop (mkF m 167 #[iv mr, iv wr, iv pr, iv cr, iv er, iv mJ, iv wJ, rv xJ, iv (own_exp cs), s9, .unset] [(.ref ro2)])) st2 ?_
    refine own_go (b := T2.setTop (mkF m 169 #[iv mr, iv wr, iv pr, iv cr, iv er, iv mJ, iv wJ, rv xJ, iv (own_exp cs), rv ro2, .unset] [])) (fun t k => XS.astore X2.here hx rfl (hb hby at_167) rfl rfl (l' := #[iv mr, iv wr, iv pr, iv cr, iv er, iv mJ, iv wJ, rv xJ, iv (own_exp cs), rv ro2, .unset]) (XS.store1 (o := s9) rfl o9 rfl) k) ?_
    by_cases hc3 : cs = own_n0
    · rw [show own_exp cs = (0 : Int32) by rw [own_exp, if_pos hc3]]
      have Fq : Fld Z T2.heap ro2 "java/util/Optional" "value" "Ljava/lang/Object;" (.ref ad0) := by have q := Fo2; rw [own_res, if_pos (Eq.symm hc3)] at q; exact q
      refine own_go (b := T2.setTop (mkF m 171 #[iv mr, iv wr, iv pr, iv cr, iv er, iv mJ, iv wJ, rv xJ, iv 0, rv ro2, .unset] [(.int 0)])) (fun t k => XS.iload X2.here hx rfl (hb hby at_169) rfl  k) ?_
      refine own_go (b := T2.setTop (mkF m 188 #[iv mr, iv wr, iv pr, iv cr, iv er, iv mJ, iv wJ, rv xJ, iv 0, rv ro2, .unset] [])) (fun t k => XS.ifYes X2.here hx rfl (pc0 := 171) (pc' := 188) rfl (hb hby at_171) rfl ((if0 _ _).trans (flt (by decide : ¬ ((0 : Int32) < (0 : Int32)))).2.1) (by decide) (by decide) k) ?_
      refine own_go (b := T2.setTop (mkF m 190 #[iv mr, iv wr, iv pr, iv cr, iv er, iv mJ, iv wJ, rv xJ, iv 0, rv ro2, .unset] [(.int 0)])) (fun t k => XS.iload X2.here hx rfl (hb hby at_188) rfl  k) ?_
      refine own_go (b := T2.setTop (mkF m 193 #[iv mr, iv wr, iv pr, iv cr, iv er, iv mJ, iv wJ, rv xJ, iv 0, rv ro2, .unset] [])) (fun t k => XS.ifNo X2.here hx rfl (hb hby at_190) rfl ((if0 _ _).trans (teq (rfl : (0 : Int32) = (0 : Int32))).2) k) ?_
      obtain ⟨T4, X4, e4, st4⟩ := getS2 X2 hx hZ hown (host := "") (Or.inl (hw _ (List.mem_of_getElem? (i := 93) rfl))) Via.refl rfl (Sd0.ext Ol2.2) (g := (mkF m 193 #[iv mr, iv wr, iv pr, iv cr, iv er, iv mJ, iv wJ, rv xJ, iv 0, rv ro2, .unset] [])) rfl (hb hby at_193)
      refine own_go (b := T4.setTop (mkF m 196 #[iv mr, iv wr, iv pr, iv cr, iv er, iv mJ, iv wJ, rv xJ, iv 0, rv ro2, .unset] [(.ref ad0)])) st4 ?_
      refine own_go (b := T4.setTop (mkF m 198 #[iv mr, iv wr, iv pr, iv cr, iv er, iv mJ, iv wJ, rv xJ, iv 0, rv ro2, rv ad0] [])) (fun t k => XS.astore X4.here hx rfl (hb hby at_196) rfl rfl (l' := #[iv mr, iv wr, iv pr, iv cr, iv er, iv mJ, iv wJ, rv xJ, iv 0, rv ro2, rv ad0]) rfl k) ?_
      refine own_go (b := T4.setTop (mkF m 220 #[iv mr, iv wr, iv pr, iv cr, iv er, iv mJ, iv wJ, rv xJ, iv 0, rv ro2, rv ad0] [])) (fun t k => XS.goto X4.here hx rfl (pc0 := 198) (pc' := 220) rfl (hb hby at_198) (by decide) (by decide) k) ?_
      refine own_go (b := T4.setTop (mkF m 222 #[iv mr, iv wr, iv pr, iv cr, iv er, iv mJ, iv wJ, rv xJ, iv 0, rv ro2, rv ad0] [(.ref ro2)])) (fun t k => XS.aload X4.here hx rfl (hb hby at_220) rfl rfl k) ?_
      obtain ⟨cq5, kq5, q5a, q5b, q5c⟩ := isOf hZ e4 Er2
      obtain ⟨_, _, ⟨T5, L5, k5, n5⟩, -, X5, ⟨Lc5, hQ5, l5, y5, z5⟩, st5⟩ := X4.virtualBack hx (y := (⟨"java/util/Optional", "isPresent", "()Z"⟩ : MethodName)) (z := (⟨"java/util/Optional", "isPresent", "()Z"⟩ : MethodName)) hown (mvT hZ (hw _ (List.mem_of_getElem? (i := 94) rfl))) (mvT hZ (hw _ (List.mem_of_getElem? (i := 95) rfl))) (notFace_of_selects (args := #[]) (mvT hZ (hw _ (List.mem_of_getElem? (i := 97) rfl)))) (mvT hZ (hw _ (List.mem_of_getElem? (i := 97) rfl))) (mvT hZ (hw _ (List.mem_of_getElem? (i := 96) rfl))) (by decide) (backOf (W := 0) (rm16v l Z a0 hw [] ro2 ad0 T2.heap n0 Zs2 Fq) hZ (hw _ (List.mem_of_getElem? (i := 98) rfl)) (hw _ (List.mem_of_getElem? (i := 78) rfl)) (by decide) (by decide)) q5a q5c (g := (mkF m 222 #[iv mr, iv wr, iv pr, iv cr, iv er, iv mJ, iv wJ, rv xJ, iv 0, rv ro2, rv ad0] [(.ref ro2)])) rfl (by rw [hml]; rfl) (Steps.refl _) (argsL := []) (rest := []) (lenOf pd_10 rfl) rfl (by show 2 * 0 + _ ≤ _; exact Nat.le_of_eq rfl) (hb hby at_222) (fun _ _ => ⟨rfl, e4, (by decide : 14 + 0 ≤ _), (by decide : 216 + 0 ≤ _)⟩)
      dsimp only [Pt.U, Pt.locs, Pt.cells, Pt.slots] at X5 l5 y5 z5 st5 hQ5
      subst l5 y5 z5
      obtain ⟨rfl, N5q, e5⟩ := hQ5
      have N5 := Fr.app N2 N5q
      obtain ⟨lq5, X5, N5⟩ : ∃ lq, Stand p l e room_1 (s.setVm T1.vm) m #[(.int mr), (.int wr), (.int pr), (.int cr), (.int er)] below meth c T5 lq 14 216 ∧ Fr n0 lq := ⟨_, X5, N5⟩
      refine own_tr (b := T5.setTop (mkF m 225 #[iv mr, iv wr, iv pr, iv cr, iv er, iv mJ, iv wJ, rv xJ, iv 0, rv ro2, rv ad0] [(.int 1)])) st5 ?_
      refine own_go (b := T5.setTop (mkF m 228 #[iv mr, iv wr, iv pr, iv cr, iv er, iv mJ, iv wJ, rv xJ, iv 0, rv ro2, rv ad0] [])) (fun t k => XS.ifNo X5.here hx rfl (hb hby at_225) rfl ((if0 _ _).trans (feq (by decide : ¬ ((1 : Int32) = (0 : Int32)))).1) k) ?_
      refine own_go (b := T5.setTop (mkF m 230 #[iv mr, iv wr, iv pr, iv cr, iv er, iv mJ, iv wJ, rv xJ, iv 0, rv ro2, rv ad0] [(.ref ro2)])) (fun t k => XS.aload X5.here hx rfl (hb hby at_228) rfl rfl k) ?_
      obtain ⟨cq6, kq6, q6a, q6b, q6c⟩ := isOf hZ e5 Er2
      obtain ⟨_, _, ⟨T6, L6, k6, n6⟩, -, X6, ⟨Lc6, hQ6, l6, y6, z6⟩, st6⟩ := X5.virtualBack hx (y := (⟨"java/util/Optional", "get", "()Ljava/lang/Object;"⟩ : MethodName)) (z := (⟨"java/util/Optional", "get", "()Ljava/lang/Object;"⟩ : MethodName)) hown (mvT hZ (hw _ (List.mem_of_getElem? (i := 99) rfl))) (mvT hZ (hw _ (List.mem_of_getElem? (i := 100) rfl))) (notFace_of_selects (args := #[]) (mvT hZ (hw _ (List.mem_of_getElem? (i := 102) rfl)))) (mvT hZ (hw _ (List.mem_of_getElem? (i := 102) rfl))) (mvT hZ (hw _ (List.mem_of_getElem? (i := 101) rfl))) (by decide) (backOf (W := 0) (rm17 l Z a0 hw [] ro2 ad0 T2.heap n0 Zs2 Fq) hZ (hw _ (List.mem_of_getElem? (i := 103) rfl)) (hw _ (List.mem_of_getElem? (i := 78) rfl)) (by decide) (by decide)) q6a q6c (g := (mkF m 230 #[iv mr, iv wr, iv pr, iv cr, iv er, iv mJ, iv wJ, rv xJ, iv 0, rv ro2, rv ad0] [(.ref ro2)])) rfl (by rw [hml]; rfl) (Steps.refl _) (argsL := []) (rest := []) (lenOf pd_11 rfl) rfl (by show 2 * 0 + _ ≤ _; exact Nat.le_of_eq rfl) (hb hby at_230) (fun _ _ => ⟨rfl, e5, (by decide : 14 + 0 ≤ _), (by decide : 216 + 0 ≤ _)⟩)
      dsimp only [Pt.U, Pt.locs, Pt.cells, Pt.slots] at X6 l6 y6 z6 st6 hQ6
      subst l6 y6 z6
      obtain ⟨rfl, N6q, e6⟩ := hQ6
      have N6 := Fr.app N5 N6q
      obtain ⟨lq6, X6, N6⟩ : ∃ lq, Stand p l e room_1 (s.setVm T1.vm) m #[(.int mr), (.int wr), (.int pr), (.int cr), (.int er)] below meth c T6 lq 14 216 ∧ Fr n0 lq := ⟨_, X6, N6⟩
      refine own_tr (b := T6.setTop (mkF m 233 #[iv mr, iv wr, iv pr, iv cr, iv er, iv mJ, iv wJ, rv xJ, iv 0, rv ro2, rv ad0] [(.ref ad0)])) st6 ?_
      refine own_go (b := T6.setTop (mkF m 235 #[iv mr, iv wr, iv pr, iv cr, iv er, iv mJ, iv wJ, rv xJ, iv 0, rv ro2, rv ad0] [(.ref ad0), (.ref ad0)])) (fun t k => XS.aload X6.here hx rfl (hb hby at_233) rfl rfl k) ?_
      refine own_go (b := T6.setTop (mkF m 238 #[iv mr, iv wr, iv pr, iv cr, iv er, iv mJ, iv wJ, rv xJ, iv 0, rv ro2, rv ad0] [])) (fun t k => Jvm.RoadKit.acmp (g := (mkF m 235 #[iv mr, iv wr, iv pr, iv cr, iv er, iv mJ, iv wJ, rv xJ, iv 0, rv ro2, rv ad0] [(.ref ad0), (.ref ad0)])) X6 hx rfl rfl rfl (pc0 := 235) (pc' := 238) (same := true) rfl (hb hby at_235) rfl (decide_eq_true rfl) (by decide) (by decide) k) ?_
      refine own_go (b := T6.setTop (mkF m 239 #[iv mr, iv wr, iv pr, iv cr, iv er, iv mJ, iv wJ, rv xJ, iv 0, rv ro2, rv ad0] [(.int 1)])) (fun t k => XS.iconst X6.here hx rfl (hb hby at_238) k) ?_
      refine own_go (b := T6.setTop (mkF m 243 #[iv mr, iv wr, iv pr, iv cr, iv er, iv mJ, iv wJ, rv xJ, iv 0, rv ro2, rv ad0] [(.int 1)])) (fun t k => XS.goto X6.here hx rfl (pc0 := 239) (pc' := 243) rfl (hb hby at_239) (by decide) (by decide) k) ?_
      exact own_retNW X6 hx hlk hS1 (own_LeT (Le1.keep K2) e6) I1 (by simp) (t := .boolean) hrt (by simp) (hb hby at_243) (Nat.le_of_ble_eq_true rfl) (Nat.le_of_ble_eq_true rfl) (⟨rfl, N6⟩)
    · by_cases hc7 : cs = own_n1
      · rw [show own_exp cs = (1 : Int32) by rw [own_exp, if_neg hc3, if_pos hc7]]
        have Fq : Fld Z T2.heap ro2 "java/util/Optional" "value" "Ljava/lang/Object;" (.ref ad1) := by have q := Fo2; rw [own_res, if_neg (fun q => hc3 q.symm), if_pos (Eq.symm hc7)] at q; exact q
        refine own_go (b := T2.setTop (mkF m 171 #[iv mr, iv wr, iv pr, iv cr, iv er, iv mJ, iv wJ, rv xJ, iv 1, rv ro2, .unset] [(.int 1)])) (fun t k => XS.iload X2.here hx rfl (hb hby at_169) rfl  k) ?_
        refine own_go (b := T2.setTop (mkF m 188 #[iv mr, iv wr, iv pr, iv cr, iv er, iv mJ, iv wJ, rv xJ, iv 1, rv ro2, .unset] [])) (fun t k => XS.ifYes X2.here hx rfl (pc0 := 171) (pc' := 188) rfl (hb hby at_171) rfl ((if0 _ _).trans (flt (by decide : ¬ ((1 : Int32) < (0 : Int32)))).2.1) (by decide) (by decide) k) ?_
        refine own_go (b := T2.setTop (mkF m 190 #[iv mr, iv wr, iv pr, iv cr, iv er, iv mJ, iv wJ, rv xJ, iv 1, rv ro2, .unset] [(.int 1)])) (fun t k => XS.iload X2.here hx rfl (hb hby at_188) rfl  k) ?_
        refine own_go (b := T2.setTop (mkF m 201 #[iv mr, iv wr, iv pr, iv cr, iv er, iv mJ, iv wJ, rv xJ, iv 1, rv ro2, .unset] [])) (fun t k => XS.ifYes X2.here hx rfl (pc0 := 190) (pc' := 201) rfl (hb hby at_190) rfl ((if0 _ _).trans (feq (by decide : ¬ ((1 : Int32) = (0 : Int32)))).2) (by decide) (by decide) k) ?_
        refine own_go (b := T2.setTop (mkF m 203 #[iv mr, iv wr, iv pr, iv cr, iv er, iv mJ, iv wJ, rv xJ, iv 1, rv ro2, .unset] [(.int 1)])) (fun t k => XS.iload X2.here hx rfl (hb hby at_201) rfl  k) ?_
        refine own_go (b := T2.setTop (mkF m 204 #[iv mr, iv wr, iv pr, iv cr, iv er, iv mJ, iv wJ, rv xJ, iv 1, rv ro2, .unset] [(.int 1), (.int 1)])) (fun t k => XS.iconst X2.here hx rfl (hb hby at_203) k) ?_
        refine own_go (b := T2.setTop (mkF m 207 #[iv mr, iv wr, iv pr, iv cr, iv er, iv mJ, iv wJ, rv xJ, iv 1, rv ro2, .unset] [])) (fun t k => XS.icmpNo X2.here hx rfl (hb hby at_204) rfl (teq (rfl : (1 : Int32) = (1 : Int32))).2 k) ?_
        obtain ⟨T8, X8, e8, st8⟩ := getS2 X2 hx hZ hown (host := "") (Or.inl (hw _ (List.mem_of_getElem? (i := 116) rfl))) Via.refl rfl (Sd1.ext Ol2.2) (g := (mkF m 207 #[iv mr, iv wr, iv pr, iv cr, iv er, iv mJ, iv wJ, rv xJ, iv 1, rv ro2, .unset] [])) rfl (hb hby at_207)
        refine own_go (b := T8.setTop (mkF m 210 #[iv mr, iv wr, iv pr, iv cr, iv er, iv mJ, iv wJ, rv xJ, iv 1, rv ro2, .unset] [(.ref ad1)])) st8 ?_
        refine own_go (b := T8.setTop (mkF m 212 #[iv mr, iv wr, iv pr, iv cr, iv er, iv mJ, iv wJ, rv xJ, iv 1, rv ro2, rv ad1] [])) (fun t k => XS.astore X8.here hx rfl (hb hby at_210) rfl rfl (l' := #[iv mr, iv wr, iv pr, iv cr, iv er, iv mJ, iv wJ, rv xJ, iv 1, rv ro2, rv ad1]) rfl k) ?_
        refine own_go (b := T8.setTop (mkF m 220 #[iv mr, iv wr, iv pr, iv cr, iv er, iv mJ, iv wJ, rv xJ, iv 1, rv ro2, rv ad1] [])) (fun t k => XS.goto X8.here hx rfl (pc0 := 212) (pc' := 220) rfl (hb hby at_212) (by decide) (by decide) k) ?_
        refine own_go (b := T8.setTop (mkF m 222 #[iv mr, iv wr, iv pr, iv cr, iv er, iv mJ, iv wJ, rv xJ, iv 1, rv ro2, rv ad1] [(.ref ro2)])) (fun t k => XS.aload X8.here hx rfl (hb hby at_220) rfl rfl k) ?_
        obtain ⟨cq9, kq9, q9a, q9b, q9c⟩ := isOf hZ e8 Er2
        obtain ⟨_, _, ⟨T9, L9, k9, n9⟩, -, X9, ⟨Lc9, hQ9, l9, y9, z9⟩, st9⟩ := X8.virtualBack hx (y := (⟨"java/util/Optional", "isPresent", "()Z"⟩ : MethodName)) (z := (⟨"java/util/Optional", "isPresent", "()Z"⟩ : MethodName)) hown (mvT hZ (hw _ (List.mem_of_getElem? (i := 94) rfl))) (mvT hZ (hw _ (List.mem_of_getElem? (i := 95) rfl))) (notFace_of_selects (args := #[]) (mvT hZ (hw _ (List.mem_of_getElem? (i := 97) rfl)))) (mvT hZ (hw _ (List.mem_of_getElem? (i := 97) rfl))) (mvT hZ (hw _ (List.mem_of_getElem? (i := 96) rfl))) (by decide) (backOf (W := 0) (rm16v l Z a0 hw [] ro2 ad1 T2.heap n0 Zs2 Fq) hZ (hw _ (List.mem_of_getElem? (i := 98) rfl)) (hw _ (List.mem_of_getElem? (i := 78) rfl)) (by decide) (by decide)) q9a q9c (g := (mkF m 222 #[iv mr, iv wr, iv pr, iv cr, iv er, iv mJ, iv wJ, rv xJ, iv 1, rv ro2, rv ad1] [(.ref ro2)])) rfl (by rw [hml]; rfl) (Steps.refl _) (argsL := []) (rest := []) (lenOf pd_10 rfl) rfl (by show 2 * 0 + _ ≤ _; exact Nat.le_of_eq rfl) (hb hby at_222) (fun _ _ => ⟨rfl, e8, (by decide : 14 + 0 ≤ _), (by decide : 216 + 0 ≤ _)⟩)
        dsimp only [Pt.U, Pt.locs, Pt.cells, Pt.slots] at X9 l9 y9 z9 st9 hQ9
        subst l9 y9 z9
        obtain ⟨rfl, N9q, e9⟩ := hQ9
        have N9 := Fr.app N2 N9q
        obtain ⟨lq9, X9, N9⟩ : ∃ lq, Stand p l e room_1 (s.setVm T1.vm) m #[(.int mr), (.int wr), (.int pr), (.int cr), (.int er)] below meth c T9 lq 14 216 ∧ Fr n0 lq := ⟨_, X9, N9⟩
        refine own_tr (b := T9.setTop (mkF m 225 #[iv mr, iv wr, iv pr, iv cr, iv er, iv mJ, iv wJ, rv xJ, iv 1, rv ro2, rv ad1] [(.int 1)])) st9 ?_
        refine own_go (b := T9.setTop (mkF m 228 #[iv mr, iv wr, iv pr, iv cr, iv er, iv mJ, iv wJ, rv xJ, iv 1, rv ro2, rv ad1] [])) (fun t k => XS.ifNo X9.here hx rfl (hb hby at_225) rfl ((if0 _ _).trans (feq (by decide : ¬ ((1 : Int32) = (0 : Int32)))).1) k) ?_
        refine own_go (b := T9.setTop (mkF m 230 #[iv mr, iv wr, iv pr, iv cr, iv er, iv mJ, iv wJ, rv xJ, iv 1, rv ro2, rv ad1] [(.ref ro2)])) (fun t k => XS.aload X9.here hx rfl (hb hby at_228) rfl rfl k) ?_
        obtain ⟨cq10, kq10, q10a, q10b, q10c⟩ := isOf hZ e9 Er2
        obtain ⟨_, _, ⟨T10, L10, k10, n10⟩, -, X10, ⟨Lc10, hQ10, l10, y10, z10⟩, st10⟩ := X9.virtualBack hx (y := (⟨"java/util/Optional", "get", "()Ljava/lang/Object;"⟩ : MethodName)) (z := (⟨"java/util/Optional", "get", "()Ljava/lang/Object;"⟩ : MethodName)) hown (mvT hZ (hw _ (List.mem_of_getElem? (i := 99) rfl))) (mvT hZ (hw _ (List.mem_of_getElem? (i := 100) rfl))) (notFace_of_selects (args := #[]) (mvT hZ (hw _ (List.mem_of_getElem? (i := 102) rfl)))) (mvT hZ (hw _ (List.mem_of_getElem? (i := 102) rfl))) (mvT hZ (hw _ (List.mem_of_getElem? (i := 101) rfl))) (by decide) (backOf (W := 0) (rm17 l Z a0 hw [] ro2 ad1 T2.heap n0 Zs2 Fq) hZ (hw _ (List.mem_of_getElem? (i := 103) rfl)) (hw _ (List.mem_of_getElem? (i := 78) rfl)) (by decide) (by decide)) q10a q10c (g := (mkF m 230 #[iv mr, iv wr, iv pr, iv cr, iv er, iv mJ, iv wJ, rv xJ, iv 1, rv ro2, rv ad1] [(.ref ro2)])) rfl (by rw [hml]; rfl) (Steps.refl _) (argsL := []) (rest := []) (lenOf pd_11 rfl) rfl (by show 2 * 0 + _ ≤ _; exact Nat.le_of_eq rfl) (hb hby at_230) (fun _ _ => ⟨rfl, e9, (by decide : 14 + 0 ≤ _), (by decide : 216 + 0 ≤ _)⟩)
        dsimp only [Pt.U, Pt.locs, Pt.cells, Pt.slots] at X10 l10 y10 z10 st10 hQ10
        subst l10 y10 z10
        obtain ⟨rfl, N10q, e10⟩ := hQ10
        have N10 := Fr.app N9 N10q
        obtain ⟨lq10, X10, N10⟩ : ∃ lq, Stand p l e room_1 (s.setVm T1.vm) m #[(.int mr), (.int wr), (.int pr), (.int cr), (.int er)] below meth c T10 lq 14 216 ∧ Fr n0 lq := ⟨_, X10, N10⟩
        refine own_tr (b := T10.setTop (mkF m 233 #[iv mr, iv wr, iv pr, iv cr, iv er, iv mJ, iv wJ, rv xJ, iv 1, rv ro2, rv ad1] [(.ref ad1)])) st10 ?_
        refine own_go (b := T10.setTop (mkF m 235 #[iv mr, iv wr, iv pr, iv cr, iv er, iv mJ, iv wJ, rv xJ, iv 1, rv ro2, rv ad1] [(.ref ad1), (.ref ad1)])) (fun t k => XS.aload X10.here hx rfl (hb hby at_233) rfl rfl k) ?_
        refine own_go (b := T10.setTop (mkF m 238 #[iv mr, iv wr, iv pr, iv cr, iv er, iv mJ, iv wJ, rv xJ, iv 1, rv ro2, rv ad1] [])) (fun t k => Jvm.RoadKit.acmp (g := (mkF m 235 #[iv mr, iv wr, iv pr, iv cr, iv er, iv mJ, iv wJ, rv xJ, iv 1, rv ro2, rv ad1] [(.ref ad1), (.ref ad1)])) X10 hx rfl rfl rfl (pc0 := 235) (pc' := 238) (same := true) rfl (hb hby at_235) rfl (decide_eq_true rfl) (by decide) (by decide) k) ?_
        refine own_go (b := T10.setTop (mkF m 239 #[iv mr, iv wr, iv pr, iv cr, iv er, iv mJ, iv wJ, rv xJ, iv 1, rv ro2, rv ad1] [(.int 1)])) (fun t k => XS.iconst X10.here hx rfl (hb hby at_238) k) ?_
        refine own_go (b := T10.setTop (mkF m 243 #[iv mr, iv wr, iv pr, iv cr, iv er, iv mJ, iv wJ, rv xJ, iv 1, rv ro2, rv ad1] [(.int 1)])) (fun t k => XS.goto X10.here hx rfl (pc0 := 239) (pc' := 243) rfl (hb hby at_239) (by decide) (by decide) k) ?_
        exact own_retNW X10 hx hlk hS1 (own_LeT (Le1.keep K2) e10) I1 (by simp) (t := .boolean) hrt (by simp) (hb hby at_243) (Nat.le_of_ble_eq_true rfl) (Nat.le_of_ble_eq_true rfl) (⟨rfl, N10⟩)
      · by_cases hc11 : cs = own_n2
        · rw [show own_exp cs = (2 : Int32) by rw [own_exp, if_neg hc3, if_neg hc7, if_pos hc11]]
          have Fq : Fld Z T2.heap ro2 "java/util/Optional" "value" "Ljava/lang/Object;" (.ref ad2) := by have q := Fo2; rw [own_res, if_neg (fun q => hc3 q.symm), if_neg (fun q => hc7 q.symm), if_pos (Eq.symm hc11)] at q; exact q
          refine own_go (b := T2.setTop (mkF m 171 #[iv mr, iv wr, iv pr, iv cr, iv er, iv mJ, iv wJ, rv xJ, iv 2, rv ro2, .unset] [(.int 2)])) (fun t k => XS.iload X2.here hx rfl (hb hby at_169) rfl  k) ?_
          refine own_go (b := T2.setTop (mkF m 188 #[iv mr, iv wr, iv pr, iv cr, iv er, iv mJ, iv wJ, rv xJ, iv 2, rv ro2, .unset] [])) (fun t k => XS.ifYes X2.here hx rfl (pc0 := 171) (pc' := 188) rfl (hb hby at_171) rfl ((if0 _ _).trans (flt (by decide : ¬ ((2 : Int32) < (0 : Int32)))).2.1) (by decide) (by decide) k) ?_
          refine own_go (b := T2.setTop (mkF m 190 #[iv mr, iv wr, iv pr, iv cr, iv er, iv mJ, iv wJ, rv xJ, iv 2, rv ro2, .unset] [(.int 2)])) (fun t k => XS.iload X2.here hx rfl (hb hby at_188) rfl  k) ?_
          refine own_go (b := T2.setTop (mkF m 201 #[iv mr, iv wr, iv pr, iv cr, iv er, iv mJ, iv wJ, rv xJ, iv 2, rv ro2, .unset] [])) (fun t k => XS.ifYes X2.here hx rfl (pc0 := 190) (pc' := 201) rfl (hb hby at_190) rfl ((if0 _ _).trans (feq (by decide : ¬ ((2 : Int32) = (0 : Int32)))).2) (by decide) (by decide) k) ?_
          refine own_go (b := T2.setTop (mkF m 203 #[iv mr, iv wr, iv pr, iv cr, iv er, iv mJ, iv wJ, rv xJ, iv 2, rv ro2, .unset] [(.int 2)])) (fun t k => XS.iload X2.here hx rfl (hb hby at_201) rfl  k) ?_
          refine own_go (b := T2.setTop (mkF m 204 #[iv mr, iv wr, iv pr, iv cr, iv er, iv mJ, iv wJ, rv xJ, iv 2, rv ro2, .unset] [(.int 1), (.int 2)])) (fun t k => XS.iconst X2.here hx rfl (hb hby at_203) k) ?_
          refine own_go (b := T2.setTop (mkF m 215 #[iv mr, iv wr, iv pr, iv cr, iv er, iv mJ, iv wJ, rv xJ, iv 2, rv ro2, .unset] [])) (fun t k => XS.icmpYes X2.here hx rfl (pc0 := 204) (pc' := 215) rfl (hb hby at_204) rfl (feq (by decide : ¬ ((2 : Int32) = (1 : Int32)))).2 (by decide) (by decide) k) ?_
          obtain ⟨T12, X12, e12, st12⟩ := getS2 X2 hx hZ hown (host := "") (Or.inl (hw _ (List.mem_of_getElem? (i := 117) rfl))) Via.refl rfl (Sd2.ext Ol2.2) (g := (mkF m 215 #[iv mr, iv wr, iv pr, iv cr, iv er, iv mJ, iv wJ, rv xJ, iv 2, rv ro2, .unset] [])) rfl (hb hby at_215)
          refine own_go (b := T12.setTop (mkF m 218 #[iv mr, iv wr, iv pr, iv cr, iv er, iv mJ, iv wJ, rv xJ, iv 2, rv ro2, .unset] [(.ref ad2)])) st12 ?_
          refine own_go (b := T12.setTop (mkF m 220 #[iv mr, iv wr, iv pr, iv cr, iv er, iv mJ, iv wJ, rv xJ, iv 2, rv ro2, rv ad2] [])) (fun t k => XS.astore X12.here hx rfl (hb hby at_218) rfl rfl (l' := #[iv mr, iv wr, iv pr, iv cr, iv er, iv mJ, iv wJ, rv xJ, iv 2, rv ro2, rv ad2]) rfl k) ?_
          refine own_go (b := T12.setTop (mkF m 222 #[iv mr, iv wr, iv pr, iv cr, iv er, iv mJ, iv wJ, rv xJ, iv 2, rv ro2, rv ad2] [(.ref ro2)])) (fun t k => XS.aload X12.here hx rfl (hb hby at_220) rfl rfl k) ?_
          obtain ⟨cq13, kq13, q13a, q13b, q13c⟩ := isOf hZ e12 Er2
          obtain ⟨_, _, ⟨T13, L13, k13, n13⟩, -, X13, ⟨Lc13, hQ13, l13, y13, z13⟩, st13⟩ := X12.virtualBack hx (y := (⟨"java/util/Optional", "isPresent", "()Z"⟩ : MethodName)) (z := (⟨"java/util/Optional", "isPresent", "()Z"⟩ : MethodName)) hown (mvT hZ (hw _ (List.mem_of_getElem? (i := 94) rfl))) (mvT hZ (hw _ (List.mem_of_getElem? (i := 95) rfl))) (notFace_of_selects (args := #[]) (mvT hZ (hw _ (List.mem_of_getElem? (i := 97) rfl)))) (mvT hZ (hw _ (List.mem_of_getElem? (i := 97) rfl))) (mvT hZ (hw _ (List.mem_of_getElem? (i := 96) rfl))) (by decide) (backOf (W := 0) (rm16v l Z a0 hw [] ro2 ad2 T2.heap n0 Zs2 Fq) hZ (hw _ (List.mem_of_getElem? (i := 98) rfl)) (hw _ (List.mem_of_getElem? (i := 78) rfl)) (by decide) (by decide)) q13a q13c (g := (mkF m 222 #[iv mr, iv wr, iv pr, iv cr, iv er, iv mJ, iv wJ, rv xJ, iv 2, rv ro2, rv ad2] [(.ref ro2)])) rfl (by rw [hml]; rfl) (Steps.refl _) (argsL := []) (rest := []) (lenOf pd_10 rfl) rfl (by show 2 * 0 + _ ≤ _; exact Nat.le_of_eq rfl) (hb hby at_222) (fun _ _ => ⟨rfl, e12, (by decide : 14 + 0 ≤ _), (by decide : 216 + 0 ≤ _)⟩)
          dsimp only [Pt.U, Pt.locs, Pt.cells, Pt.slots] at X13 l13 y13 z13 st13 hQ13
          subst l13 y13 z13
          obtain ⟨rfl, N13q, e13⟩ := hQ13
          have N13 := Fr.app N2 N13q
          obtain ⟨lq13, X13, N13⟩ : ∃ lq, Stand p l e room_1 (s.setVm T1.vm) m #[(.int mr), (.int wr), (.int pr), (.int cr), (.int er)] below meth c T13 lq 14 216 ∧ Fr n0 lq := ⟨_, X13, N13⟩
          refine own_tr (b := T13.setTop (mkF m 225 #[iv mr, iv wr, iv pr, iv cr, iv er, iv mJ, iv wJ, rv xJ, iv 2, rv ro2, rv ad2] [(.int 1)])) st13 ?_
          refine own_go (b := T13.setTop (mkF m 228 #[iv mr, iv wr, iv pr, iv cr, iv er, iv mJ, iv wJ, rv xJ, iv 2, rv ro2, rv ad2] [])) (fun t k => XS.ifNo X13.here hx rfl (hb hby at_225) rfl ((if0 _ _).trans (feq (by decide : ¬ ((1 : Int32) = (0 : Int32)))).1) k) ?_
          refine own_go (b := T13.setTop (mkF m 230 #[iv mr, iv wr, iv pr, iv cr, iv er, iv mJ, iv wJ, rv xJ, iv 2, rv ro2, rv ad2] [(.ref ro2)])) (fun t k => XS.aload X13.here hx rfl (hb hby at_228) rfl rfl k) ?_
          obtain ⟨cq14, kq14, q14a, q14b, q14c⟩ := isOf hZ e13 Er2
          obtain ⟨_, _, ⟨T14, L14, k14, n14⟩, -, X14, ⟨Lc14, hQ14, l14, y14, z14⟩, st14⟩ := X13.virtualBack hx (y := (⟨"java/util/Optional", "get", "()Ljava/lang/Object;"⟩ : MethodName)) (z := (⟨"java/util/Optional", "get", "()Ljava/lang/Object;"⟩ : MethodName)) hown (mvT hZ (hw _ (List.mem_of_getElem? (i := 99) rfl))) (mvT hZ (hw _ (List.mem_of_getElem? (i := 100) rfl))) (notFace_of_selects (args := #[]) (mvT hZ (hw _ (List.mem_of_getElem? (i := 102) rfl)))) (mvT hZ (hw _ (List.mem_of_getElem? (i := 102) rfl))) (mvT hZ (hw _ (List.mem_of_getElem? (i := 101) rfl))) (by decide) (backOf (W := 0) (rm17 l Z a0 hw [] ro2 ad2 T2.heap n0 Zs2 Fq) hZ (hw _ (List.mem_of_getElem? (i := 103) rfl)) (hw _ (List.mem_of_getElem? (i := 78) rfl)) (by decide) (by decide)) q14a q14c (g := (mkF m 230 #[iv mr, iv wr, iv pr, iv cr, iv er, iv mJ, iv wJ, rv xJ, iv 2, rv ro2, rv ad2] [(.ref ro2)])) rfl (by rw [hml]; rfl) (Steps.refl _) (argsL := []) (rest := []) (lenOf pd_11 rfl) rfl (by show 2 * 0 + _ ≤ _; exact Nat.le_of_eq rfl) (hb hby at_230) (fun _ _ => ⟨rfl, e13, (by decide : 14 + 0 ≤ _), (by decide : 216 + 0 ≤ _)⟩)
          dsimp only [Pt.U, Pt.locs, Pt.cells, Pt.slots] at X14 l14 y14 z14 st14 hQ14
          subst l14 y14 z14
          obtain ⟨rfl, N14q, e14⟩ := hQ14
          have N14 := Fr.app N13 N14q
          obtain ⟨lq14, X14, N14⟩ : ∃ lq, Stand p l e room_1 (s.setVm T1.vm) m #[(.int mr), (.int wr), (.int pr), (.int cr), (.int er)] below meth c T14 lq 14 216 ∧ Fr n0 lq := ⟨_, X14, N14⟩
          refine own_tr (b := T14.setTop (mkF m 233 #[iv mr, iv wr, iv pr, iv cr, iv er, iv mJ, iv wJ, rv xJ, iv 2, rv ro2, rv ad2] [(.ref ad2)])) st14 ?_
          refine own_go (b := T14.setTop (mkF m 235 #[iv mr, iv wr, iv pr, iv cr, iv er, iv mJ, iv wJ, rv xJ, iv 2, rv ro2, rv ad2] [(.ref ad2), (.ref ad2)])) (fun t k => XS.aload X14.here hx rfl (hb hby at_233) rfl rfl k) ?_
          refine own_go (b := T14.setTop (mkF m 238 #[iv mr, iv wr, iv pr, iv cr, iv er, iv mJ, iv wJ, rv xJ, iv 2, rv ro2, rv ad2] [])) (fun t k => Jvm.RoadKit.acmp (g := (mkF m 235 #[iv mr, iv wr, iv pr, iv cr, iv er, iv mJ, iv wJ, rv xJ, iv 2, rv ro2, rv ad2] [(.ref ad2), (.ref ad2)])) X14 hx rfl rfl rfl (pc0 := 235) (pc' := 238) (same := true) rfl (hb hby at_235) rfl (decide_eq_true rfl) (by decide) (by decide) k) ?_
          refine own_go (b := T14.setTop (mkF m 239 #[iv mr, iv wr, iv pr, iv cr, iv er, iv mJ, iv wJ, rv xJ, iv 2, rv ro2, rv ad2] [(.int 1)])) (fun t k => XS.iconst X14.here hx rfl (hb hby at_238) k) ?_
          refine own_go (b := T14.setTop (mkF m 243 #[iv mr, iv wr, iv pr, iv cr, iv er, iv mJ, iv wJ, rv xJ, iv 2, rv ro2, rv ad2] [(.int 1)])) (fun t k => XS.goto X14.here hx rfl (pc0 := 239) (pc' := 243) rfl (hb hby at_239) (by decide) (by decide) k) ?_
          exact own_retNW X14 hx hlk hS1 (own_LeT (Le1.keep K2) e14) I1 (by simp) (t := .boolean) hrt (by simp) (hb hby at_243) (Nat.le_of_ble_eq_true rfl) (Nat.le_of_ble_eq_true rfl) (⟨rfl, N14⟩)
        · rw [show own_exp cs = (-1 : Int32) by rw [own_exp, if_neg hc3, if_neg hc7, if_neg hc11]]
          have Fq : Fld Z T2.heap ro2 "java/util/Optional" "value" "Ljava/lang/Object;" .null := by have q := Fo2; rw [own_res, if_neg (fun q => hc3 q.symm), if_neg (fun q => hc7 q.symm), if_neg (fun q => hc11 q.symm)] at q; exact q
          refine own_go (b := T2.setTop (mkF m 171 #[iv mr, iv wr, iv pr, iv cr, iv er, iv mJ, iv wJ, rv xJ, iv (-1), rv ro2, .unset] [(.int (-1))])) (fun t k => XS.iload X2.here hx rfl (hb hby at_169) rfl  k) ?_
          refine own_go (b := T2.setTop (mkF m 174 #[iv mr, iv wr, iv pr, iv cr, iv er, iv mJ, iv wJ, rv xJ, iv (-1), rv ro2, .unset] [])) (fun t k => XS.ifNo X2.here hx rfl (hb hby at_171) rfl ((if0 _ _).trans (tlt (by decide : (-1 : Int32) < (0 : Int32))).2.1) k) ?_
          refine own_go (b := T2.setTop (mkF m 176 #[iv mr, iv wr, iv pr, iv cr, iv er, iv mJ, iv wJ, rv xJ, iv (-1), rv ro2, .unset] [(.ref ro2)])) (fun t k => XS.aload X2.here hx rfl (hb hby at_174) rfl rfl k) ?_
          obtain ⟨cq15, kq15, q15a, q15b, q15c⟩ := isOf hZ rfl Er2
          obtain ⟨_, _, ⟨T15, L15, k15, n15⟩, -, X15, ⟨Lc15, hQ15, l15, y15, z15⟩, st15⟩ := X2.virtualBack hx (y := (⟨"java/util/Optional", "isPresent", "()Z"⟩ : MethodName)) (z := (⟨"java/util/Optional", "isPresent", "()Z"⟩ : MethodName)) hown (mvT hZ (hw _ (List.mem_of_getElem? (i := 94) rfl))) (mvT hZ (hw _ (List.mem_of_getElem? (i := 95) rfl))) (notFace_of_selects (args := #[]) (mvT hZ (hw _ (List.mem_of_getElem? (i := 97) rfl)))) (mvT hZ (hw _ (List.mem_of_getElem? (i := 97) rfl))) (mvT hZ (hw _ (List.mem_of_getElem? (i := 96) rfl))) (by decide) (backOf (W := 0) (rm16n l Z a0 hw [] ro2  T2.heap n0 Zs2 Fq) hZ (hw _ (List.mem_of_getElem? (i := 98) rfl)) (hw _ (List.mem_of_getElem? (i := 78) rfl)) (by decide) (by decide)) q15a q15c (g := (mkF m 176 #[iv mr, iv wr, iv pr, iv cr, iv er, iv mJ, iv wJ, rv xJ, iv (-1), rv ro2, .unset] [(.ref ro2)])) rfl (by rw [hml]; rfl) (Steps.refl _) (argsL := []) (rest := []) (lenOf pd_10 rfl) rfl (by show 2 * 0 + _ ≤ _; exact Nat.le_of_eq rfl) (hb hby at_176) (fun _ _ => ⟨rfl, rfl, (by decide : 14 + 0 ≤ _), (by decide : 216 + 0 ≤ _)⟩)
          dsimp only [Pt.U, Pt.locs, Pt.cells, Pt.slots] at X15 l15 y15 z15 st15 hQ15
          subst l15 y15 z15
          obtain ⟨rfl, N15q, e15⟩ := hQ15
          have N15 := Fr.app N2 N15q
          obtain ⟨lq15, X15, N15⟩ : ∃ lq, Stand p l e room_1 (s.setVm T1.vm) m #[(.int mr), (.int wr), (.int pr), (.int cr), (.int er)] below meth c T15 lq 14 216 ∧ Fr n0 lq := ⟨_, X15, N15⟩
          refine own_tr (b := T15.setTop (mkF m 179 #[iv mr, iv wr, iv pr, iv cr, iv er, iv mJ, iv wJ, rv xJ, iv (-1), rv ro2, .unset] [(.int 0)])) st15 ?_
          refine own_go (b := T15.setTop (mkF m 182 #[iv mr, iv wr, iv pr, iv cr, iv er, iv mJ, iv wJ, rv xJ, iv (-1), rv ro2, .unset] [])) (fun t k => XS.ifNo X15.here hx rfl (hb hby at_179) rfl ((if0 _ _).trans (teq (rfl : (0 : Int32) = (0 : Int32))).2) k) ?_
          refine own_go (b := T15.setTop (mkF m 183 #[iv mr, iv wr, iv pr, iv cr, iv er, iv mJ, iv wJ, rv xJ, iv (-1), rv ro2, .unset] [(.int 1)])) (fun t k => XS.iconst X15.here hx rfl (hb hby at_182) k) ?_
          refine own_go (b := T15.setTop (mkF m 187 #[iv mr, iv wr, iv pr, iv cr, iv er, iv mJ, iv wJ, rv xJ, iv (-1), rv ro2, .unset] [(.int 1)])) (fun t k => XS.goto X15.here hx rfl (pc0 := 183) (pc' := 187) rfl (hb hby at_183) (by decide) (by decide) k) ?_
          exact own_retNW X15 hx hlk hS1 (own_LeT (Le1.keep K2) e15) I1 (by simp) (t := .boolean) hrt (by simp) (hb hby at_187) (Nat.le_of_ble_eq_true rfl) (Nat.le_of_ble_eq_true rfl) (⟨rfl, N15⟩)
  refine own_go (b := s₁.setTop (mkF m 1 #[iv mr, iv wr, iv pr, iv cr, iv er, .unset, .unset, .unset, .unset, .unset, .unset] [(.int mr)])) (fun t k => XS.iloadN X0.here hx rfl (hb hby at_0) rfl  k) ?_
  refine own_go (b := s₁.setTop (mkF m 3 #[iv mr, iv wr, iv pr, iv cr, iv er, .unset, .unset, .unset, .unset, .unset, .unset] [(.int 2147483647), (.int mr)])) (fun t k => X0.ldcInt hx hown (mvT hZ (hw _ (List.mem_of_getElem? (i := 0) rfl))) (g := (mkF m 1 #[iv mr, iv wr, iv pr, iv cr, iv er, .unset, .unset, .unset, .unset, .unset, .unset] [(.int mr)])) rfl (hb hby at_1) t k) ?_
  refine own_go (b := s₁.setTop (mkF m 4 #[iv mr, iv wr, iv pr, iv cr, iv er, .unset, .unset, .unset, .unset, .unset, .unset] [(.int (mr &&& (2147483647 : Int32)))])) (fun t k => XS.iand X0.here hx rfl (hb hby at_3) rfl k) ?_
  refine own_go (b := s₁.setTop (mkF m 5 #[iv mr, iv wr, iv pr, iv cr, iv er, .unset, .unset, .unset, .unset, .unset, .unset] [(.int 5), (.int (mr &&& (2147483647 : Int32)))])) (fun t k => XS.iconst X0.here hx rfl (hb hby at_4) k) ?_
  refine own_go (b := s₁.setTop (mkF m 6 #[iv mr, iv wr, iv pr, iv cr, iv er, .unset, .unset, .unset, .unset, .unset, .unset] [(.int ((mr &&& (2147483647 : Int32)) % (5 : Int32)))])) (fun t k => iremM X0 hx rfl (hb hby at_5) rfl (by decide) k) ?_
  refine own_go (b := s₁.setTop (mkF m 8 #[iv mr, iv wr, iv pr, iv cr, iv er, iv ((mr &&& (2147483647 : Int32)) % (5 : Int32)), .unset, .unset, .unset, .unset, .unset] [])) (fun t k => XS.istore X0.here hx rfl (hb hby at_6) rfl (l' := #[iv mr, iv wr, iv pr, iv cr, iv er, iv ((mr &&& (2147483647 : Int32)) % (5 : Int32)), .unset, .unset, .unset, .unset, .unset]) rfl k) ?_
  refine own_go (b := s₁.setTop (mkF m 9 #[iv mr, iv wr, iv pr, iv cr, iv er, iv ((mr &&& (2147483647 : Int32)) % (5 : Int32)), .unset, .unset, .unset, .unset, .unset] [(.int wr)])) (fun t k => XS.iloadN X0.here hx rfl (hb hby at_8) rfl  k) ?_
  refine own_go (b := s₁.setTop (mkF m 11 #[iv mr, iv wr, iv pr, iv cr, iv er, iv ((mr &&& (2147483647 : Int32)) % (5 : Int32)), .unset, .unset, .unset, .unset, .unset] [(.int 2147483647), (.int wr)])) (fun t k => X0.ldcInt hx hown (mvT hZ (hw _ (List.mem_of_getElem? (i := 0) rfl))) (g := (mkF m 9 #[iv mr, iv wr, iv pr, iv cr, iv er, iv ((mr &&& (2147483647 : Int32)) % (5 : Int32)), .unset, .unset, .unset, .unset, .unset] [(.int wr)])) rfl (hb hby at_9) t k) ?_
  refine own_go (b := s₁.setTop (mkF m 12 #[iv mr, iv wr, iv pr, iv cr, iv er, iv ((mr &&& (2147483647 : Int32)) % (5 : Int32)), .unset, .unset, .unset, .unset, .unset] [(.int (wr &&& (2147483647 : Int32)))])) (fun t k => XS.iand X0.here hx rfl (hb hby at_11) rfl k) ?_
  refine own_go (b := s₁.setTop (mkF m 13 #[iv mr, iv wr, iv pr, iv cr, iv er, iv ((mr &&& (2147483647 : Int32)) % (5 : Int32)), .unset, .unset, .unset, .unset, .unset] [(.int 3), (.int (wr &&& (2147483647 : Int32)))])) (fun t k => XS.iconst X0.here hx rfl (hb hby at_12) k) ?_
  refine own_go (b := s₁.setTop (mkF m 14 #[iv mr, iv wr, iv pr, iv cr, iv er, iv ((mr &&& (2147483647 : Int32)) % (5 : Int32)), .unset, .unset, .unset, .unset, .unset] [(.int ((wr &&& (2147483647 : Int32)) % (3 : Int32)))])) (fun t k => iremM X0 hx rfl (hb hby at_13) rfl (by decide) k) ?_
  refine own_go (b := s₁.setTop (mkF m 16 #[iv mr, iv wr, iv pr, iv cr, iv er, iv ((mr &&& (2147483647 : Int32)) % (5 : Int32)), iv ((wr &&& (2147483647 : Int32)) % (3 : Int32)), .unset, .unset, .unset, .unset] [])) (fun t k => XS.istore X0.here hx rfl (hb hby at_14) rfl (l' := #[iv mr, iv wr, iv pr, iv cr, iv er, iv ((mr &&& (2147483647 : Int32)) % (5 : Int32)), iv ((wr &&& (2147483647 : Int32)) % (3 : Int32)), .unset, .unset, .unset, .unset]) rfl k) ?_
  obtain ⟨js16, hj16, hX16⟩ := own_r5 mr
  match js16, hj16, hX16 with
  | 0, _, hX16 =>
    replace hX16 : ((mr &&& (2147483647 : Int32)) % (5 : Int32)) = (0 : Int32) := hX16
    rw [hX16]
    refine own_go (b := s₁.setTop (mkF m 18 #[iv mr, iv wr, iv pr, iv cr, iv er, iv 0, iv ((wr &&& (2147483647 : Int32)) % (3 : Int32)), .unset, .unset, .unset, .unset] [(.int 0)])) (fun t k => XS.iload X0.here hx rfl (hb hby at_16) rfl  k) ?_
    refine own_go (b := s₁.setTop (mkF m 21 #[iv mr, iv wr, iv pr, iv cr, iv er, iv 0, iv ((wr &&& (2147483647 : Int32)) % (3 : Int32)), .unset, .unset, .unset, .unset] [])) (fun t k => XS.ifNo X0.here hx rfl (hb hby at_18) rfl ((if0 _ _).trans (teq (rfl : (0 : Int32) = (0 : Int32))).2) k) ?_
    obtain ⟨js17, hj17, hX17⟩ := own_r3 wr
    match js17, hj17, hX17 with
    | 0, _, hX17 =>
      replace hX17 : ((wr &&& (2147483647 : Int32)) % (3 : Int32)) = (0 : Int32) := hX17
      rw [hX17]
      obtain ⟨T18, h18, X18, e18, E18, A18, D18, -, st18⟩ := newO X0 hx hZ hown (hw _ (List.mem_of_getElem? (i := 1) rfl)) (hw _ (List.mem_of_getElem? (i := 2) rfl)) (hw _ (List.mem_of_getElem? (i := 3) rfl)) e0 (g := (mkF m 21 #[iv mr, iv wr, iv pr, iv cr, iv er, iv 0, iv 0, .unset, .unset, .unset, .unset] [])) rfl (hb hby at_21) (by decide) (by decide)
      obtain ⟨b18, g18⟩ : ∃ z, z = h0.size := ⟨_, rfl⟩
      rw [← g18] at A18 D18 st18
      have g_b18 : n0 ≤ b18 := Nat.le_trans Z0 (Nat.le_of_eq g18.symm)
      have Zs18 : n0 ≤ h18.size := Nat.le_trans Z0 E18.1
      have Ol18 := Od.ext E18
      have F_coder_b18 : Fld Z h18 b18 "java/lang/String" "coder" "B" (.int 0) := D18 (Or.inr (hw _ (List.mem_of_getElem? (i := 32) rfl))) (ty := .byte) (by decide)
      have F_value_b18 : Fld Z h18 b18 "java/lang/String" "value" "[B" .null := D18 (Or.inr (hw _ (List.mem_of_getElem? (i := 34) rfl))) (ty := (.array .byte)) (by decide)
      refine own_go (b := T18.setTop (mkF m 24 #[iv mr, iv wr, iv pr, iv cr, iv er, iv 0, iv 0, .unset, .unset, .unset, .unset] [(.ref b18)])) st18 ?_
      refine own_go (b := T18.setTop (mkF m 25 #[iv mr, iv wr, iv pr, iv cr, iv er, iv 0, iv 0, .unset, .unset, .unset, .unset] [(.ref b18), (.ref b18)])) (fun t k => XS.dup X18.here hx rfl (hb hby at_24) rfl rfl k) ?_
      refine own_go (b := T18.setTop (mkF m 27 #[iv mr, iv wr, iv pr, iv cr, iv er, iv 0, iv 0, .unset, .unset, .unset, .unset] [(.int 0), (.ref b18), (.ref b18)])) (fun t k => XS.iload X18.here hx rfl (hb hby at_25) rfl  k) ?_
      obtain ⟨_, _, ⟨T19, L19, k19, n19⟩, -, X19, ⟨Lc19, hQ19, l19, y19, z19⟩, st19⟩ := Jvm.LawKit.callS X18 hx (y := (⟨"com/example/fault/fault/EnvelopeNamedPinLaw", "base", "(I)[C"⟩ : MethodName)) hown (mvT hZ (hw _ (List.mem_of_getElem? (i := 4) rfl))) (mvT hZ (hw _ (List.mem_of_getElem? (i := 5) rfl))) (mvT hZ (hw _ (List.mem_of_getElem? (i := 6) rfl))) (mvT hZ (hw _ (List.mem_of_getElem? (i := 7) rfl))) (by decide) (backOf (W := 2) (rm1_0 l Z a0 hw [] (0 : Int32)  h18 n0 Zs18 rfl) hZ (hw _ (List.mem_of_getElem? (i := 7) rfl)) (hw _ (List.mem_of_getElem? (i := 6) rfl)) (by decide) (by decide)) (g := (mkF m 27 #[iv mr, iv wr, iv pr, iv cr, iv er, iv 0, iv 0, .unset, .unset, .unset, .unset] [(.int 0), (.ref b18), (.ref b18)])) rfl (by rw [hml]; rfl) (argsL := [(.int 0)]) (rest := [(.ref b18), (.ref b18)]) (lenOf pd_12 rfl) rfl (by show 2 * 0 + _ ≤ _; exact Nat.le_of_eq rfl) (hb hby at_27) (fun _ _ => ⟨rfl, e18, (by decide : 1 + 1 ≤ _), (by decide : 4 + 11 ≤ _)⟩)
      dsimp only [Pt.U, Pt.locs, Pt.cells, Pt.slots] at X19 l19 y19 z19 st19 hQ19
      subst l19 y19 z19
      obtain ⟨ba19, kc19, rfl, N19q, K19, g_ba19, sz_ba19, Va19⟩ := hQ19
      have Zs19 : n0 ≤ T19.heap.size := Nat.le_trans Zs18 K19.1
      have N19 := Fr.app N0 N19q
      have Ol19 := Ol18.keep K19 all0
      obtain ⟨lq19, X19, N19⟩ : ∃ lq, Stand p l e room_1 (s.setVm s.vm) m #[(.int mr), (.int wr), (.int pr), (.int cr), (.int er)] below meth c T19 lq 2 15 ∧ Fr n0 lq := ⟨_, X19, N19⟩
      refine own_go (b := T19.setTop (mkF m 30 #[iv mr, iv wr, iv pr, iv cr, iv er, iv 0, iv 0, .unset, .unset, .unset, .unset] [(.ref ba19), (.ref b18), (.ref b18)])) st19 ?_
      have hp21 : ∀ c ∈ ([(nar .char (101 : Int32)), (nar .char (114 : Int32)), (nar .char (114 : Int32)), (nar .char (111 : Int32)), (nar .char (114 : Int32)), (nar .char (115 : Int32)), (nar .char (45 : Int32)), (nar .char (108 : Int32)), (nar .char (105 : Int32)), (nar .char (115 : Int32)), (nar .char (116 : Int32))] : List Int32), ¬ c < 0 ∧ ¬ (255 : Int32) < c := by
        intro c hc
        simp only [List.mem_cons, List.not_mem_nil, or_false] at hc
        rcases hc with rfl | rfl | rfl | rfl | rfl | rfl | rfl | rfl | rfl | rfl | rfl
        · exact (by decide +kernel)
        · exact (by decide +kernel)
        · exact (by decide +kernel)
        · exact (by decide +kernel)
        · exact (by decide +kernel)
        · exact (by decide +kernel)
        · exact (by decide +kernel)
        · exact (by decide +kernel)
        · exact (by decide +kernel)
        · exact (by decide +kernel)
        · exact (by decide +kernel)
      obtain ⟨_, _, ⟨T20, L20, k20, n20⟩, -, X20, ⟨Lc20, hQ20, l20, y20, z20⟩, st20⟩ := X19.specialBack hx (y := (⟨"java/lang/String", "<init>", "([C)V"⟩ : MethodName)) rfl hown (mvT hZ (hw _ (List.mem_of_getElem? (i := 9) rfl))) (mvT hZ (hw _ (List.mem_of_getElem? (i := 10) rfl))) (mvT hZ (hw _ (List.mem_of_getElem? (i := 11) rfl))) (by decide) (StrChars.Road.backV (W := 1) hZ hws (kI := 4) (hw _ (List.mem_of_getElem? (i := 2) rfl)) (cs := ([(nar .char (101 : Int32)), (nar .char (114 : Int32)), (nar .char (114 : Int32)), (nar .char (111 : Int32)), (nar .char (114 : Int32)), (nar .char (115 : Int32)), (nar .char (45 : Int32)), (nar .char (108 : Int32)), (nar .char (105 : Int32)), (nar .char (115 : Int32)), (nar .char (116 : Int32))] : List Int32)) (bs := (([(nar .char (101 : Int32)), (nar .char (114 : Int32)), (nar .char (114 : Int32)), (nar .char (111 : Int32)), (nar .char (114 : Int32)), (nar .char (115 : Int32)), (nar .char (45 : Int32)), (nar .char (108 : Int32)), (nar .char (105 : Int32)), (nar .char (115 : Int32)), (nar .char (116 : Int32))] : List Int32)).map (fun c => c.toInt8.toInt32)) (n := 11) g_b18 Zs19 (A18.keep K19) (F_value_b18.keep K19 nin0) (F_coder_b18.keep K19 nin0) Va19 (O2.ext Ol19.2) P5 rfl rfl (by decide) (by decide) hp21 rfl (by decide) (by decide)) (g := (mkF m 30 #[iv mr, iv wr, iv pr, iv cr, iv er, iv 0, iv 0, .unset, .unset, .unset, .unset] [(.ref ba19), (.ref b18), (.ref b18)])) rfl (by rw [hml]; rfl) (Steps.refl _) (a := b18) (argsL := [(.ref ba19)]) (rest := [(.ref b18)]) (lenOf pd_13 rfl) rfl (by show 2 * 0 + _ ≤ _; exact Nat.le_of_eq rfl) (hb hby at_30) (fun _ _ => ⟨rfl, rfl, (by decide : 2 + 1 ≤ _), (by decide : 15 + 11 ≤ _)⟩)
      dsimp only [Pt.U, Pt.locs, Pt.cells, Pt.slots] at X20 l20 y20 z20 st20 hQ20
      subst l20 y20 z20
      obtain ⟨rfl, N20q, K20, Es20, Cs20, t20, kb20, ua20, ub20, uc20, Vs20, Ks20⟩ := hQ20
      have Zs20 : n0 ≤ T20.heap.size := Nat.le_trans Zs19 K20.1
      have N20 := Fr.app N19 N20q
      have Ol20 := Ol19.keep K20 (allS g_b18 all0)
      obtain ⟨lq20, X20, N20⟩ : ∃ lq, Stand p l e room_1 (s.setVm s.vm) m #[(.int mr), (.int wr), (.int pr), (.int cr), (.int er)] below meth c T20 lq 3 26 ∧ Fr n0 lq := ⟨_, X20, N20⟩
      refine own_tr (b := T20.setTop (mkF m 33 #[iv mr, iv wr, iv pr, iv cr, iv er, iv 0, iv 0, .unset, .unset, .unset, .unset] [(.ref b18)])) st20 ?_
      refine own_go (b := T20.setTop (mkF m 35 #[iv mr, iv wr, iv pr, iv cr, iv er, iv 0, iv 0, rv b18, .unset, .unset, .unset] [])) (fun t k => XS.astore X20.here hx rfl (hb hby at_33) rfl rfl (l' := #[iv mr, iv wr, iv pr, iv cr, iv er, iv 0, iv 0, rv b18, .unset, .unset, .unset]) rfl k) ?_
      refine own_go (b := T20.setTop (mkF m 155 #[iv mr, iv wr, iv pr, iv cr, iv er, iv 0, iv 0, rv b18, .unset, .unset, .unset] [])) (fun t k => XS.goto X20.here hx rfl (pc0 := 35) (pc' := 155) rfl (hb hby at_35) (by decide) (by decide) k) ?_
      exact J155 T20 T20.heap _ s.vm _ (0 : Int32) (0 : Int32) b18 ([(nar .char (101 : Int32)), (nar .char (114 : Int32)), (nar .char (114 : Int32)), (nar .char (111 : Int32)), (nar .char (114 : Int32)), (nar .char (115 : Int32)), (nar .char (45 : Int32)), (nar .char (108 : Int32)), (nar .char (105 : Int32)), (nar .char (115 : Int32)), (nar .char (116 : Int32))] : List Int32) (.unset) (.unset) (own_mono X20 (by decide) (by decide)) rfl N20 Zs20 Ol20 hS0 (((Le0.ext E18).keep K19).keep K20) hZ hown (own_IBm I0 rfl (by simp)) ⟨t20, _, Es20, Vs20, Cs20, Ks20, hp21, (Nat.le_of_ble_eq_true rfl)⟩ (Or.inl rfl) (Or.inl rfl)
    | 1, _, hX17 =>
      replace hX17 : ((wr &&& (2147483647 : Int32)) % (3 : Int32)) = (1 : Int32) := hX17
      rw [hX17]
      obtain ⟨T22, h22, X22, e22, E22, A22, D22, -, st22⟩ := newO X0 hx hZ hown (hw _ (List.mem_of_getElem? (i := 1) rfl)) (hw _ (List.mem_of_getElem? (i := 2) rfl)) (hw _ (List.mem_of_getElem? (i := 3) rfl)) e0 (g := (mkF m 21 #[iv mr, iv wr, iv pr, iv cr, iv er, iv 0, iv 1, .unset, .unset, .unset, .unset] [])) rfl (hb hby at_21) (by decide) (by decide)
      obtain ⟨b22, g22⟩ : ∃ z, z = h0.size := ⟨_, rfl⟩
      rw [← g22] at A22 D22 st22
      have g_b22 : n0 ≤ b22 := Nat.le_trans Z0 (Nat.le_of_eq g22.symm)
      have Zs22 : n0 ≤ h22.size := Nat.le_trans Z0 E22.1
      have Ol22 := Od.ext E22
      have F_coder_b22 : Fld Z h22 b22 "java/lang/String" "coder" "B" (.int 0) := D22 (Or.inr (hw _ (List.mem_of_getElem? (i := 32) rfl))) (ty := .byte) (by decide)
      have F_value_b22 : Fld Z h22 b22 "java/lang/String" "value" "[B" .null := D22 (Or.inr (hw _ (List.mem_of_getElem? (i := 34) rfl))) (ty := (.array .byte)) (by decide)
      refine own_go (b := T22.setTop (mkF m 24 #[iv mr, iv wr, iv pr, iv cr, iv er, iv 0, iv 1, .unset, .unset, .unset, .unset] [(.ref b22)])) st22 ?_
      refine own_go (b := T22.setTop (mkF m 25 #[iv mr, iv wr, iv pr, iv cr, iv er, iv 0, iv 1, .unset, .unset, .unset, .unset] [(.ref b22), (.ref b22)])) (fun t k => XS.dup X22.here hx rfl (hb hby at_24) rfl rfl k) ?_
      refine own_go (b := T22.setTop (mkF m 27 #[iv mr, iv wr, iv pr, iv cr, iv er, iv 0, iv 1, .unset, .unset, .unset, .unset] [(.int 1), (.ref b22), (.ref b22)])) (fun t k => XS.iload X22.here hx rfl (hb hby at_25) rfl  k) ?_
      obtain ⟨_, _, ⟨T23, L23, k23, n23⟩, -, X23, ⟨Lc23, hQ23, l23, y23, z23⟩, st23⟩ := Jvm.LawKit.callS X22 hx (y := (⟨"com/example/fault/fault/EnvelopeNamedPinLaw", "base", "(I)[C"⟩ : MethodName)) hown (mvT hZ (hw _ (List.mem_of_getElem? (i := 4) rfl))) (mvT hZ (hw _ (List.mem_of_getElem? (i := 5) rfl))) (mvT hZ (hw _ (List.mem_of_getElem? (i := 6) rfl))) (mvT hZ (hw _ (List.mem_of_getElem? (i := 7) rfl))) (by decide) (backOf (W := 2) (rm1_1 l Z a0 hw [] (1 : Int32)  h22 n0 Zs22 rfl) hZ (hw _ (List.mem_of_getElem? (i := 7) rfl)) (hw _ (List.mem_of_getElem? (i := 6) rfl)) (by decide) (by decide)) (g := (mkF m 27 #[iv mr, iv wr, iv pr, iv cr, iv er, iv 0, iv 1, .unset, .unset, .unset, .unset] [(.int 1), (.ref b22), (.ref b22)])) rfl (by rw [hml]; rfl) (argsL := [(.int 1)]) (rest := [(.ref b22), (.ref b22)]) (lenOf pd_12 rfl) rfl (by show 2 * 0 + _ ≤ _; exact Nat.le_of_eq rfl) (hb hby at_27) (fun _ _ => ⟨rfl, e22, (by decide : 1 + 1 ≤ _), (by decide : 4 + 12 ≤ _)⟩)
      dsimp only [Pt.U, Pt.locs, Pt.cells, Pt.slots] at X23 l23 y23 z23 st23 hQ23
      subst l23 y23 z23
      obtain ⟨ba23, kc23, rfl, N23q, K23, g_ba23, sz_ba23, Va23⟩ := hQ23
      have Zs23 : n0 ≤ T23.heap.size := Nat.le_trans Zs22 K23.1
      have N23 := Fr.app N0 N23q
      have Ol23 := Ol22.keep K23 all0
      obtain ⟨lq23, X23, N23⟩ : ∃ lq, Stand p l e room_1 (s.setVm s.vm) m #[(.int mr), (.int wr), (.int pr), (.int cr), (.int er)] below meth c T23 lq 2 16 ∧ Fr n0 lq := ⟨_, X23, N23⟩
      refine own_go (b := T23.setTop (mkF m 30 #[iv mr, iv wr, iv pr, iv cr, iv er, iv 0, iv 1, .unset, .unset, .unset, .unset] [(.ref ba23), (.ref b22), (.ref b22)])) st23 ?_
      have hp25 : ∀ c ∈ ([(nar .char (115 : Int32)), (nar .char (105 : Int32)), (nar .char (110 : Int32)), (nar .char (103 : Int32)), (nar .char (108 : Int32)), (nar .char (101 : Int32)), (nar .char (45 : Int32)), (nar .char (101 : Int32)), (nar .char (114 : Int32)), (nar .char (114 : Int32)), (nar .char (111 : Int32)), (nar .char (114 : Int32))] : List Int32), ¬ c < 0 ∧ ¬ (255 : Int32) < c := by
        intro c hc
        simp only [List.mem_cons, List.not_mem_nil, or_false] at hc
        rcases hc with rfl | rfl | rfl | rfl | rfl | rfl | rfl | rfl | rfl | rfl | rfl | rfl
        · exact (by decide +kernel)
        · exact (by decide +kernel)
        · exact (by decide +kernel)
        · exact (by decide +kernel)
        · exact (by decide +kernel)
        · exact (by decide +kernel)
        · exact (by decide +kernel)
        · exact (by decide +kernel)
        · exact (by decide +kernel)
        · exact (by decide +kernel)
        · exact (by decide +kernel)
        · exact (by decide +kernel)
      obtain ⟨_, _, ⟨T24, L24, k24, n24⟩, -, X24, ⟨Lc24, hQ24, l24, y24, z24⟩, st24⟩ := X23.specialBack hx (y := (⟨"java/lang/String", "<init>", "([C)V"⟩ : MethodName)) rfl hown (mvT hZ (hw _ (List.mem_of_getElem? (i := 9) rfl))) (mvT hZ (hw _ (List.mem_of_getElem? (i := 10) rfl))) (mvT hZ (hw _ (List.mem_of_getElem? (i := 11) rfl))) (by decide) (StrChars.Road.backV (W := 1) hZ hws (kI := 4) (hw _ (List.mem_of_getElem? (i := 2) rfl)) (cs := ([(nar .char (115 : Int32)), (nar .char (105 : Int32)), (nar .char (110 : Int32)), (nar .char (103 : Int32)), (nar .char (108 : Int32)), (nar .char (101 : Int32)), (nar .char (45 : Int32)), (nar .char (101 : Int32)), (nar .char (114 : Int32)), (nar .char (114 : Int32)), (nar .char (111 : Int32)), (nar .char (114 : Int32))] : List Int32)) (bs := (([(nar .char (115 : Int32)), (nar .char (105 : Int32)), (nar .char (110 : Int32)), (nar .char (103 : Int32)), (nar .char (108 : Int32)), (nar .char (101 : Int32)), (nar .char (45 : Int32)), (nar .char (101 : Int32)), (nar .char (114 : Int32)), (nar .char (114 : Int32)), (nar .char (111 : Int32)), (nar .char (114 : Int32))] : List Int32)).map (fun c => c.toInt8.toInt32)) (n := 12) g_b22 Zs23 (A22.keep K23) (F_value_b22.keep K23 nin0) (F_coder_b22.keep K23 nin0) Va23 (O2.ext Ol23.2) P5 rfl rfl (by decide) (by decide) hp25 rfl (by decide) (by decide)) (g := (mkF m 30 #[iv mr, iv wr, iv pr, iv cr, iv er, iv 0, iv 1, .unset, .unset, .unset, .unset] [(.ref ba23), (.ref b22), (.ref b22)])) rfl (by rw [hml]; rfl) (Steps.refl _) (a := b22) (argsL := [(.ref ba23)]) (rest := [(.ref b22)]) (lenOf pd_13 rfl) rfl (by show 2 * 0 + _ ≤ _; exact Nat.le_of_eq rfl) (hb hby at_30) (fun _ _ => ⟨rfl, rfl, (by decide : 2 + 1 ≤ _), (by decide : 16 + 12 ≤ _)⟩)
      dsimp only [Pt.U, Pt.locs, Pt.cells, Pt.slots] at X24 l24 y24 z24 st24 hQ24
      subst l24 y24 z24
      obtain ⟨rfl, N24q, K24, Es24, Cs24, t24, kb24, ua24, ub24, uc24, Vs24, Ks24⟩ := hQ24
      have Zs24 : n0 ≤ T24.heap.size := Nat.le_trans Zs23 K24.1
      have N24 := Fr.app N23 N24q
      have Ol24 := Ol23.keep K24 (allS g_b22 all0)
      obtain ⟨lq24, X24, N24⟩ : ∃ lq, Stand p l e room_1 (s.setVm s.vm) m #[(.int mr), (.int wr), (.int pr), (.int cr), (.int er)] below meth c T24 lq 3 28 ∧ Fr n0 lq := ⟨_, X24, N24⟩
      refine own_tr (b := T24.setTop (mkF m 33 #[iv mr, iv wr, iv pr, iv cr, iv er, iv 0, iv 1, .unset, .unset, .unset, .unset] [(.ref b22)])) st24 ?_
      refine own_go (b := T24.setTop (mkF m 35 #[iv mr, iv wr, iv pr, iv cr, iv er, iv 0, iv 1, rv b22, .unset, .unset, .unset] [])) (fun t k => XS.astore X24.here hx rfl (hb hby at_33) rfl rfl (l' := #[iv mr, iv wr, iv pr, iv cr, iv er, iv 0, iv 1, rv b22, .unset, .unset, .unset]) rfl k) ?_
      refine own_go (b := T24.setTop (mkF m 155 #[iv mr, iv wr, iv pr, iv cr, iv er, iv 0, iv 1, rv b22, .unset, .unset, .unset] [])) (fun t k => XS.goto X24.here hx rfl (pc0 := 35) (pc' := 155) rfl (hb hby at_35) (by decide) (by decide) k) ?_
      exact J155 T24 T24.heap _ s.vm _ (0 : Int32) (1 : Int32) b22 ([(nar .char (115 : Int32)), (nar .char (105 : Int32)), (nar .char (110 : Int32)), (nar .char (103 : Int32)), (nar .char (108 : Int32)), (nar .char (101 : Int32)), (nar .char (45 : Int32)), (nar .char (101 : Int32)), (nar .char (114 : Int32)), (nar .char (114 : Int32)), (nar .char (111 : Int32)), (nar .char (114 : Int32))] : List Int32) (.unset) (.unset) (own_mono X24 (by decide) (by decide)) rfl N24 Zs24 Ol24 hS0 (((Le0.ext E22).keep K23).keep K24) hZ hown (own_IBm I0 rfl (by simp)) ⟨t24, _, Es24, Vs24, Cs24, Ks24, hp25, (Nat.le_of_ble_eq_true rfl)⟩ (Or.inl rfl) (Or.inl rfl)
    | 2, _, hX17 =>
      replace hX17 : ((wr &&& (2147483647 : Int32)) % (3 : Int32)) = (2 : Int32) := hX17
      rw [hX17]
      obtain ⟨T26, h26, X26, e26, E26, A26, D26, -, st26⟩ := newO X0 hx hZ hown (hw _ (List.mem_of_getElem? (i := 1) rfl)) (hw _ (List.mem_of_getElem? (i := 2) rfl)) (hw _ (List.mem_of_getElem? (i := 3) rfl)) e0 (g := (mkF m 21 #[iv mr, iv wr, iv pr, iv cr, iv er, iv 0, iv 2, .unset, .unset, .unset, .unset] [])) rfl (hb hby at_21) (by decide) (by decide)
      obtain ⟨b26, g26⟩ : ∃ z, z = h0.size := ⟨_, rfl⟩
      rw [← g26] at A26 D26 st26
      have g_b26 : n0 ≤ b26 := Nat.le_trans Z0 (Nat.le_of_eq g26.symm)
      have Zs26 : n0 ≤ h26.size := Nat.le_trans Z0 E26.1
      have Ol26 := Od.ext E26
      have F_coder_b26 : Fld Z h26 b26 "java/lang/String" "coder" "B" (.int 0) := D26 (Or.inr (hw _ (List.mem_of_getElem? (i := 32) rfl))) (ty := .byte) (by decide)
      have F_value_b26 : Fld Z h26 b26 "java/lang/String" "value" "[B" .null := D26 (Or.inr (hw _ (List.mem_of_getElem? (i := 34) rfl))) (ty := (.array .byte)) (by decide)
      refine own_go (b := T26.setTop (mkF m 24 #[iv mr, iv wr, iv pr, iv cr, iv er, iv 0, iv 2, .unset, .unset, .unset, .unset] [(.ref b26)])) st26 ?_
      refine own_go (b := T26.setTop (mkF m 25 #[iv mr, iv wr, iv pr, iv cr, iv er, iv 0, iv 2, .unset, .unset, .unset, .unset] [(.ref b26), (.ref b26)])) (fun t k => XS.dup X26.here hx rfl (hb hby at_24) rfl rfl k) ?_
      refine own_go (b := T26.setTop (mkF m 27 #[iv mr, iv wr, iv pr, iv cr, iv er, iv 0, iv 2, .unset, .unset, .unset, .unset] [(.int 2), (.ref b26), (.ref b26)])) (fun t k => XS.iload X26.here hx rfl (hb hby at_25) rfl  k) ?_
      obtain ⟨_, _, ⟨T27, L27, k27, n27⟩, -, X27, ⟨Lc27, hQ27, l27, y27, z27⟩, st27⟩ := Jvm.LawKit.callS X26 hx (y := (⟨"com/example/fault/fault/EnvelopeNamedPinLaw", "base", "(I)[C"⟩ : MethodName)) hown (mvT hZ (hw _ (List.mem_of_getElem? (i := 4) rfl))) (mvT hZ (hw _ (List.mem_of_getElem? (i := 5) rfl))) (mvT hZ (hw _ (List.mem_of_getElem? (i := 6) rfl))) (mvT hZ (hw _ (List.mem_of_getElem? (i := 7) rfl))) (by decide) (backOf (W := 2) (rm1_2 l Z a0 hw [] (2 : Int32)  h26 n0 Zs26 rfl) hZ (hw _ (List.mem_of_getElem? (i := 7) rfl)) (hw _ (List.mem_of_getElem? (i := 6) rfl)) (by decide) (by decide)) (g := (mkF m 27 #[iv mr, iv wr, iv pr, iv cr, iv er, iv 0, iv 2, .unset, .unset, .unset, .unset] [(.int 2), (.ref b26), (.ref b26)])) rfl (by rw [hml]; rfl) (argsL := [(.int 2)]) (rest := [(.ref b26), (.ref b26)]) (lenOf pd_12 rfl) rfl (by show 2 * 0 + _ ≤ _; exact Nat.le_of_eq rfl) (hb hby at_27) (fun _ _ => ⟨rfl, e26, (by decide : 1 + 1 ≤ _), (by decide : 4 + 7 ≤ _)⟩)
      dsimp only [Pt.U, Pt.locs, Pt.cells, Pt.slots] at X27 l27 y27 z27 st27 hQ27
      subst l27 y27 z27
      obtain ⟨ba27, kc27, rfl, N27q, K27, g_ba27, sz_ba27, Va27⟩ := hQ27
      have Zs27 : n0 ≤ T27.heap.size := Nat.le_trans Zs26 K27.1
      have N27 := Fr.app N0 N27q
      have Ol27 := Ol26.keep K27 all0
      obtain ⟨lq27, X27, N27⟩ : ∃ lq, Stand p l e room_1 (s.setVm s.vm) m #[(.int mr), (.int wr), (.int pr), (.int cr), (.int er)] below meth c T27 lq 2 11 ∧ Fr n0 lq := ⟨_, X27, N27⟩
      refine own_go (b := T27.setTop (mkF m 30 #[iv mr, iv wr, iv pr, iv cr, iv er, iv 0, iv 2, .unset, .unset, .unset, .unset] [(.ref ba27), (.ref b26), (.ref b26)])) st27 ?_
      have hp29 : ∀ c ∈ ([(nar .char (112 : Int32)), (nar .char (114 : Int32)), (nar .char (111 : Int32)), (nar .char (98 : Int32)), (nar .char (108 : Int32)), (nar .char (101 : Int32)), (nar .char (109 : Int32))] : List Int32), ¬ c < 0 ∧ ¬ (255 : Int32) < c := by
        intro c hc
        simp only [List.mem_cons, List.not_mem_nil, or_false] at hc
        rcases hc with rfl | rfl | rfl | rfl | rfl | rfl | rfl
        · exact (by decide +kernel)
        · exact (by decide +kernel)
        · exact (by decide +kernel)
        · exact (by decide +kernel)
        · exact (by decide +kernel)
        · exact (by decide +kernel)
        · exact (by decide +kernel)
      obtain ⟨_, _, ⟨T28, L28, k28, n28⟩, -, X28, ⟨Lc28, hQ28, l28, y28, z28⟩, st28⟩ := X27.specialBack hx (y := (⟨"java/lang/String", "<init>", "([C)V"⟩ : MethodName)) rfl hown (mvT hZ (hw _ (List.mem_of_getElem? (i := 9) rfl))) (mvT hZ (hw _ (List.mem_of_getElem? (i := 10) rfl))) (mvT hZ (hw _ (List.mem_of_getElem? (i := 11) rfl))) (by decide) (StrChars.Road.backV (W := 1) hZ hws (kI := 4) (hw _ (List.mem_of_getElem? (i := 2) rfl)) (cs := ([(nar .char (112 : Int32)), (nar .char (114 : Int32)), (nar .char (111 : Int32)), (nar .char (98 : Int32)), (nar .char (108 : Int32)), (nar .char (101 : Int32)), (nar .char (109 : Int32))] : List Int32)) (bs := (([(nar .char (112 : Int32)), (nar .char (114 : Int32)), (nar .char (111 : Int32)), (nar .char (98 : Int32)), (nar .char (108 : Int32)), (nar .char (101 : Int32)), (nar .char (109 : Int32))] : List Int32)).map (fun c => c.toInt8.toInt32)) (n := 7) g_b26 Zs27 (A26.keep K27) (F_value_b26.keep K27 nin0) (F_coder_b26.keep K27 nin0) Va27 (O2.ext Ol27.2) P5 rfl rfl (by decide) (by decide) hp29 rfl (by decide) (by decide)) (g := (mkF m 30 #[iv mr, iv wr, iv pr, iv cr, iv er, iv 0, iv 2, .unset, .unset, .unset, .unset] [(.ref ba27), (.ref b26), (.ref b26)])) rfl (by rw [hml]; rfl) (Steps.refl _) (a := b26) (argsL := [(.ref ba27)]) (rest := [(.ref b26)]) (lenOf pd_13 rfl) rfl (by show 2 * 0 + _ ≤ _; exact Nat.le_of_eq rfl) (hb hby at_30) (fun _ _ => ⟨rfl, rfl, (by decide : 2 + 1 ≤ _), (by decide : 11 + 7 ≤ _)⟩)
      dsimp only [Pt.U, Pt.locs, Pt.cells, Pt.slots] at X28 l28 y28 z28 st28 hQ28
      subst l28 y28 z28
      obtain ⟨rfl, N28q, K28, Es28, Cs28, t28, kb28, ua28, ub28, uc28, Vs28, Ks28⟩ := hQ28
      have Zs28 : n0 ≤ T28.heap.size := Nat.le_trans Zs27 K28.1
      have N28 := Fr.app N27 N28q
      have Ol28 := Ol27.keep K28 (allS g_b26 all0)
      obtain ⟨lq28, X28, N28⟩ : ∃ lq, Stand p l e room_1 (s.setVm s.vm) m #[(.int mr), (.int wr), (.int pr), (.int cr), (.int er)] below meth c T28 lq 3 18 ∧ Fr n0 lq := ⟨_, X28, N28⟩
      refine own_tr (b := T28.setTop (mkF m 33 #[iv mr, iv wr, iv pr, iv cr, iv er, iv 0, iv 2, .unset, .unset, .unset, .unset] [(.ref b26)])) st28 ?_
      refine own_go (b := T28.setTop (mkF m 35 #[iv mr, iv wr, iv pr, iv cr, iv er, iv 0, iv 2, rv b26, .unset, .unset, .unset] [])) (fun t k => XS.astore X28.here hx rfl (hb hby at_33) rfl rfl (l' := #[iv mr, iv wr, iv pr, iv cr, iv er, iv 0, iv 2, rv b26, .unset, .unset, .unset]) rfl k) ?_
      refine own_go (b := T28.setTop (mkF m 155 #[iv mr, iv wr, iv pr, iv cr, iv er, iv 0, iv 2, rv b26, .unset, .unset, .unset] [])) (fun t k => XS.goto X28.here hx rfl (pc0 := 35) (pc' := 155) rfl (hb hby at_35) (by decide) (by decide) k) ?_
      exact J155 T28 T28.heap _ s.vm _ (0 : Int32) (2 : Int32) b26 ([(nar .char (112 : Int32)), (nar .char (114 : Int32)), (nar .char (111 : Int32)), (nar .char (98 : Int32)), (nar .char (108 : Int32)), (nar .char (101 : Int32)), (nar .char (109 : Int32))] : List Int32) (.unset) (.unset) (own_mono X28 (by decide) (by decide)) rfl N28 Zs28 Ol28 hS0 (((Le0.ext E26).keep K27).keep K28) hZ hown (own_IBm I0 rfl (by simp)) ⟨t28, _, Es28, Vs28, Cs28, Ks28, hp29, (Nat.le_of_ble_eq_true rfl)⟩ (Or.inl rfl) (Or.inl rfl)
    | j + 3, h, _ => omega
  | 1, _, hX16 =>
    replace hX16 : ((mr &&& (2147483647 : Int32)) % (5 : Int32)) = (1 : Int32) := hX16
    rw [hX16]
    refine own_go (b := s₁.setTop (mkF m 18 #[iv mr, iv wr, iv pr, iv cr, iv er, iv 1, iv ((wr &&& (2147483647 : Int32)) % (3 : Int32)), .unset, .unset, .unset, .unset] [(.int 1)])) (fun t k => XS.iload X0.here hx rfl (hb hby at_16) rfl  k) ?_
    refine own_go (b := s₁.setTop (mkF m 38 #[iv mr, iv wr, iv pr, iv cr, iv er, iv 1, iv ((wr &&& (2147483647 : Int32)) % (3 : Int32)), .unset, .unset, .unset, .unset] [])) (fun t k => XS.ifYes X0.here hx rfl (pc0 := 18) (pc' := 38) rfl (hb hby at_18) rfl ((if0 _ _).trans (feq (by decide : ¬ ((1 : Int32) = (0 : Int32)))).2) (by decide) (by decide) k) ?_
    refine own_go (b := s₁.setTop (mkF m 40 #[iv mr, iv wr, iv pr, iv cr, iv er, iv 1, iv ((wr &&& (2147483647 : Int32)) % (3 : Int32)), .unset, .unset, .unset, .unset] [(.int 1)])) (fun t k => XS.iload X0.here hx rfl (hb hby at_38) rfl  k) ?_
    refine own_go (b := s₁.setTop (mkF m 41 #[iv mr, iv wr, iv pr, iv cr, iv er, iv 1, iv ((wr &&& (2147483647 : Int32)) % (3 : Int32)), .unset, .unset, .unset, .unset] [(.int 1), (.int 1)])) (fun t k => XS.iconst X0.here hx rfl (hb hby at_40) k) ?_
    refine own_go (b := s₁.setTop (mkF m 44 #[iv mr, iv wr, iv pr, iv cr, iv er, iv 1, iv ((wr &&& (2147483647 : Int32)) % (3 : Int32)), .unset, .unset, .unset, .unset] [])) (fun t k => XS.icmpNo X0.here hx rfl (hb hby at_41) rfl (teq (rfl : (1 : Int32) = (1 : Int32))).2 k) ?_
    obtain ⟨js30, hj30, hX30⟩ := own_r3 wr
    match js30, hj30, hX30 with
    | 0, _, hX30 =>
      replace hX30 : ((wr &&& (2147483647 : Int32)) % (3 : Int32)) = (0 : Int32) := hX30
      rw [hX30]
      refine own_go (b := s₁.setTop (mkF m 46 #[iv mr, iv wr, iv pr, iv cr, iv er, iv 1, iv 0, .unset, .unset, .unset, .unset] [(.int 0)])) (fun t k => XS.iload X0.here hx rfl (hb hby at_44) rfl  k) ?_
      obtain ⟨_, _, ⟨T31, L31, k31, n31⟩, -, X31, ⟨Lc31, hQ31, l31, y31, z31⟩, st31⟩ := Jvm.LawKit.callS X0 hx (y := (⟨"com/example/fault/fault/EnvelopeNamedPinLaw", "base", "(I)[C"⟩ : MethodName)) hown (mvT hZ (hw _ (List.mem_of_getElem? (i := 4) rfl))) (mvT hZ (hw _ (List.mem_of_getElem? (i := 5) rfl))) (mvT hZ (hw _ (List.mem_of_getElem? (i := 6) rfl))) (mvT hZ (hw _ (List.mem_of_getElem? (i := 7) rfl))) (by decide) (backOf (W := 0) (rm1_0 l Z a0 hw [] (0 : Int32)  h0 n0 Z0 rfl) hZ (hw _ (List.mem_of_getElem? (i := 7) rfl)) (hw _ (List.mem_of_getElem? (i := 6) rfl)) (by decide) (by decide)) (g := (mkF m 46 #[iv mr, iv wr, iv pr, iv cr, iv er, iv 1, iv 0, .unset, .unset, .unset, .unset] [(.int 0)])) rfl (by rw [hml]; rfl) (argsL := [(.int 0)]) (rest := []) (lenOf pd_12 rfl) rfl (by show 2 * 0 + _ ≤ _; exact Nat.le_of_eq rfl) (hb hby at_46) (fun _ _ => ⟨rfl, e0, (by decide : 0 + 1 ≤ _), (by decide : 0 + 11 ≤ _)⟩)
      dsimp only [Pt.U, Pt.locs, Pt.cells, Pt.slots] at X31 l31 y31 z31 st31 hQ31
      subst l31 y31 z31
      obtain ⟨ba31, kc31, rfl, N31q, K31, g_ba31, sz_ba31, Va31⟩ := hQ31
      have Zs31 : n0 ≤ T31.heap.size := Nat.le_trans Z0 K31.1
      have N31 := Fr.app N0 N31q
      have Ol31 := Od.keep K31 all0
      obtain ⟨lq31, X31, N31⟩ : ∃ lq, Stand p l e room_1 (s.setVm s.vm) m #[(.int mr), (.int wr), (.int pr), (.int cr), (.int er)] below meth c T31 lq 1 11 ∧ Fr n0 lq := ⟨_, X31, N31⟩
      refine own_go (b := T31.setTop (mkF m 49 #[iv mr, iv wr, iv pr, iv cr, iv er, iv 1, iv 0, .unset, .unset, .unset, .unset] [(.ref ba31)])) st31 ?_
      refine own_go (b := T31.setTop (mkF m 51 #[iv mr, iv wr, iv pr, iv cr, iv er, iv 1, iv 0, .unset, rv ba31, .unset, .unset] [])) (fun t k => XS.astore X31.here hx rfl (hb hby at_49) rfl rfl (l' := #[iv mr, iv wr, iv pr, iv cr, iv er, iv 1, iv 0, .unset, rv ba31, .unset, .unset]) rfl k) ?_
      refine own_go (b := T31.setTop (mkF m 52 #[iv mr, iv wr, iv pr, iv cr, iv er, iv 1, iv 0, .unset, rv ba31, .unset, .unset] [(.int pr)])) (fun t k => XS.iloadN X31.here hx rfl (hb hby at_51) rfl  k) ?_
      refine own_go (b := T31.setTop (mkF m 54 #[iv mr, iv wr, iv pr, iv cr, iv er, iv 1, iv 0, .unset, rv ba31, .unset, .unset] [(.int 2147483647), (.int pr)])) (fun t k => X31.ldcInt hx hown (mvT hZ (hw _ (List.mem_of_getElem? (i := 0) rfl))) (g := (mkF m 52 #[iv mr, iv wr, iv pr, iv cr, iv er, iv 1, iv 0, .unset, rv ba31, .unset, .unset] [(.int pr)])) rfl (hb hby at_52) t k) ?_
      refine own_go (b := T31.setTop (mkF m 55 #[iv mr, iv wr, iv pr, iv cr, iv er, iv 1, iv 0, .unset, rv ba31, .unset, .unset] [(.int (pr &&& (2147483647 : Int32)))])) (fun t k => XS.iand X31.here hx rfl (hb hby at_54) rfl k) ?_
      refine own_go (b := T31.setTop (mkF m 57 #[iv mr, iv wr, iv pr, iv cr, iv er, iv 1, iv 0, .unset, rv ba31, .unset, .unset] [(.ref ba31), (.int (pr &&& (2147483647 : Int32)))])) (fun t k => XS.aload X31.here hx rfl (hb hby at_55) rfl rfl k) ?_
      obtain ⟨cl32, Ar32, qc32, Sz32, Ng32, Hs32, Ft32⟩ := id Va31
      refine own_go (b := T31.setTop (mkF m 58 #[iv mr, iv wr, iv pr, iv cr, iv er, iv 1, iv 0, .unset, rv ba31, .unset, .unset] [(.int (cl32.slots.size.toInt32)), (.int (pr &&& (2147483647 : Int32)))])) (fun t k => X31.arraylength hx (own_at rfl Ar32.1) (State.isArrayOf_alike hZ.alike Ar32.2.1) (g := (mkF m 57 #[iv mr, iv wr, iv pr, iv cr, iv er, iv 1, iv 0, .unset, rv ba31, .unset, .unset] [(.ref ba31), (.int (pr &&& (2147483647 : Int32)))])) rfl rfl (hb hby at_57) t k) ?_
      rw [(len_of Sz32 Ng32)]
      refine own_go (b := T31.setTop (mkF m 59 #[iv mr, iv wr, iv pr, iv cr, iv er, iv 1, iv 0, .unset, rv ba31, .unset, .unset] [(.int ((pr &&& (2147483647 : Int32)) % (11 : Int32)))])) (fun t k => iremM X31 hx rfl (hb hby at_58) rfl (by decide) k) ?_
      refine own_go (b := T31.setTop (mkF m 61 #[iv mr, iv wr, iv pr, iv cr, iv er, iv 1, iv 0, .unset, rv ba31, iv ((pr &&& (2147483647 : Int32)) % (11 : Int32)), .unset] [])) (fun t k => XS.istore X31.here hx rfl (hb hby at_59) rfl (l' := #[iv mr, iv wr, iv pr, iv cr, iv er, iv 1, iv 0, .unset, rv ba31, iv ((pr &&& (2147483647 : Int32)) % (11 : Int32)), .unset]) rfl k) ?_
      obtain ⟨js33, hj33, hX33⟩ := own_r11 pr
      match js33, hj33, hX33 with
      | 0, _, hX33 =>
        replace hX33 : ((pr &&& (2147483647 : Int32)) % (11 : Int32)) = (0 : Int32) := hX33
        rw [hX33]
        refine own_go (b := T31.setTop (mkF m 63 #[iv mr, iv wr, iv pr, iv cr, iv er, iv 1, iv 0, .unset, rv ba31, iv 0, .unset] [(.ref ba31)])) (fun t k => XS.aload X31.here hx rfl (hb hby at_61) rfl rfl k) ?_
        refine own_go (b := T31.setTop (mkF m 65 #[iv mr, iv wr, iv pr, iv cr, iv er, iv 1, iv 0, .unset, rv ba31, iv 0, .unset] [(.int 0), (.ref ba31)])) (fun t k => XS.iload X31.here hx rfl (hb hby at_63) rfl  k) ?_
        refine own_go (b := T31.setTop (mkF m 66 #[iv mr, iv wr, iv pr, iv cr, iv er, iv 1, iv 0, .unset, rv ba31, iv 0, .unset] [(.int cr), (.int 0), (.ref ba31)])) (fun t k => XS.iloadN X31.here hx rfl (hb hby at_65) rfl  k) ?_
        refine own_go (b := T31.setTop (mkF m 69 #[iv mr, iv wr, iv pr, iv cr, iv er, iv 1, iv 0, .unset, rv ba31, iv 0, .unset] [(.int 255), (.int cr), (.int 0), (.ref ba31)])) (fun t k => XS.sipush X31.here hx rfl (hb hby at_66) k) ?_
        refine own_go (b := T31.setTop (mkF m 70 #[iv mr, iv wr, iv pr, iv cr, iv er, iv 1, iv 0, .unset, rv ba31, iv 0, .unset] [(.int (cr &&& (255 : Int32))), (.int 0), (.ref ba31)])) (fun t k => XS.iand X31.here hx rfl (hb hby at_69) rfl k) ?_
        refine own_go (b := T31.setTop (mkF m 71 #[iv mr, iv wr, iv pr, iv cr, iv er, iv 1, iv 0, .unset, rv ba31, iv 0, .unset] [(.int ((cr &&& (255 : Int32)).toUInt32.toUInt16.toUInt32.toInt32)), (.int 0), (.ref ba31)])) (fun t k => XS.i2c X31.here hx rfl (hb hby at_70) rfl k) ?_
        obtain ⟨cl34, Ar34, qc34, Sz34, Ng34, Hs34, Ft34⟩ := id Va31
        have hin34 : ¬ ((0 : Int32) < 0 ∨ cl34.slots.size ≤ ((0 : Int32)).toNatClampNeg) := inb_of Sz34 ⟨by decide, by decide⟩
        obtain ⟨T35, h35, X35, e35, W35, st35⟩ := stC X31 hx hZ rfl Ar34 (j := (0 : Int32)) hin34 (g := (mkF m 71 #[iv mr, iv wr, iv pr, iv cr, iv er, iv 1, iv 0, .unset, rv ba31, iv 0, .unset] [(.int ((cr &&& (255 : Int32)).toUInt32.toUInt16.toUInt32.toInt32)), (.int 0), (.ref ba31)])) rfl rfl (hb hby at_71)
        have V_ba31_35 : Arv Z h35 ba31 kc31 .char (11 : Int32) [(.int (nar .char ((cr &&& (255 : Int32)).toUInt32.toUInt16.toUInt32.toInt32))), (.int (nar .char (114 : Int32))), (.int (nar .char (114 : Int32))), (.int (nar .char (111 : Int32))), (.int (nar .char (114 : Int32))), (.int (nar .char (115 : Int32))), (.int (nar .char (45 : Int32))), (.int (nar .char (108 : Int32))), (.int (nar .char (105 : Int32))), (.int (nar .char (115 : Int32))), (.int (nar .char (116 : Int32)))] (.int (0 : Int32)) := Arv.set Ar34 qc34 Sz34 Ng34 Hs34 Ft34 (fits_nar_char _) W35 0 rfl (Nat.le_of_ble_eq_true rfl)
        have Zs35 : n0 ≤ h35.size := Nat.le_trans Zs31 (Keep.of_wr W35).1
        have N35 := Fr.snoc X35 N31 g_ba31
        have Ol35 := Ol31.wr W35 g_ba31
        refine own_go (b := T35.setTop (mkF m 72 #[iv mr, iv wr, iv pr, iv cr, iv er, iv 1, iv 0, .unset, rv ba31, iv 0, .unset] [])) st35 ?_
        obtain ⟨T36, h36, X36, e36, E36, A36, D36, -, st36⟩ := newO X35 hx hZ hown (hw _ (List.mem_of_getElem? (i := 1) rfl)) (hw _ (List.mem_of_getElem? (i := 2) rfl)) (hw _ (List.mem_of_getElem? (i := 3) rfl)) e35 (g := (mkF m 72 #[iv mr, iv wr, iv pr, iv cr, iv er, iv 1, iv 0, .unset, rv ba31, iv 0, .unset] [])) rfl (hb hby at_72) (by decide) (by decide)
        obtain ⟨b36, g36⟩ : ∃ z, z = h35.size := ⟨_, rfl⟩
        rw [← g36] at A36 D36 st36
        have g_b36 : n0 ≤ b36 := Nat.le_trans Zs35 (Nat.le_of_eq g36.symm)
        have Zs36 : n0 ≤ h36.size := Nat.le_trans Zs35 E36.1
        have Ol36 := Ol35.ext E36
        have F_coder_b36 : Fld Z h36 b36 "java/lang/String" "coder" "B" (.int 0) := D36 (Or.inr (hw _ (List.mem_of_getElem? (i := 32) rfl))) (ty := .byte) (by decide)
        have F_value_b36 : Fld Z h36 b36 "java/lang/String" "value" "[B" .null := D36 (Or.inr (hw _ (List.mem_of_getElem? (i := 34) rfl))) (ty := (.array .byte)) (by decide)
        refine own_go (b := T36.setTop (mkF m 75 #[iv mr, iv wr, iv pr, iv cr, iv er, iv 1, iv 0, .unset, rv ba31, iv 0, .unset] [(.ref b36)])) st36 ?_
        refine own_go (b := T36.setTop (mkF m 76 #[iv mr, iv wr, iv pr, iv cr, iv er, iv 1, iv 0, .unset, rv ba31, iv 0, .unset] [(.ref b36), (.ref b36)])) (fun t k => XS.dup X36.here hx rfl (hb hby at_75) rfl rfl k) ?_
        refine own_go (b := T36.setTop (mkF m 78 #[iv mr, iv wr, iv pr, iv cr, iv er, iv 1, iv 0, .unset, rv ba31, iv 0, .unset] [(.ref ba31), (.ref b36), (.ref b36)])) (fun t k => XS.aload X36.here hx rfl (hb hby at_76) rfl rfl k) ?_
        have hp38 : ∀ c ∈ ([(nar .char ((cr &&& (255 : Int32)).toUInt32.toUInt16.toUInt32.toInt32)), (nar .char (114 : Int32)), (nar .char (114 : Int32)), (nar .char (111 : Int32)), (nar .char (114 : Int32)), (nar .char (115 : Int32)), (nar .char (45 : Int32)), (nar .char (108 : Int32)), (nar .char (105 : Int32)), (nar .char (115 : Int32)), (nar .char (116 : Int32))] : List Int32), ¬ c < 0 ∧ ¬ (255 : Int32) < c := by
          intro c hc
          simp only [List.mem_cons, List.not_mem_nil, or_false] at hc
          rcases hc with rfl | rfl | rfl | rfl | rfl | rfl | rfl | rfl | rfl | rfl | rfl
          · exact own_and255 cr
          · exact (by decide +kernel)
          · exact (by decide +kernel)
          · exact (by decide +kernel)
          · exact (by decide +kernel)
          · exact (by decide +kernel)
          · exact (by decide +kernel)
          · exact (by decide +kernel)
          · exact (by decide +kernel)
          · exact (by decide +kernel)
          · exact (by decide +kernel)
        obtain ⟨_, _, ⟨T37, L37, k37, n37⟩, -, X37, ⟨Lc37, hQ37, l37, y37, z37⟩, st37⟩ := X36.specialBack hx (y := (⟨"java/lang/String", "<init>", "([C)V"⟩ : MethodName)) rfl hown (mvT hZ (hw _ (List.mem_of_getElem? (i := 9) rfl))) (mvT hZ (hw _ (List.mem_of_getElem? (i := 10) rfl))) (mvT hZ (hw _ (List.mem_of_getElem? (i := 11) rfl))) (by decide) (StrChars.Road.backV (W := 1) hZ hws (kI := 4) (hw _ (List.mem_of_getElem? (i := 2) rfl)) (cs := ([(nar .char ((cr &&& (255 : Int32)).toUInt32.toUInt16.toUInt32.toInt32)), (nar .char (114 : Int32)), (nar .char (114 : Int32)), (nar .char (111 : Int32)), (nar .char (114 : Int32)), (nar .char (115 : Int32)), (nar .char (45 : Int32)), (nar .char (108 : Int32)), (nar .char (105 : Int32)), (nar .char (115 : Int32)), (nar .char (116 : Int32))] : List Int32)) (bs := (([(nar .char ((cr &&& (255 : Int32)).toUInt32.toUInt16.toUInt32.toInt32)), (nar .char (114 : Int32)), (nar .char (114 : Int32)), (nar .char (111 : Int32)), (nar .char (114 : Int32)), (nar .char (115 : Int32)), (nar .char (45 : Int32)), (nar .char (108 : Int32)), (nar .char (105 : Int32)), (nar .char (115 : Int32)), (nar .char (116 : Int32))] : List Int32)).map (fun c => c.toInt8.toInt32)) (n := 11) g_b36 Zs36 A36 F_value_b36 F_coder_b36 (V_ba31_35.ext E36) (O2.ext Ol36.2) P5 rfl rfl (by decide) (by decide) hp38 rfl (by decide) (by decide)) (g := (mkF m 78 #[iv mr, iv wr, iv pr, iv cr, iv er, iv 1, iv 0, .unset, rv ba31, iv 0, .unset] [(.ref ba31), (.ref b36), (.ref b36)])) rfl (by rw [hml]; rfl) (Steps.refl _) (a := b36) (argsL := [(.ref ba31)]) (rest := [(.ref b36)]) (lenOf pd_13 rfl) rfl (by show 2 * 0 + _ ≤ _; exact Nat.le_of_eq rfl) (hb hby at_78) (fun _ _ => ⟨rfl, e36, (by decide : 2 + 1 ≤ _), (by decide : 15 + 11 ≤ _)⟩)
        dsimp only [Pt.U, Pt.locs, Pt.cells, Pt.slots] at X37 l37 y37 z37 st37 hQ37
        subst l37 y37 z37
        obtain ⟨rfl, N37q, K37, Es37, Cs37, t37, kb37, ua37, ub37, uc37, Vs37, Ks37⟩ := hQ37
        have Zs37 : n0 ≤ T37.heap.size := Nat.le_trans Zs36 K37.1
        have N37 := Fr.app N35 N37q
        have Ol37 := Ol36.keep K37 (allS g_b36 all0)
        obtain ⟨lq37, X37, N37⟩ : ∃ lq, Stand p l e room_1 (s.setVm s.vm) m #[(.int mr), (.int wr), (.int pr), (.int cr), (.int er)] below meth c T37 lq 3 26 ∧ Fr n0 lq := ⟨_, X37, N37⟩
        refine own_tr (b := T37.setTop (mkF m 81 #[iv mr, iv wr, iv pr, iv cr, iv er, iv 1, iv 0, .unset, rv ba31, iv 0, .unset] [(.ref b36)])) st37 ?_
        refine own_go (b := T37.setTop (mkF m 83 #[iv mr, iv wr, iv pr, iv cr, iv er, iv 1, iv 0, rv b36, rv ba31, iv 0, .unset] [])) (fun t k => XS.astore X37.here hx rfl (hb hby at_81) rfl rfl (l' := #[iv mr, iv wr, iv pr, iv cr, iv er, iv 1, iv 0, rv b36, rv ba31, iv 0, .unset]) rfl k) ?_
        refine own_go (b := T37.setTop (mkF m 155 #[iv mr, iv wr, iv pr, iv cr, iv er, iv 1, iv 0, rv b36, rv ba31, iv 0, .unset] [])) (fun t k => XS.goto X37.here hx rfl (pc0 := 83) (pc' := 155) rfl (hb hby at_83) (by decide) (by decide) k) ?_
        exact J155 T37 T37.heap _ s.vm _ (1 : Int32) (0 : Int32) b36 ([(nar .char ((cr &&& (255 : Int32)).toUInt32.toUInt16.toUInt32.toInt32)), (nar .char (114 : Int32)), (nar .char (114 : Int32)), (nar .char (111 : Int32)), (nar .char (114 : Int32)), (nar .char (115 : Int32)), (nar .char (45 : Int32)), (nar .char (108 : Int32)), (nar .char (105 : Int32)), (nar .char (115 : Int32)), (nar .char (116 : Int32))] : List Int32) (rv ba31) (iv 0) (own_mono X37 (by decide) (by decide)) rfl N37 Zs37 Ol37 hS0 ((((Le0.keep K31).wr W35).ext E36).keep K37) hZ hown (own_IBm I0 rfl (by simp)) ⟨t37, _, Es37, Vs37, Cs37, Ks37, hp38, (Nat.le_of_ble_eq_true rfl)⟩ (Or.inr ⟨_, rfl, rfl⟩) (Or.inr ⟨_, rfl, rfl⟩)
      | 1, _, hX33 =>
        replace hX33 : ((pr &&& (2147483647 : Int32)) % (11 : Int32)) = (1 : Int32) := hX33
        rw [hX33]
        refine own_go (b := T31.setTop (mkF m 63 #[iv mr, iv wr, iv pr, iv cr, iv er, iv 1, iv 0, .unset, rv ba31, iv 1, .unset] [(.ref ba31)])) (fun t k => XS.aload X31.here hx rfl (hb hby at_61) rfl rfl k) ?_
        refine own_go (b := T31.setTop (mkF m 65 #[iv mr, iv wr, iv pr, iv cr, iv er, iv 1, iv 0, .unset, rv ba31, iv 1, .unset] [(.int 1), (.ref ba31)])) (fun t k => XS.iload X31.here hx rfl (hb hby at_63) rfl  k) ?_
        refine own_go (b := T31.setTop (mkF m 66 #[iv mr, iv wr, iv pr, iv cr, iv er, iv 1, iv 0, .unset, rv ba31, iv 1, .unset] [(.int cr), (.int 1), (.ref ba31)])) (fun t k => XS.iloadN X31.here hx rfl (hb hby at_65) rfl  k) ?_
        refine own_go (b := T31.setTop (mkF m 69 #[iv mr, iv wr, iv pr, iv cr, iv er, iv 1, iv 0, .unset, rv ba31, iv 1, .unset] [(.int 255), (.int cr), (.int 1), (.ref ba31)])) (fun t k => XS.sipush X31.here hx rfl (hb hby at_66) k) ?_
        refine own_go (b := T31.setTop (mkF m 70 #[iv mr, iv wr, iv pr, iv cr, iv er, iv 1, iv 0, .unset, rv ba31, iv 1, .unset] [(.int (cr &&& (255 : Int32))), (.int 1), (.ref ba31)])) (fun t k => XS.iand X31.here hx rfl (hb hby at_69) rfl k) ?_
        refine own_go (b := T31.setTop (mkF m 71 #[iv mr, iv wr, iv pr, iv cr, iv er, iv 1, iv 0, .unset, rv ba31, iv 1, .unset] [(.int ((cr &&& (255 : Int32)).toUInt32.toUInt16.toUInt32.toInt32)), (.int 1), (.ref ba31)])) (fun t k => XS.i2c X31.here hx rfl (hb hby at_70) rfl k) ?_
        obtain ⟨cl39, Ar39, qc39, Sz39, Ng39, Hs39, Ft39⟩ := id Va31
        have hin39 : ¬ ((1 : Int32) < 0 ∨ cl39.slots.size ≤ ((1 : Int32)).toNatClampNeg) := inb_of Sz39 ⟨by decide, by decide⟩
        obtain ⟨T40, h40, X40, e40, W40, st40⟩ := stC X31 hx hZ rfl Ar39 (j := (1 : Int32)) hin39 (g := (mkF m 71 #[iv mr, iv wr, iv pr, iv cr, iv er, iv 1, iv 0, .unset, rv ba31, iv 1, .unset] [(.int ((cr &&& (255 : Int32)).toUInt32.toUInt16.toUInt32.toInt32)), (.int 1), (.ref ba31)])) rfl rfl (hb hby at_71)
        have V_ba31_40 : Arv Z h40 ba31 kc31 .char (11 : Int32) [(.int (nar .char (101 : Int32))), (.int (nar .char ((cr &&& (255 : Int32)).toUInt32.toUInt16.toUInt32.toInt32))), (.int (nar .char (114 : Int32))), (.int (nar .char (111 : Int32))), (.int (nar .char (114 : Int32))), (.int (nar .char (115 : Int32))), (.int (nar .char (45 : Int32))), (.int (nar .char (108 : Int32))), (.int (nar .char (105 : Int32))), (.int (nar .char (115 : Int32))), (.int (nar .char (116 : Int32)))] (.int (0 : Int32)) := Arv.set Ar39 qc39 Sz39 Ng39 Hs39 Ft39 (fits_nar_char _) W40 1 rfl (Nat.le_of_ble_eq_true rfl)
        have Zs40 : n0 ≤ h40.size := Nat.le_trans Zs31 (Keep.of_wr W40).1
        have N40 := Fr.snoc X40 N31 g_ba31
        have Ol40 := Ol31.wr W40 g_ba31
        refine own_go (b := T40.setTop (mkF m 72 #[iv mr, iv wr, iv pr, iv cr, iv er, iv 1, iv 0, .unset, rv ba31, iv 1, .unset] [])) st40 ?_
        obtain ⟨T41, h41, X41, e41, E41, A41, D41, -, st41⟩ := newO X40 hx hZ hown (hw _ (List.mem_of_getElem? (i := 1) rfl)) (hw _ (List.mem_of_getElem? (i := 2) rfl)) (hw _ (List.mem_of_getElem? (i := 3) rfl)) e40 (g := (mkF m 72 #[iv mr, iv wr, iv pr, iv cr, iv er, iv 1, iv 0, .unset, rv ba31, iv 1, .unset] [])) rfl (hb hby at_72) (by decide) (by decide)
        obtain ⟨b41, g41⟩ : ∃ z, z = h40.size := ⟨_, rfl⟩
        rw [← g41] at A41 D41 st41
        have g_b41 : n0 ≤ b41 := Nat.le_trans Zs40 (Nat.le_of_eq g41.symm)
        have Zs41 : n0 ≤ h41.size := Nat.le_trans Zs40 E41.1
        have Ol41 := Ol40.ext E41
        have F_coder_b41 : Fld Z h41 b41 "java/lang/String" "coder" "B" (.int 0) := D41 (Or.inr (hw _ (List.mem_of_getElem? (i := 32) rfl))) (ty := .byte) (by decide)
        have F_value_b41 : Fld Z h41 b41 "java/lang/String" "value" "[B" .null := D41 (Or.inr (hw _ (List.mem_of_getElem? (i := 34) rfl))) (ty := (.array .byte)) (by decide)
        refine own_go (b := T41.setTop (mkF m 75 #[iv mr, iv wr, iv pr, iv cr, iv er, iv 1, iv 0, .unset, rv ba31, iv 1, .unset] [(.ref b41)])) st41 ?_
        refine own_go (b := T41.setTop (mkF m 76 #[iv mr, iv wr, iv pr, iv cr, iv er, iv 1, iv 0, .unset, rv ba31, iv 1, .unset] [(.ref b41), (.ref b41)])) (fun t k => XS.dup X41.here hx rfl (hb hby at_75) rfl rfl k) ?_
        refine own_go (b := T41.setTop (mkF m 78 #[iv mr, iv wr, iv pr, iv cr, iv er, iv 1, iv 0, .unset, rv ba31, iv 1, .unset] [(.ref ba31), (.ref b41), (.ref b41)])) (fun t k => XS.aload X41.here hx rfl (hb hby at_76) rfl rfl k) ?_
        have hp43 : ∀ c ∈ ([(nar .char (101 : Int32)), (nar .char ((cr &&& (255 : Int32)).toUInt32.toUInt16.toUInt32.toInt32)), (nar .char (114 : Int32)), (nar .char (111 : Int32)), (nar .char (114 : Int32)), (nar .char (115 : Int32)), (nar .char (45 : Int32)), (nar .char (108 : Int32)), (nar .char (105 : Int32)), (nar .char (115 : Int32)), (nar .char (116 : Int32))] : List Int32), ¬ c < 0 ∧ ¬ (255 : Int32) < c := by
          intro c hc
          simp only [List.mem_cons, List.not_mem_nil, or_false] at hc
          rcases hc with rfl | rfl | rfl | rfl | rfl | rfl | rfl | rfl | rfl | rfl | rfl
          · exact (by decide +kernel)
          · exact own_and255 cr
          · exact (by decide +kernel)
          · exact (by decide +kernel)
          · exact (by decide +kernel)
          · exact (by decide +kernel)
          · exact (by decide +kernel)
          · exact (by decide +kernel)
          · exact (by decide +kernel)
          · exact (by decide +kernel)
          · exact (by decide +kernel)
        obtain ⟨_, _, ⟨T42, L42, k42, n42⟩, -, X42, ⟨Lc42, hQ42, l42, y42, z42⟩, st42⟩ := X41.specialBack hx (y := (⟨"java/lang/String", "<init>", "([C)V"⟩ : MethodName)) rfl hown (mvT hZ (hw _ (List.mem_of_getElem? (i := 9) rfl))) (mvT hZ (hw _ (List.mem_of_getElem? (i := 10) rfl))) (mvT hZ (hw _ (List.mem_of_getElem? (i := 11) rfl))) (by decide) (StrChars.Road.backV (W := 1) hZ hws (kI := 4) (hw _ (List.mem_of_getElem? (i := 2) rfl)) (cs := ([(nar .char (101 : Int32)), (nar .char ((cr &&& (255 : Int32)).toUInt32.toUInt16.toUInt32.toInt32)), (nar .char (114 : Int32)), (nar .char (111 : Int32)), (nar .char (114 : Int32)), (nar .char (115 : Int32)), (nar .char (45 : Int32)), (nar .char (108 : Int32)), (nar .char (105 : Int32)), (nar .char (115 : Int32)), (nar .char (116 : Int32))] : List Int32)) (bs := (([(nar .char (101 : Int32)), (nar .char ((cr &&& (255 : Int32)).toUInt32.toUInt16.toUInt32.toInt32)), (nar .char (114 : Int32)), (nar .char (111 : Int32)), (nar .char (114 : Int32)), (nar .char (115 : Int32)), (nar .char (45 : Int32)), (nar .char (108 : Int32)), (nar .char (105 : Int32)), (nar .char (115 : Int32)), (nar .char (116 : Int32))] : List Int32)).map (fun c => c.toInt8.toInt32)) (n := 11) g_b41 Zs41 A41 F_value_b41 F_coder_b41 (V_ba31_40.ext E41) (O2.ext Ol41.2) P5 rfl rfl (by decide) (by decide) hp43 rfl (by decide) (by decide)) (g := (mkF m 78 #[iv mr, iv wr, iv pr, iv cr, iv er, iv 1, iv 0, .unset, rv ba31, iv 1, .unset] [(.ref ba31), (.ref b41), (.ref b41)])) rfl (by rw [hml]; rfl) (Steps.refl _) (a := b41) (argsL := [(.ref ba31)]) (rest := [(.ref b41)]) (lenOf pd_13 rfl) rfl (by show 2 * 0 + _ ≤ _; exact Nat.le_of_eq rfl) (hb hby at_78) (fun _ _ => ⟨rfl, e41, (by decide : 2 + 1 ≤ _), (by decide : 15 + 11 ≤ _)⟩)
        dsimp only [Pt.U, Pt.locs, Pt.cells, Pt.slots] at X42 l42 y42 z42 st42 hQ42
        subst l42 y42 z42
        obtain ⟨rfl, N42q, K42, Es42, Cs42, t42, kb42, ua42, ub42, uc42, Vs42, Ks42⟩ := hQ42
        have Zs42 : n0 ≤ T42.heap.size := Nat.le_trans Zs41 K42.1
        have N42 := Fr.app N40 N42q
        have Ol42 := Ol41.keep K42 (allS g_b41 all0)
        obtain ⟨lq42, X42, N42⟩ : ∃ lq, Stand p l e room_1 (s.setVm s.vm) m #[(.int mr), (.int wr), (.int pr), (.int cr), (.int er)] below meth c T42 lq 3 26 ∧ Fr n0 lq := ⟨_, X42, N42⟩
        refine own_tr (b := T42.setTop (mkF m 81 #[iv mr, iv wr, iv pr, iv cr, iv er, iv 1, iv 0, .unset, rv ba31, iv 1, .unset] [(.ref b41)])) st42 ?_
        refine own_go (b := T42.setTop (mkF m 83 #[iv mr, iv wr, iv pr, iv cr, iv er, iv 1, iv 0, rv b41, rv ba31, iv 1, .unset] [])) (fun t k => XS.astore X42.here hx rfl (hb hby at_81) rfl rfl (l' := #[iv mr, iv wr, iv pr, iv cr, iv er, iv 1, iv 0, rv b41, rv ba31, iv 1, .unset]) rfl k) ?_
        refine own_go (b := T42.setTop (mkF m 155 #[iv mr, iv wr, iv pr, iv cr, iv er, iv 1, iv 0, rv b41, rv ba31, iv 1, .unset] [])) (fun t k => XS.goto X42.here hx rfl (pc0 := 83) (pc' := 155) rfl (hb hby at_83) (by decide) (by decide) k) ?_
        exact J155 T42 T42.heap _ s.vm _ (1 : Int32) (0 : Int32) b41 ([(nar .char (101 : Int32)), (nar .char ((cr &&& (255 : Int32)).toUInt32.toUInt16.toUInt32.toInt32)), (nar .char (114 : Int32)), (nar .char (111 : Int32)), (nar .char (114 : Int32)), (nar .char (115 : Int32)), (nar .char (45 : Int32)), (nar .char (108 : Int32)), (nar .char (105 : Int32)), (nar .char (115 : Int32)), (nar .char (116 : Int32))] : List Int32) (rv ba31) (iv 1) (own_mono X42 (by decide) (by decide)) rfl N42 Zs42 Ol42 hS0 ((((Le0.keep K31).wr W40).ext E41).keep K42) hZ hown (own_IBm I0 rfl (by simp)) ⟨t42, _, Es42, Vs42, Cs42, Ks42, hp43, (Nat.le_of_ble_eq_true rfl)⟩ (Or.inr ⟨_, rfl, rfl⟩) (Or.inr ⟨_, rfl, rfl⟩)
      | 2, _, hX33 =>
        replace hX33 : ((pr &&& (2147483647 : Int32)) % (11 : Int32)) = (2 : Int32) := hX33
        rw [hX33]
        refine own_go (b := T31.setTop (mkF m 63 #[iv mr, iv wr, iv pr, iv cr, iv er, iv 1, iv 0, .unset, rv ba31, iv 2, .unset] [(.ref ba31)])) (fun t k => XS.aload X31.here hx rfl (hb hby at_61) rfl rfl k) ?_
        refine own_go (b := T31.setTop (mkF m 65 #[iv mr, iv wr, iv pr, iv cr, iv er, iv 1, iv 0, .unset, rv ba31, iv 2, .unset] [(.int 2), (.ref ba31)])) (fun t k => XS.iload X31.here hx rfl (hb hby at_63) rfl  k) ?_
        refine own_go (b := T31.setTop (mkF m 66 #[iv mr, iv wr, iv pr, iv cr, iv er, iv 1, iv 0, .unset, rv ba31, iv 2, .unset] [(.int cr), (.int 2), (.ref ba31)])) (fun t k => XS.iloadN X31.here hx rfl (hb hby at_65) rfl  k) ?_
        refine own_go (b := T31.setTop (mkF m 69 #[iv mr, iv wr, iv pr, iv cr, iv er, iv 1, iv 0, .unset, rv ba31, iv 2, .unset] [(.int 255), (.int cr), (.int 2), (.ref ba31)])) (fun t k => XS.sipush X31.here hx rfl (hb hby at_66) k) ?_
        refine own_go (b := T31.setTop (mkF m 70 #[iv mr, iv wr, iv pr, iv cr, iv er, iv 1, iv 0, .unset, rv ba31, iv 2, .unset] [(.int (cr &&& (255 : Int32))), (.int 2), (.ref ba31)])) (fun t k => XS.iand X31.here hx rfl (hb hby at_69) rfl k) ?_
        refine own_go (b := T31.setTop (mkF m 71 #[iv mr, iv wr, iv pr, iv cr, iv er, iv 1, iv 0, .unset, rv ba31, iv 2, .unset] [(.int ((cr &&& (255 : Int32)).toUInt32.toUInt16.toUInt32.toInt32)), (.int 2), (.ref ba31)])) (fun t k => XS.i2c X31.here hx rfl (hb hby at_70) rfl k) ?_
        obtain ⟨cl44, Ar44, qc44, Sz44, Ng44, Hs44, Ft44⟩ := id Va31
        have hin44 : ¬ ((2 : Int32) < 0 ∨ cl44.slots.size ≤ ((2 : Int32)).toNatClampNeg) := inb_of Sz44 ⟨by decide, by decide⟩
        obtain ⟨T45, h45, X45, e45, W45, st45⟩ := stC X31 hx hZ rfl Ar44 (j := (2 : Int32)) hin44 (g := (mkF m 71 #[iv mr, iv wr, iv pr, iv cr, iv er, iv 1, iv 0, .unset, rv ba31, iv 2, .unset] [(.int ((cr &&& (255 : Int32)).toUInt32.toUInt16.toUInt32.toInt32)), (.int 2), (.ref ba31)])) rfl rfl (hb hby at_71)
        have V_ba31_45 : Arv Z h45 ba31 kc31 .char (11 : Int32) [(.int (nar .char (101 : Int32))), (.int (nar .char (114 : Int32))), (.int (nar .char ((cr &&& (255 : Int32)).toUInt32.toUInt16.toUInt32.toInt32))), (.int (nar .char (111 : Int32))), (.int (nar .char (114 : Int32))), (.int (nar .char (115 : Int32))), (.int (nar .char (45 : Int32))), (.int (nar .char (108 : Int32))), (.int (nar .char (105 : Int32))), (.int (nar .char (115 : Int32))), (.int (nar .char (116 : Int32)))] (.int (0 : Int32)) := Arv.set Ar44 qc44 Sz44 Ng44 Hs44 Ft44 (fits_nar_char _) W45 2 rfl (Nat.le_of_ble_eq_true rfl)
        have Zs45 : n0 ≤ h45.size := Nat.le_trans Zs31 (Keep.of_wr W45).1
        have N45 := Fr.snoc X45 N31 g_ba31
        have Ol45 := Ol31.wr W45 g_ba31
        refine own_go (b := T45.setTop (mkF m 72 #[iv mr, iv wr, iv pr, iv cr, iv er, iv 1, iv 0, .unset, rv ba31, iv 2, .unset] [])) st45 ?_
        obtain ⟨T46, h46, X46, e46, E46, A46, D46, -, st46⟩ := newO X45 hx hZ hown (hw _ (List.mem_of_getElem? (i := 1) rfl)) (hw _ (List.mem_of_getElem? (i := 2) rfl)) (hw _ (List.mem_of_getElem? (i := 3) rfl)) e45 (g := (mkF m 72 #[iv mr, iv wr, iv pr, iv cr, iv er, iv 1, iv 0, .unset, rv ba31, iv 2, .unset] [])) rfl (hb hby at_72) (by decide) (by decide)
        obtain ⟨b46, g46⟩ : ∃ z, z = h45.size := ⟨_, rfl⟩
        rw [← g46] at A46 D46 st46
        have g_b46 : n0 ≤ b46 := Nat.le_trans Zs45 (Nat.le_of_eq g46.symm)
        have Zs46 : n0 ≤ h46.size := Nat.le_trans Zs45 E46.1
        have Ol46 := Ol45.ext E46
        have F_coder_b46 : Fld Z h46 b46 "java/lang/String" "coder" "B" (.int 0) := D46 (Or.inr (hw _ (List.mem_of_getElem? (i := 32) rfl))) (ty := .byte) (by decide)
        have F_value_b46 : Fld Z h46 b46 "java/lang/String" "value" "[B" .null := D46 (Or.inr (hw _ (List.mem_of_getElem? (i := 34) rfl))) (ty := (.array .byte)) (by decide)
        refine own_go (b := T46.setTop (mkF m 75 #[iv mr, iv wr, iv pr, iv cr, iv er, iv 1, iv 0, .unset, rv ba31, iv 2, .unset] [(.ref b46)])) st46 ?_
        refine own_go (b := T46.setTop (mkF m 76 #[iv mr, iv wr, iv pr, iv cr, iv er, iv 1, iv 0, .unset, rv ba31, iv 2, .unset] [(.ref b46), (.ref b46)])) (fun t k => XS.dup X46.here hx rfl (hb hby at_75) rfl rfl k) ?_
        refine own_go (b := T46.setTop (mkF m 78 #[iv mr, iv wr, iv pr, iv cr, iv er, iv 1, iv 0, .unset, rv ba31, iv 2, .unset] [(.ref ba31), (.ref b46), (.ref b46)])) (fun t k => XS.aload X46.here hx rfl (hb hby at_76) rfl rfl k) ?_
        have hp48 : ∀ c ∈ ([(nar .char (101 : Int32)), (nar .char (114 : Int32)), (nar .char ((cr &&& (255 : Int32)).toUInt32.toUInt16.toUInt32.toInt32)), (nar .char (111 : Int32)), (nar .char (114 : Int32)), (nar .char (115 : Int32)), (nar .char (45 : Int32)), (nar .char (108 : Int32)), (nar .char (105 : Int32)), (nar .char (115 : Int32)), (nar .char (116 : Int32))] : List Int32), ¬ c < 0 ∧ ¬ (255 : Int32) < c := by
          intro c hc
          simp only [List.mem_cons, List.not_mem_nil, or_false] at hc
          rcases hc with rfl | rfl | rfl | rfl | rfl | rfl | rfl | rfl | rfl | rfl | rfl
          · exact (by decide +kernel)
          · exact (by decide +kernel)
          · exact own_and255 cr
          · exact (by decide +kernel)
          · exact (by decide +kernel)
          · exact (by decide +kernel)
          · exact (by decide +kernel)
          · exact (by decide +kernel)
          · exact (by decide +kernel)
          · exact (by decide +kernel)
          · exact (by decide +kernel)
        obtain ⟨_, _, ⟨T47, L47, k47, n47⟩, -, X47, ⟨Lc47, hQ47, l47, y47, z47⟩, st47⟩ := X46.specialBack hx (y := (⟨"java/lang/String", "<init>", "([C)V"⟩ : MethodName)) rfl hown (mvT hZ (hw _ (List.mem_of_getElem? (i := 9) rfl))) (mvT hZ (hw _ (List.mem_of_getElem? (i := 10) rfl))) (mvT hZ (hw _ (List.mem_of_getElem? (i := 11) rfl))) (by decide) (StrChars.Road.backV (W := 1) hZ hws (kI := 4) (hw _ (List.mem_of_getElem? (i := 2) rfl)) (cs := ([(nar .char (101 : Int32)), (nar .char (114 : Int32)), (nar .char ((cr &&& (255 : Int32)).toUInt32.toUInt16.toUInt32.toInt32)), (nar .char (111 : Int32)), (nar .char (114 : Int32)), (nar .char (115 : Int32)), (nar .char (45 : Int32)), (nar .char (108 : Int32)), (nar .char (105 : Int32)), (nar .char (115 : Int32)), (nar .char (116 : Int32))] : List Int32)) (bs := (([(nar .char (101 : Int32)), (nar .char (114 : Int32)), (nar .char ((cr &&& (255 : Int32)).toUInt32.toUInt16.toUInt32.toInt32)), (nar .char (111 : Int32)), (nar .char (114 : Int32)), (nar .char (115 : Int32)), (nar .char (45 : Int32)), (nar .char (108 : Int32)), (nar .char (105 : Int32)), (nar .char (115 : Int32)), (nar .char (116 : Int32))] : List Int32)).map (fun c => c.toInt8.toInt32)) (n := 11) g_b46 Zs46 A46 F_value_b46 F_coder_b46 (V_ba31_45.ext E46) (O2.ext Ol46.2) P5 rfl rfl (by decide) (by decide) hp48 rfl (by decide) (by decide)) (g := (mkF m 78 #[iv mr, iv wr, iv pr, iv cr, iv er, iv 1, iv 0, .unset, rv ba31, iv 2, .unset] [(.ref ba31), (.ref b46), (.ref b46)])) rfl (by rw [hml]; rfl) (Steps.refl _) (a := b46) (argsL := [(.ref ba31)]) (rest := [(.ref b46)]) (lenOf pd_13 rfl) rfl (by show 2 * 0 + _ ≤ _; exact Nat.le_of_eq rfl) (hb hby at_78) (fun _ _ => ⟨rfl, e46, (by decide : 2 + 1 ≤ _), (by decide : 15 + 11 ≤ _)⟩)
        dsimp only [Pt.U, Pt.locs, Pt.cells, Pt.slots] at X47 l47 y47 z47 st47 hQ47
        subst l47 y47 z47
        obtain ⟨rfl, N47q, K47, Es47, Cs47, t47, kb47, ua47, ub47, uc47, Vs47, Ks47⟩ := hQ47
        have Zs47 : n0 ≤ T47.heap.size := Nat.le_trans Zs46 K47.1
        have N47 := Fr.app N45 N47q
        have Ol47 := Ol46.keep K47 (allS g_b46 all0)
        obtain ⟨lq47, X47, N47⟩ : ∃ lq, Stand p l e room_1 (s.setVm s.vm) m #[(.int mr), (.int wr), (.int pr), (.int cr), (.int er)] below meth c T47 lq 3 26 ∧ Fr n0 lq := ⟨_, X47, N47⟩
        refine own_tr (b := T47.setTop (mkF m 81 #[iv mr, iv wr, iv pr, iv cr, iv er, iv 1, iv 0, .unset, rv ba31, iv 2, .unset] [(.ref b46)])) st47 ?_
        refine own_go (b := T47.setTop (mkF m 83 #[iv mr, iv wr, iv pr, iv cr, iv er, iv 1, iv 0, rv b46, rv ba31, iv 2, .unset] [])) (fun t k => XS.astore X47.here hx rfl (hb hby at_81) rfl rfl (l' := #[iv mr, iv wr, iv pr, iv cr, iv er, iv 1, iv 0, rv b46, rv ba31, iv 2, .unset]) rfl k) ?_
        refine own_go (b := T47.setTop (mkF m 155 #[iv mr, iv wr, iv pr, iv cr, iv er, iv 1, iv 0, rv b46, rv ba31, iv 2, .unset] [])) (fun t k => XS.goto X47.here hx rfl (pc0 := 83) (pc' := 155) rfl (hb hby at_83) (by decide) (by decide) k) ?_
        exact J155 T47 T47.heap _ s.vm _ (1 : Int32) (0 : Int32) b46 ([(nar .char (101 : Int32)), (nar .char (114 : Int32)), (nar .char ((cr &&& (255 : Int32)).toUInt32.toUInt16.toUInt32.toInt32)), (nar .char (111 : Int32)), (nar .char (114 : Int32)), (nar .char (115 : Int32)), (nar .char (45 : Int32)), (nar .char (108 : Int32)), (nar .char (105 : Int32)), (nar .char (115 : Int32)), (nar .char (116 : Int32))] : List Int32) (rv ba31) (iv 2) (own_mono X47 (by decide) (by decide)) rfl N47 Zs47 Ol47 hS0 ((((Le0.keep K31).wr W45).ext E46).keep K47) hZ hown (own_IBm I0 rfl (by simp)) ⟨t47, _, Es47, Vs47, Cs47, Ks47, hp48, (Nat.le_of_ble_eq_true rfl)⟩ (Or.inr ⟨_, rfl, rfl⟩) (Or.inr ⟨_, rfl, rfl⟩)
      | 3, _, hX33 =>
        replace hX33 : ((pr &&& (2147483647 : Int32)) % (11 : Int32)) = (3 : Int32) := hX33
        rw [hX33]
        refine own_go (b := T31.setTop (mkF m 63 #[iv mr, iv wr, iv pr, iv cr, iv er, iv 1, iv 0, .unset, rv ba31, iv 3, .unset] [(.ref ba31)])) (fun t k => XS.aload X31.here hx rfl (hb hby at_61) rfl rfl k) ?_
        refine own_go (b := T31.setTop (mkF m 65 #[iv mr, iv wr, iv pr, iv cr, iv er, iv 1, iv 0, .unset, rv ba31, iv 3, .unset] [(.int 3), (.ref ba31)])) (fun t k => XS.iload X31.here hx rfl (hb hby at_63) rfl  k) ?_
        refine own_go (b := T31.setTop (mkF m 66 #[iv mr, iv wr, iv pr, iv cr, iv er, iv 1, iv 0, .unset, rv ba31, iv 3, .unset] [(.int cr), (.int 3), (.ref ba31)])) (fun t k => XS.iloadN X31.here hx rfl (hb hby at_65) rfl  k) ?_
        refine own_go (b := T31.setTop (mkF m 69 #[iv mr, iv wr, iv pr, iv cr, iv er, iv 1, iv 0, .unset, rv ba31, iv 3, .unset] [(.int 255), (.int cr), (.int 3), (.ref ba31)])) (fun t k => XS.sipush X31.here hx rfl (hb hby at_66) k) ?_
        refine own_go (b := T31.setTop (mkF m 70 #[iv mr, iv wr, iv pr, iv cr, iv er, iv 1, iv 0, .unset, rv ba31, iv 3, .unset] [(.int (cr &&& (255 : Int32))), (.int 3), (.ref ba31)])) (fun t k => XS.iand X31.here hx rfl (hb hby at_69) rfl k) ?_
        refine own_go (b := T31.setTop (mkF m 71 #[iv mr, iv wr, iv pr, iv cr, iv er, iv 1, iv 0, .unset, rv ba31, iv 3, .unset] [(.int ((cr &&& (255 : Int32)).toUInt32.toUInt16.toUInt32.toInt32)), (.int 3), (.ref ba31)])) (fun t k => XS.i2c X31.here hx rfl (hb hby at_70) rfl k) ?_
        obtain ⟨cl49, Ar49, qc49, Sz49, Ng49, Hs49, Ft49⟩ := id Va31
        have hin49 : ¬ ((3 : Int32) < 0 ∨ cl49.slots.size ≤ ((3 : Int32)).toNatClampNeg) := inb_of Sz49 ⟨by decide, by decide⟩
        obtain ⟨T50, h50, X50, e50, W50, st50⟩ := stC X31 hx hZ rfl Ar49 (j := (3 : Int32)) hin49 (g := (mkF m 71 #[iv mr, iv wr, iv pr, iv cr, iv er, iv 1, iv 0, .unset, rv ba31, iv 3, .unset] [(.int ((cr &&& (255 : Int32)).toUInt32.toUInt16.toUInt32.toInt32)), (.int 3), (.ref ba31)])) rfl rfl (hb hby at_71)
        have V_ba31_50 : Arv Z h50 ba31 kc31 .char (11 : Int32) [(.int (nar .char (101 : Int32))), (.int (nar .char (114 : Int32))), (.int (nar .char (114 : Int32))), (.int (nar .char ((cr &&& (255 : Int32)).toUInt32.toUInt16.toUInt32.toInt32))), (.int (nar .char (114 : Int32))), (.int (nar .char (115 : Int32))), (.int (nar .char (45 : Int32))), (.int (nar .char (108 : Int32))), (.int (nar .char (105 : Int32))), (.int (nar .char (115 : Int32))), (.int (nar .char (116 : Int32)))] (.int (0 : Int32)) := Arv.set Ar49 qc49 Sz49 Ng49 Hs49 Ft49 (fits_nar_char _) W50 3 rfl (Nat.le_of_ble_eq_true rfl)
        have Zs50 : n0 ≤ h50.size := Nat.le_trans Zs31 (Keep.of_wr W50).1
        have N50 := Fr.snoc X50 N31 g_ba31
        have Ol50 := Ol31.wr W50 g_ba31
        refine own_go (b := T50.setTop (mkF m 72 #[iv mr, iv wr, iv pr, iv cr, iv er, iv 1, iv 0, .unset, rv ba31, iv 3, .unset] [])) st50 ?_
        obtain ⟨T51, h51, X51, e51, E51, A51, D51, -, st51⟩ := newO X50 hx hZ hown (hw _ (List.mem_of_getElem? (i := 1) rfl)) (hw _ (List.mem_of_getElem? (i := 2) rfl)) (hw _ (List.mem_of_getElem? (i := 3) rfl)) e50 (g := (mkF m 72 #[iv mr, iv wr, iv pr, iv cr, iv er, iv 1, iv 0, .unset, rv ba31, iv 3, .unset] [])) rfl (hb hby at_72) (by decide) (by decide)
        obtain ⟨b51, g51⟩ : ∃ z, z = h50.size := ⟨_, rfl⟩
        rw [← g51] at A51 D51 st51
        have g_b51 : n0 ≤ b51 := Nat.le_trans Zs50 (Nat.le_of_eq g51.symm)
        have Zs51 : n0 ≤ h51.size := Nat.le_trans Zs50 E51.1
        have Ol51 := Ol50.ext E51
        have F_coder_b51 : Fld Z h51 b51 "java/lang/String" "coder" "B" (.int 0) := D51 (Or.inr (hw _ (List.mem_of_getElem? (i := 32) rfl))) (ty := .byte) (by decide)
        have F_value_b51 : Fld Z h51 b51 "java/lang/String" "value" "[B" .null := D51 (Or.inr (hw _ (List.mem_of_getElem? (i := 34) rfl))) (ty := (.array .byte)) (by decide)
        refine own_go (b := T51.setTop (mkF m 75 #[iv mr, iv wr, iv pr, iv cr, iv er, iv 1, iv 0, .unset, rv ba31, iv 3, .unset] [(.ref b51)])) st51 ?_
        refine own_go (b := T51.setTop (mkF m 76 #[iv mr, iv wr, iv pr, iv cr, iv er, iv 1, iv 0, .unset, rv ba31, iv 3, .unset] [(.ref b51), (.ref b51)])) (fun t k => XS.dup X51.here hx rfl (hb hby at_75) rfl rfl k) ?_
        refine own_go (b := T51.setTop (mkF m 78 #[iv mr, iv wr, iv pr, iv cr, iv er, iv 1, iv 0, .unset, rv ba31, iv 3, .unset] [(.ref ba31), (.ref b51), (.ref b51)])) (fun t k => XS.aload X51.here hx rfl (hb hby at_76) rfl rfl k) ?_
        have hp53 : ∀ c ∈ ([(nar .char (101 : Int32)), (nar .char (114 : Int32)), (nar .char (114 : Int32)), (nar .char ((cr &&& (255 : Int32)).toUInt32.toUInt16.toUInt32.toInt32)), (nar .char (114 : Int32)), (nar .char (115 : Int32)), (nar .char (45 : Int32)), (nar .char (108 : Int32)), (nar .char (105 : Int32)), (nar .char (115 : Int32)), (nar .char (116 : Int32))] : List Int32), ¬ c < 0 ∧ ¬ (255 : Int32) < c := by
          intro c hc
          simp only [List.mem_cons, List.not_mem_nil, or_false] at hc
          rcases hc with rfl | rfl | rfl | rfl | rfl | rfl | rfl | rfl | rfl | rfl | rfl
          · exact (by decide +kernel)
          · exact (by decide +kernel)
          · exact (by decide +kernel)
          · exact own_and255 cr
          · exact (by decide +kernel)
          · exact (by decide +kernel)
          · exact (by decide +kernel)
          · exact (by decide +kernel)
          · exact (by decide +kernel)
          · exact (by decide +kernel)
          · exact (by decide +kernel)
        obtain ⟨_, _, ⟨T52, L52, k52, n52⟩, -, X52, ⟨Lc52, hQ52, l52, y52, z52⟩, st52⟩ := X51.specialBack hx (y := (⟨"java/lang/String", "<init>", "([C)V"⟩ : MethodName)) rfl hown (mvT hZ (hw _ (List.mem_of_getElem? (i := 9) rfl))) (mvT hZ (hw _ (List.mem_of_getElem? (i := 10) rfl))) (mvT hZ (hw _ (List.mem_of_getElem? (i := 11) rfl))) (by decide) (StrChars.Road.backV (W := 1) hZ hws (kI := 4) (hw _ (List.mem_of_getElem? (i := 2) rfl)) (cs := ([(nar .char (101 : Int32)), (nar .char (114 : Int32)), (nar .char (114 : Int32)), (nar .char ((cr &&& (255 : Int32)).toUInt32.toUInt16.toUInt32.toInt32)), (nar .char (114 : Int32)), (nar .char (115 : Int32)), (nar .char (45 : Int32)), (nar .char (108 : Int32)), (nar .char (105 : Int32)), (nar .char (115 : Int32)), (nar .char (116 : Int32))] : List Int32)) (bs := (([(nar .char (101 : Int32)), (nar .char (114 : Int32)), (nar .char (114 : Int32)), (nar .char ((cr &&& (255 : Int32)).toUInt32.toUInt16.toUInt32.toInt32)), (nar .char (114 : Int32)), (nar .char (115 : Int32)), (nar .char (45 : Int32)), (nar .char (108 : Int32)), (nar .char (105 : Int32)), (nar .char (115 : Int32)), (nar .char (116 : Int32))] : List Int32)).map (fun c => c.toInt8.toInt32)) (n := 11) g_b51 Zs51 A51 F_value_b51 F_coder_b51 (V_ba31_50.ext E51) (O2.ext Ol51.2) P5 rfl rfl (by decide) (by decide) hp53 rfl (by decide) (by decide)) (g := (mkF m 78 #[iv mr, iv wr, iv pr, iv cr, iv er, iv 1, iv 0, .unset, rv ba31, iv 3, .unset] [(.ref ba31), (.ref b51), (.ref b51)])) rfl (by rw [hml]; rfl) (Steps.refl _) (a := b51) (argsL := [(.ref ba31)]) (rest := [(.ref b51)]) (lenOf pd_13 rfl) rfl (by show 2 * 0 + _ ≤ _; exact Nat.le_of_eq rfl) (hb hby at_78) (fun _ _ => ⟨rfl, e51, (by decide : 2 + 1 ≤ _), (by decide : 15 + 11 ≤ _)⟩)
        dsimp only [Pt.U, Pt.locs, Pt.cells, Pt.slots] at X52 l52 y52 z52 st52 hQ52
        subst l52 y52 z52
        obtain ⟨rfl, N52q, K52, Es52, Cs52, t52, kb52, ua52, ub52, uc52, Vs52, Ks52⟩ := hQ52
        have Zs52 : n0 ≤ T52.heap.size := Nat.le_trans Zs51 K52.1
        have N52 := Fr.app N50 N52q
        have Ol52 := Ol51.keep K52 (allS g_b51 all0)
        obtain ⟨lq52, X52, N52⟩ : ∃ lq, Stand p l e room_1 (s.setVm s.vm) m #[(.int mr), (.int wr), (.int pr), (.int cr), (.int er)] below meth c T52 lq 3 26 ∧ Fr n0 lq := ⟨_, X52, N52⟩
        refine own_tr (b := T52.setTop (mkF m 81 #[iv mr, iv wr, iv pr, iv cr, iv er, iv 1, iv 0, .unset, rv ba31, iv 3, .unset] [(.ref b51)])) st52 ?_
        refine own_go (b := T52.setTop (mkF m 83 #[iv mr, iv wr, iv pr, iv cr, iv er, iv 1, iv 0, rv b51, rv ba31, iv 3, .unset] [])) (fun t k => XS.astore X52.here hx rfl (hb hby at_81) rfl rfl (l' := #[iv mr, iv wr, iv pr, iv cr, iv er, iv 1, iv 0, rv b51, rv ba31, iv 3, .unset]) rfl k) ?_
        refine own_go (b := T52.setTop (mkF m 155 #[iv mr, iv wr, iv pr, iv cr, iv er, iv 1, iv 0, rv b51, rv ba31, iv 3, .unset] [])) (fun t k => XS.goto X52.here hx rfl (pc0 := 83) (pc' := 155) rfl (hb hby at_83) (by decide) (by decide) k) ?_
        exact J155 T52 T52.heap _ s.vm _ (1 : Int32) (0 : Int32) b51 ([(nar .char (101 : Int32)), (nar .char (114 : Int32)), (nar .char (114 : Int32)), (nar .char ((cr &&& (255 : Int32)).toUInt32.toUInt16.toUInt32.toInt32)), (nar .char (114 : Int32)), (nar .char (115 : Int32)), (nar .char (45 : Int32)), (nar .char (108 : Int32)), (nar .char (105 : Int32)), (nar .char (115 : Int32)), (nar .char (116 : Int32))] : List Int32) (rv ba31) (iv 3) (own_mono X52 (by decide) (by decide)) rfl N52 Zs52 Ol52 hS0 ((((Le0.keep K31).wr W50).ext E51).keep K52) hZ hown (own_IBm I0 rfl (by simp)) ⟨t52, _, Es52, Vs52, Cs52, Ks52, hp53, (Nat.le_of_ble_eq_true rfl)⟩ (Or.inr ⟨_, rfl, rfl⟩) (Or.inr ⟨_, rfl, rfl⟩)
      | 4, _, hX33 =>
        replace hX33 : ((pr &&& (2147483647 : Int32)) % (11 : Int32)) = (4 : Int32) := hX33
        rw [hX33]
        refine own_go (b := T31.setTop (mkF m 63 #[iv mr, iv wr, iv pr, iv cr, iv er, iv 1, iv 0, .unset, rv ba31, iv 4, .unset] [(.ref ba31)])) (fun t k => XS.aload X31.here hx rfl (hb hby at_61) rfl rfl k) ?_
        refine own_go (b := T31.setTop (mkF m 65 #[iv mr, iv wr, iv pr, iv cr, iv er, iv 1, iv 0, .unset, rv ba31, iv 4, .unset] [(.int 4), (.ref ba31)])) (fun t k => XS.iload X31.here hx rfl (hb hby at_63) rfl  k) ?_
        refine own_go (b := T31.setTop (mkF m 66 #[iv mr, iv wr, iv pr, iv cr, iv er, iv 1, iv 0, .unset, rv ba31, iv 4, .unset] [(.int cr), (.int 4), (.ref ba31)])) (fun t k => XS.iloadN X31.here hx rfl (hb hby at_65) rfl  k) ?_
        refine own_go (b := T31.setTop (mkF m 69 #[iv mr, iv wr, iv pr, iv cr, iv er, iv 1, iv 0, .unset, rv ba31, iv 4, .unset] [(.int 255), (.int cr), (.int 4), (.ref ba31)])) (fun t k => XS.sipush X31.here hx rfl (hb hby at_66) k) ?_
        refine own_go (b := T31.setTop (mkF m 70 #[iv mr, iv wr, iv pr, iv cr, iv er, iv 1, iv 0, .unset, rv ba31, iv 4, .unset] [(.int (cr &&& (255 : Int32))), (.int 4), (.ref ba31)])) (fun t k => XS.iand X31.here hx rfl (hb hby at_69) rfl k) ?_
        refine own_go (b := T31.setTop (mkF m 71 #[iv mr, iv wr, iv pr, iv cr, iv er, iv 1, iv 0, .unset, rv ba31, iv 4, .unset] [(.int ((cr &&& (255 : Int32)).toUInt32.toUInt16.toUInt32.toInt32)), (.int 4), (.ref ba31)])) (fun t k => XS.i2c X31.here hx rfl (hb hby at_70) rfl k) ?_
        obtain ⟨cl54, Ar54, qc54, Sz54, Ng54, Hs54, Ft54⟩ := id Va31
        have hin54 : ¬ ((4 : Int32) < 0 ∨ cl54.slots.size ≤ ((4 : Int32)).toNatClampNeg) := inb_of Sz54 ⟨by decide, by decide⟩
        obtain ⟨T55, h55, X55, e55, W55, st55⟩ := stC X31 hx hZ rfl Ar54 (j := (4 : Int32)) hin54 (g := (mkF m 71 #[iv mr, iv wr, iv pr, iv cr, iv er, iv 1, iv 0, .unset, rv ba31, iv 4, .unset] [(.int ((cr &&& (255 : Int32)).toUInt32.toUInt16.toUInt32.toInt32)), (.int 4), (.ref ba31)])) rfl rfl (hb hby at_71)
        have V_ba31_55 : Arv Z h55 ba31 kc31 .char (11 : Int32) [(.int (nar .char (101 : Int32))), (.int (nar .char (114 : Int32))), (.int (nar .char (114 : Int32))), (.int (nar .char (111 : Int32))), (.int (nar .char ((cr &&& (255 : Int32)).toUInt32.toUInt16.toUInt32.toInt32))), (.int (nar .char (115 : Int32))), (.int (nar .char (45 : Int32))), (.int (nar .char (108 : Int32))), (.int (nar .char (105 : Int32))), (.int (nar .char (115 : Int32))), (.int (nar .char (116 : Int32)))] (.int (0 : Int32)) := Arv.set Ar54 qc54 Sz54 Ng54 Hs54 Ft54 (fits_nar_char _) W55 4 rfl (Nat.le_of_ble_eq_true rfl)
        have Zs55 : n0 ≤ h55.size := Nat.le_trans Zs31 (Keep.of_wr W55).1
        have N55 := Fr.snoc X55 N31 g_ba31
        have Ol55 := Ol31.wr W55 g_ba31
        refine own_go (b := T55.setTop (mkF m 72 #[iv mr, iv wr, iv pr, iv cr, iv er, iv 1, iv 0, .unset, rv ba31, iv 4, .unset] [])) st55 ?_
        obtain ⟨T56, h56, X56, e56, E56, A56, D56, -, st56⟩ := newO X55 hx hZ hown (hw _ (List.mem_of_getElem? (i := 1) rfl)) (hw _ (List.mem_of_getElem? (i := 2) rfl)) (hw _ (List.mem_of_getElem? (i := 3) rfl)) e55 (g := (mkF m 72 #[iv mr, iv wr, iv pr, iv cr, iv er, iv 1, iv 0, .unset, rv ba31, iv 4, .unset] [])) rfl (hb hby at_72) (by decide) (by decide)
        obtain ⟨b56, g56⟩ : ∃ z, z = h55.size := ⟨_, rfl⟩
        rw [← g56] at A56 D56 st56
        have g_b56 : n0 ≤ b56 := Nat.le_trans Zs55 (Nat.le_of_eq g56.symm)
        have Zs56 : n0 ≤ h56.size := Nat.le_trans Zs55 E56.1
        have Ol56 := Ol55.ext E56
        have F_coder_b56 : Fld Z h56 b56 "java/lang/String" "coder" "B" (.int 0) := D56 (Or.inr (hw _ (List.mem_of_getElem? (i := 32) rfl))) (ty := .byte) (by decide)
        have F_value_b56 : Fld Z h56 b56 "java/lang/String" "value" "[B" .null := D56 (Or.inr (hw _ (List.mem_of_getElem? (i := 34) rfl))) (ty := (.array .byte)) (by decide)
        refine own_go (b := T56.setTop (mkF m 75 #[iv mr, iv wr, iv pr, iv cr, iv er, iv 1, iv 0, .unset, rv ba31, iv 4, .unset] [(.ref b56)])) st56 ?_
        refine own_go (b := T56.setTop (mkF m 76 #[iv mr, iv wr, iv pr, iv cr, iv er, iv 1, iv 0, .unset, rv ba31, iv 4, .unset] [(.ref b56), (.ref b56)])) (fun t k => XS.dup X56.here hx rfl (hb hby at_75) rfl rfl k) ?_
        refine own_go (b := T56.setTop (mkF m 78 #[iv mr, iv wr, iv pr, iv cr, iv er, iv 1, iv 0, .unset, rv ba31, iv 4, .unset] [(.ref ba31), (.ref b56), (.ref b56)])) (fun t k => XS.aload X56.here hx rfl (hb hby at_76) rfl rfl k) ?_
        have hp58 : ∀ c ∈ ([(nar .char (101 : Int32)), (nar .char (114 : Int32)), (nar .char (114 : Int32)), (nar .char (111 : Int32)), (nar .char ((cr &&& (255 : Int32)).toUInt32.toUInt16.toUInt32.toInt32)), (nar .char (115 : Int32)), (nar .char (45 : Int32)), (nar .char (108 : Int32)), (nar .char (105 : Int32)), (nar .char (115 : Int32)), (nar .char (116 : Int32))] : List Int32), ¬ c < 0 ∧ ¬ (255 : Int32) < c := by
          intro c hc
          simp only [List.mem_cons, List.not_mem_nil, or_false] at hc
          rcases hc with rfl | rfl | rfl | rfl | rfl | rfl | rfl | rfl | rfl | rfl | rfl
          · exact (by decide +kernel)
          · exact (by decide +kernel)
          · exact (by decide +kernel)
          · exact (by decide +kernel)
          · exact own_and255 cr
          · exact (by decide +kernel)
          · exact (by decide +kernel)
          · exact (by decide +kernel)
          · exact (by decide +kernel)
          · exact (by decide +kernel)
          · exact (by decide +kernel)
        obtain ⟨_, _, ⟨T57, L57, k57, n57⟩, -, X57, ⟨Lc57, hQ57, l57, y57, z57⟩, st57⟩ := X56.specialBack hx (y := (⟨"java/lang/String", "<init>", "([C)V"⟩ : MethodName)) rfl hown (mvT hZ (hw _ (List.mem_of_getElem? (i := 9) rfl))) (mvT hZ (hw _ (List.mem_of_getElem? (i := 10) rfl))) (mvT hZ (hw _ (List.mem_of_getElem? (i := 11) rfl))) (by decide) (StrChars.Road.backV (W := 1) hZ hws (kI := 4) (hw _ (List.mem_of_getElem? (i := 2) rfl)) (cs := ([(nar .char (101 : Int32)), (nar .char (114 : Int32)), (nar .char (114 : Int32)), (nar .char (111 : Int32)), (nar .char ((cr &&& (255 : Int32)).toUInt32.toUInt16.toUInt32.toInt32)), (nar .char (115 : Int32)), (nar .char (45 : Int32)), (nar .char (108 : Int32)), (nar .char (105 : Int32)), (nar .char (115 : Int32)), (nar .char (116 : Int32))] : List Int32)) (bs := (([(nar .char (101 : Int32)), (nar .char (114 : Int32)), (nar .char (114 : Int32)), (nar .char (111 : Int32)), (nar .char ((cr &&& (255 : Int32)).toUInt32.toUInt16.toUInt32.toInt32)), (nar .char (115 : Int32)), (nar .char (45 : Int32)), (nar .char (108 : Int32)), (nar .char (105 : Int32)), (nar .char (115 : Int32)), (nar .char (116 : Int32))] : List Int32)).map (fun c => c.toInt8.toInt32)) (n := 11) g_b56 Zs56 A56 F_value_b56 F_coder_b56 (V_ba31_55.ext E56) (O2.ext Ol56.2) P5 rfl rfl (by decide) (by decide) hp58 rfl (by decide) (by decide)) (g := (mkF m 78 #[iv mr, iv wr, iv pr, iv cr, iv er, iv 1, iv 0, .unset, rv ba31, iv 4, .unset] [(.ref ba31), (.ref b56), (.ref b56)])) rfl (by rw [hml]; rfl) (Steps.refl _) (a := b56) (argsL := [(.ref ba31)]) (rest := [(.ref b56)]) (lenOf pd_13 rfl) rfl (by show 2 * 0 + _ ≤ _; exact Nat.le_of_eq rfl) (hb hby at_78) (fun _ _ => ⟨rfl, e56, (by decide : 2 + 1 ≤ _), (by decide : 15 + 11 ≤ _)⟩)
        dsimp only [Pt.U, Pt.locs, Pt.cells, Pt.slots] at X57 l57 y57 z57 st57 hQ57
        subst l57 y57 z57
        obtain ⟨rfl, N57q, K57, Es57, Cs57, t57, kb57, ua57, ub57, uc57, Vs57, Ks57⟩ := hQ57
        have Zs57 : n0 ≤ T57.heap.size := Nat.le_trans Zs56 K57.1
        have N57 := Fr.app N55 N57q
        have Ol57 := Ol56.keep K57 (allS g_b56 all0)
        obtain ⟨lq57, X57, N57⟩ : ∃ lq, Stand p l e room_1 (s.setVm s.vm) m #[(.int mr), (.int wr), (.int pr), (.int cr), (.int er)] below meth c T57 lq 3 26 ∧ Fr n0 lq := ⟨_, X57, N57⟩
        refine own_tr (b := T57.setTop (mkF m 81 #[iv mr, iv wr, iv pr, iv cr, iv er, iv 1, iv 0, .unset, rv ba31, iv 4, .unset] [(.ref b56)])) st57 ?_
        refine own_go (b := T57.setTop (mkF m 83 #[iv mr, iv wr, iv pr, iv cr, iv er, iv 1, iv 0, rv b56, rv ba31, iv 4, .unset] [])) (fun t k => XS.astore X57.here hx rfl (hb hby at_81) rfl rfl (l' := #[iv mr, iv wr, iv pr, iv cr, iv er, iv 1, iv 0, rv b56, rv ba31, iv 4, .unset]) rfl k) ?_
        refine own_go (b := T57.setTop (mkF m 155 #[iv mr, iv wr, iv pr, iv cr, iv er, iv 1, iv 0, rv b56, rv ba31, iv 4, .unset] [])) (fun t k => XS.goto X57.here hx rfl (pc0 := 83) (pc' := 155) rfl (hb hby at_83) (by decide) (by decide) k) ?_
        exact J155 T57 T57.heap _ s.vm _ (1 : Int32) (0 : Int32) b56 ([(nar .char (101 : Int32)), (nar .char (114 : Int32)), (nar .char (114 : Int32)), (nar .char (111 : Int32)), (nar .char ((cr &&& (255 : Int32)).toUInt32.toUInt16.toUInt32.toInt32)), (nar .char (115 : Int32)), (nar .char (45 : Int32)), (nar .char (108 : Int32)), (nar .char (105 : Int32)), (nar .char (115 : Int32)), (nar .char (116 : Int32))] : List Int32) (rv ba31) (iv 4) (own_mono X57 (by decide) (by decide)) rfl N57 Zs57 Ol57 hS0 ((((Le0.keep K31).wr W55).ext E56).keep K57) hZ hown (own_IBm I0 rfl (by simp)) ⟨t57, _, Es57, Vs57, Cs57, Ks57, hp58, (Nat.le_of_ble_eq_true rfl)⟩ (Or.inr ⟨_, rfl, rfl⟩) (Or.inr ⟨_, rfl, rfl⟩)
      | 5, _, hX33 =>
        replace hX33 : ((pr &&& (2147483647 : Int32)) % (11 : Int32)) = (5 : Int32) := hX33
        rw [hX33]
        refine own_go (b := T31.setTop (mkF m 63 #[iv mr, iv wr, iv pr, iv cr, iv er, iv 1, iv 0, .unset, rv ba31, iv 5, .unset] [(.ref ba31)])) (fun t k => XS.aload X31.here hx rfl (hb hby at_61) rfl rfl k) ?_
        refine own_go (b := T31.setTop (mkF m 65 #[iv mr, iv wr, iv pr, iv cr, iv er, iv 1, iv 0, .unset, rv ba31, iv 5, .unset] [(.int 5), (.ref ba31)])) (fun t k => XS.iload X31.here hx rfl (hb hby at_63) rfl  k) ?_
        refine own_go (b := T31.setTop (mkF m 66 #[iv mr, iv wr, iv pr, iv cr, iv er, iv 1, iv 0, .unset, rv ba31, iv 5, .unset] [(.int cr), (.int 5), (.ref ba31)])) (fun t k => XS.iloadN X31.here hx rfl (hb hby at_65) rfl  k) ?_
        refine own_go (b := T31.setTop (mkF m 69 #[iv mr, iv wr, iv pr, iv cr, iv er, iv 1, iv 0, .unset, rv ba31, iv 5, .unset] [(.int 255), (.int cr), (.int 5), (.ref ba31)])) (fun t k => XS.sipush X31.here hx rfl (hb hby at_66) k) ?_
        refine own_go (b := T31.setTop (mkF m 70 #[iv mr, iv wr, iv pr, iv cr, iv er, iv 1, iv 0, .unset, rv ba31, iv 5, .unset] [(.int (cr &&& (255 : Int32))), (.int 5), (.ref ba31)])) (fun t k => XS.iand X31.here hx rfl (hb hby at_69) rfl k) ?_
        refine own_go (b := T31.setTop (mkF m 71 #[iv mr, iv wr, iv pr, iv cr, iv er, iv 1, iv 0, .unset, rv ba31, iv 5, .unset] [(.int ((cr &&& (255 : Int32)).toUInt32.toUInt16.toUInt32.toInt32)), (.int 5), (.ref ba31)])) (fun t k => XS.i2c X31.here hx rfl (hb hby at_70) rfl k) ?_
        obtain ⟨cl59, Ar59, qc59, Sz59, Ng59, Hs59, Ft59⟩ := id Va31
        have hin59 : ¬ ((5 : Int32) < 0 ∨ cl59.slots.size ≤ ((5 : Int32)).toNatClampNeg) := inb_of Sz59 ⟨by decide, by decide⟩
        obtain ⟨T60, h60, X60, e60, W60, st60⟩ := stC X31 hx hZ rfl Ar59 (j := (5 : Int32)) hin59 (g := (mkF m 71 #[iv mr, iv wr, iv pr, iv cr, iv er, iv 1, iv 0, .unset, rv ba31, iv 5, .unset] [(.int ((cr &&& (255 : Int32)).toUInt32.toUInt16.toUInt32.toInt32)), (.int 5), (.ref ba31)])) rfl rfl (hb hby at_71)
        have V_ba31_60 : Arv Z h60 ba31 kc31 .char (11 : Int32) [(.int (nar .char (101 : Int32))), (.int (nar .char (114 : Int32))), (.int (nar .char (114 : Int32))), (.int (nar .char (111 : Int32))), (.int (nar .char (114 : Int32))), (.int (nar .char ((cr &&& (255 : Int32)).toUInt32.toUInt16.toUInt32.toInt32))), (.int (nar .char (45 : Int32))), (.int (nar .char (108 : Int32))), (.int (nar .char (105 : Int32))), (.int (nar .char (115 : Int32))), (.int (nar .char (116 : Int32)))] (.int (0 : Int32)) := Arv.set Ar59 qc59 Sz59 Ng59 Hs59 Ft59 (fits_nar_char _) W60 5 rfl (Nat.le_of_ble_eq_true rfl)
        have Zs60 : n0 ≤ h60.size := Nat.le_trans Zs31 (Keep.of_wr W60).1
        have N60 := Fr.snoc X60 N31 g_ba31
        have Ol60 := Ol31.wr W60 g_ba31
        refine own_go (b := T60.setTop (mkF m 72 #[iv mr, iv wr, iv pr, iv cr, iv er, iv 1, iv 0, .unset, rv ba31, iv 5, .unset] [])) st60 ?_
        obtain ⟨T61, h61, X61, e61, E61, A61, D61, -, st61⟩ := newO X60 hx hZ hown (hw _ (List.mem_of_getElem? (i := 1) rfl)) (hw _ (List.mem_of_getElem? (i := 2) rfl)) (hw _ (List.mem_of_getElem? (i := 3) rfl)) e60 (g := (mkF m 72 #[iv mr, iv wr, iv pr, iv cr, iv er, iv 1, iv 0, .unset, rv ba31, iv 5, .unset] [])) rfl (hb hby at_72) (by decide) (by decide)
        obtain ⟨b61, g61⟩ : ∃ z, z = h60.size := ⟨_, rfl⟩
        rw [← g61] at A61 D61 st61
        have g_b61 : n0 ≤ b61 := Nat.le_trans Zs60 (Nat.le_of_eq g61.symm)
        have Zs61 : n0 ≤ h61.size := Nat.le_trans Zs60 E61.1
        have Ol61 := Ol60.ext E61
        have F_coder_b61 : Fld Z h61 b61 "java/lang/String" "coder" "B" (.int 0) := D61 (Or.inr (hw _ (List.mem_of_getElem? (i := 32) rfl))) (ty := .byte) (by decide)
        have F_value_b61 : Fld Z h61 b61 "java/lang/String" "value" "[B" .null := D61 (Or.inr (hw _ (List.mem_of_getElem? (i := 34) rfl))) (ty := (.array .byte)) (by decide)
        refine own_go (b := T61.setTop (mkF m 75 #[iv mr, iv wr, iv pr, iv cr, iv er, iv 1, iv 0, .unset, rv ba31, iv 5, .unset] [(.ref b61)])) st61 ?_
        refine own_go (b := T61.setTop (mkF m 76 #[iv mr, iv wr, iv pr, iv cr, iv er, iv 1, iv 0, .unset, rv ba31, iv 5, .unset] [(.ref b61), (.ref b61)])) (fun t k => XS.dup X61.here hx rfl (hb hby at_75) rfl rfl k) ?_
        refine own_go (b := T61.setTop (mkF m 78 #[iv mr, iv wr, iv pr, iv cr, iv er, iv 1, iv 0, .unset, rv ba31, iv 5, .unset] [(.ref ba31), (.ref b61), (.ref b61)])) (fun t k => XS.aload X61.here hx rfl (hb hby at_76) rfl rfl k) ?_
        have hp63 : ∀ c ∈ ([(nar .char (101 : Int32)), (nar .char (114 : Int32)), (nar .char (114 : Int32)), (nar .char (111 : Int32)), (nar .char (114 : Int32)), (nar .char ((cr &&& (255 : Int32)).toUInt32.toUInt16.toUInt32.toInt32)), (nar .char (45 : Int32)), (nar .char (108 : Int32)), (nar .char (105 : Int32)), (nar .char (115 : Int32)), (nar .char (116 : Int32))] : List Int32), ¬ c < 0 ∧ ¬ (255 : Int32) < c := by
          intro c hc
          simp only [List.mem_cons, List.not_mem_nil, or_false] at hc
          rcases hc with rfl | rfl | rfl | rfl | rfl | rfl | rfl | rfl | rfl | rfl | rfl
          · exact (by decide +kernel)
          · exact (by decide +kernel)
          · exact (by decide +kernel)
          · exact (by decide +kernel)
          · exact (by decide +kernel)
          · exact own_and255 cr
          · exact (by decide +kernel)
          · exact (by decide +kernel)
          · exact (by decide +kernel)
          · exact (by decide +kernel)
          · exact (by decide +kernel)
        obtain ⟨_, _, ⟨T62, L62, k62, n62⟩, -, X62, ⟨Lc62, hQ62, l62, y62, z62⟩, st62⟩ := X61.specialBack hx (y := (⟨"java/lang/String", "<init>", "([C)V"⟩ : MethodName)) rfl hown (mvT hZ (hw _ (List.mem_of_getElem? (i := 9) rfl))) (mvT hZ (hw _ (List.mem_of_getElem? (i := 10) rfl))) (mvT hZ (hw _ (List.mem_of_getElem? (i := 11) rfl))) (by decide) (StrChars.Road.backV (W := 1) hZ hws (kI := 4) (hw _ (List.mem_of_getElem? (i := 2) rfl)) (cs := ([(nar .char (101 : Int32)), (nar .char (114 : Int32)), (nar .char (114 : Int32)), (nar .char (111 : Int32)), (nar .char (114 : Int32)), (nar .char ((cr &&& (255 : Int32)).toUInt32.toUInt16.toUInt32.toInt32)), (nar .char (45 : Int32)), (nar .char (108 : Int32)), (nar .char (105 : Int32)), (nar .char (115 : Int32)), (nar .char (116 : Int32))] : List Int32)) (bs := (([(nar .char (101 : Int32)), (nar .char (114 : Int32)), (nar .char (114 : Int32)), (nar .char (111 : Int32)), (nar .char (114 : Int32)), (nar .char ((cr &&& (255 : Int32)).toUInt32.toUInt16.toUInt32.toInt32)), (nar .char (45 : Int32)), (nar .char (108 : Int32)), (nar .char (105 : Int32)), (nar .char (115 : Int32)), (nar .char (116 : Int32))] : List Int32)).map (fun c => c.toInt8.toInt32)) (n := 11) g_b61 Zs61 A61 F_value_b61 F_coder_b61 (V_ba31_60.ext E61) (O2.ext Ol61.2) P5 rfl rfl (by decide) (by decide) hp63 rfl (by decide) (by decide)) (g := (mkF m 78 #[iv mr, iv wr, iv pr, iv cr, iv er, iv 1, iv 0, .unset, rv ba31, iv 5, .unset] [(.ref ba31), (.ref b61), (.ref b61)])) rfl (by rw [hml]; rfl) (Steps.refl _) (a := b61) (argsL := [(.ref ba31)]) (rest := [(.ref b61)]) (lenOf pd_13 rfl) rfl (by show 2 * 0 + _ ≤ _; exact Nat.le_of_eq rfl) (hb hby at_78) (fun _ _ => ⟨rfl, e61, (by decide : 2 + 1 ≤ _), (by decide : 15 + 11 ≤ _)⟩)
        dsimp only [Pt.U, Pt.locs, Pt.cells, Pt.slots] at X62 l62 y62 z62 st62 hQ62
        subst l62 y62 z62
        obtain ⟨rfl, N62q, K62, Es62, Cs62, t62, kb62, ua62, ub62, uc62, Vs62, Ks62⟩ := hQ62
        have Zs62 : n0 ≤ T62.heap.size := Nat.le_trans Zs61 K62.1
        have N62 := Fr.app N60 N62q
        have Ol62 := Ol61.keep K62 (allS g_b61 all0)
        obtain ⟨lq62, X62, N62⟩ : ∃ lq, Stand p l e room_1 (s.setVm s.vm) m #[(.int mr), (.int wr), (.int pr), (.int cr), (.int er)] below meth c T62 lq 3 26 ∧ Fr n0 lq := ⟨_, X62, N62⟩
        refine own_tr (b := T62.setTop (mkF m 81 #[iv mr, iv wr, iv pr, iv cr, iv er, iv 1, iv 0, .unset, rv ba31, iv 5, .unset] [(.ref b61)])) st62 ?_
        refine own_go (b := T62.setTop (mkF m 83 #[iv mr, iv wr, iv pr, iv cr, iv er, iv 1, iv 0, rv b61, rv ba31, iv 5, .unset] [])) (fun t k => XS.astore X62.here hx rfl (hb hby at_81) rfl rfl (l' := #[iv mr, iv wr, iv pr, iv cr, iv er, iv 1, iv 0, rv b61, rv ba31, iv 5, .unset]) rfl k) ?_
        refine own_go (b := T62.setTop (mkF m 155 #[iv mr, iv wr, iv pr, iv cr, iv er, iv 1, iv 0, rv b61, rv ba31, iv 5, .unset] [])) (fun t k => XS.goto X62.here hx rfl (pc0 := 83) (pc' := 155) rfl (hb hby at_83) (by decide) (by decide) k) ?_
        exact J155 T62 T62.heap _ s.vm _ (1 : Int32) (0 : Int32) b61 ([(nar .char (101 : Int32)), (nar .char (114 : Int32)), (nar .char (114 : Int32)), (nar .char (111 : Int32)), (nar .char (114 : Int32)), (nar .char ((cr &&& (255 : Int32)).toUInt32.toUInt16.toUInt32.toInt32)), (nar .char (45 : Int32)), (nar .char (108 : Int32)), (nar .char (105 : Int32)), (nar .char (115 : Int32)), (nar .char (116 : Int32))] : List Int32) (rv ba31) (iv 5) (own_mono X62 (by decide) (by decide)) rfl N62 Zs62 Ol62 hS0 ((((Le0.keep K31).wr W60).ext E61).keep K62) hZ hown (own_IBm I0 rfl (by simp)) ⟨t62, _, Es62, Vs62, Cs62, Ks62, hp63, (Nat.le_of_ble_eq_true rfl)⟩ (Or.inr ⟨_, rfl, rfl⟩) (Or.inr ⟨_, rfl, rfl⟩)
      | 6, _, hX33 =>
        replace hX33 : ((pr &&& (2147483647 : Int32)) % (11 : Int32)) = (6 : Int32) := hX33
        rw [hX33]
        refine own_go (b := T31.setTop (mkF m 63 #[iv mr, iv wr, iv pr, iv cr, iv er, iv 1, iv 0, .unset, rv ba31, iv 6, .unset] [(.ref ba31)])) (fun t k => XS.aload X31.here hx rfl (hb hby at_61) rfl rfl k) ?_
        refine own_go (b := T31.setTop (mkF m 65 #[iv mr, iv wr, iv pr, iv cr, iv er, iv 1, iv 0, .unset, rv ba31, iv 6, .unset] [(.int 6), (.ref ba31)])) (fun t k => XS.iload X31.here hx rfl (hb hby at_63) rfl  k) ?_
        refine own_go (b := T31.setTop (mkF m 66 #[iv mr, iv wr, iv pr, iv cr, iv er, iv 1, iv 0, .unset, rv ba31, iv 6, .unset] [(.int cr), (.int 6), (.ref ba31)])) (fun t k => XS.iloadN X31.here hx rfl (hb hby at_65) rfl  k) ?_
        refine own_go (b := T31.setTop (mkF m 69 #[iv mr, iv wr, iv pr, iv cr, iv er, iv 1, iv 0, .unset, rv ba31, iv 6, .unset] [(.int 255), (.int cr), (.int 6), (.ref ba31)])) (fun t k => XS.sipush X31.here hx rfl (hb hby at_66) k) ?_
        refine own_go (b := T31.setTop (mkF m 70 #[iv mr, iv wr, iv pr, iv cr, iv er, iv 1, iv 0, .unset, rv ba31, iv 6, .unset] [(.int (cr &&& (255 : Int32))), (.int 6), (.ref ba31)])) (fun t k => XS.iand X31.here hx rfl (hb hby at_69) rfl k) ?_
        refine own_go (b := T31.setTop (mkF m 71 #[iv mr, iv wr, iv pr, iv cr, iv er, iv 1, iv 0, .unset, rv ba31, iv 6, .unset] [(.int ((cr &&& (255 : Int32)).toUInt32.toUInt16.toUInt32.toInt32)), (.int 6), (.ref ba31)])) (fun t k => XS.i2c X31.here hx rfl (hb hby at_70) rfl k) ?_
        obtain ⟨cl64, Ar64, qc64, Sz64, Ng64, Hs64, Ft64⟩ := id Va31
        have hin64 : ¬ ((6 : Int32) < 0 ∨ cl64.slots.size ≤ ((6 : Int32)).toNatClampNeg) := inb_of Sz64 ⟨by decide, by decide⟩
        obtain ⟨T65, h65, X65, e65, W65, st65⟩ := stC X31 hx hZ rfl Ar64 (j := (6 : Int32)) hin64 (g := (mkF m 71 #[iv mr, iv wr, iv pr, iv cr, iv er, iv 1, iv 0, .unset, rv ba31, iv 6, .unset] [(.int ((cr &&& (255 : Int32)).toUInt32.toUInt16.toUInt32.toInt32)), (.int 6), (.ref ba31)])) rfl rfl (hb hby at_71)
        have V_ba31_65 : Arv Z h65 ba31 kc31 .char (11 : Int32) [(.int (nar .char (101 : Int32))), (.int (nar .char (114 : Int32))), (.int (nar .char (114 : Int32))), (.int (nar .char (111 : Int32))), (.int (nar .char (114 : Int32))), (.int (nar .char (115 : Int32))), (.int (nar .char ((cr &&& (255 : Int32)).toUInt32.toUInt16.toUInt32.toInt32))), (.int (nar .char (108 : Int32))), (.int (nar .char (105 : Int32))), (.int (nar .char (115 : Int32))), (.int (nar .char (116 : Int32)))] (.int (0 : Int32)) := Arv.set Ar64 qc64 Sz64 Ng64 Hs64 Ft64 (fits_nar_char _) W65 6 rfl (Nat.le_of_ble_eq_true rfl)
        have Zs65 : n0 ≤ h65.size := Nat.le_trans Zs31 (Keep.of_wr W65).1
        have N65 := Fr.snoc X65 N31 g_ba31
        have Ol65 := Ol31.wr W65 g_ba31
        refine own_go (b := T65.setTop (mkF m 72 #[iv mr, iv wr, iv pr, iv cr, iv er, iv 1, iv 0, .unset, rv ba31, iv 6, .unset] [])) st65 ?_
        obtain ⟨T66, h66, X66, e66, E66, A66, D66, -, st66⟩ := newO X65 hx hZ hown (hw _ (List.mem_of_getElem? (i := 1) rfl)) (hw _ (List.mem_of_getElem? (i := 2) rfl)) (hw _ (List.mem_of_getElem? (i := 3) rfl)) e65 (g := (mkF m 72 #[iv mr, iv wr, iv pr, iv cr, iv er, iv 1, iv 0, .unset, rv ba31, iv 6, .unset] [])) rfl (hb hby at_72) (by decide) (by decide)
        obtain ⟨b66, g66⟩ : ∃ z, z = h65.size := ⟨_, rfl⟩
        rw [← g66] at A66 D66 st66
        have g_b66 : n0 ≤ b66 := Nat.le_trans Zs65 (Nat.le_of_eq g66.symm)
        have Zs66 : n0 ≤ h66.size := Nat.le_trans Zs65 E66.1
        have Ol66 := Ol65.ext E66
        have F_coder_b66 : Fld Z h66 b66 "java/lang/String" "coder" "B" (.int 0) := D66 (Or.inr (hw _ (List.mem_of_getElem? (i := 32) rfl))) (ty := .byte) (by decide)
        have F_value_b66 : Fld Z h66 b66 "java/lang/String" "value" "[B" .null := D66 (Or.inr (hw _ (List.mem_of_getElem? (i := 34) rfl))) (ty := (.array .byte)) (by decide)
        refine own_go (b := T66.setTop (mkF m 75 #[iv mr, iv wr, iv pr, iv cr, iv er, iv 1, iv 0, .unset, rv ba31, iv 6, .unset] [(.ref b66)])) st66 ?_
        refine own_go (b := T66.setTop (mkF m 76 #[iv mr, iv wr, iv pr, iv cr, iv er, iv 1, iv 0, .unset, rv ba31, iv 6, .unset] [(.ref b66), (.ref b66)])) (fun t k => XS.dup X66.here hx rfl (hb hby at_75) rfl rfl k) ?_
        refine own_go (b := T66.setTop (mkF m 78 #[iv mr, iv wr, iv pr, iv cr, iv er, iv 1, iv 0, .unset, rv ba31, iv 6, .unset] [(.ref ba31), (.ref b66), (.ref b66)])) (fun t k => XS.aload X66.here hx rfl (hb hby at_76) rfl rfl k) ?_
        have hp68 : ∀ c ∈ ([(nar .char (101 : Int32)), (nar .char (114 : Int32)), (nar .char (114 : Int32)), (nar .char (111 : Int32)), (nar .char (114 : Int32)), (nar .char (115 : Int32)), (nar .char ((cr &&& (255 : Int32)).toUInt32.toUInt16.toUInt32.toInt32)), (nar .char (108 : Int32)), (nar .char (105 : Int32)), (nar .char (115 : Int32)), (nar .char (116 : Int32))] : List Int32), ¬ c < 0 ∧ ¬ (255 : Int32) < c := by
          intro c hc
          simp only [List.mem_cons, List.not_mem_nil, or_false] at hc
          rcases hc with rfl | rfl | rfl | rfl | rfl | rfl | rfl | rfl | rfl | rfl | rfl
          · exact (by decide +kernel)
          · exact (by decide +kernel)
          · exact (by decide +kernel)
          · exact (by decide +kernel)
          · exact (by decide +kernel)
          · exact (by decide +kernel)
          · exact own_and255 cr
          · exact (by decide +kernel)
          · exact (by decide +kernel)
          · exact (by decide +kernel)
          · exact (by decide +kernel)
        obtain ⟨_, _, ⟨T67, L67, k67, n67⟩, -, X67, ⟨Lc67, hQ67, l67, y67, z67⟩, st67⟩ := X66.specialBack hx (y := (⟨"java/lang/String", "<init>", "([C)V"⟩ : MethodName)) rfl hown (mvT hZ (hw _ (List.mem_of_getElem? (i := 9) rfl))) (mvT hZ (hw _ (List.mem_of_getElem? (i := 10) rfl))) (mvT hZ (hw _ (List.mem_of_getElem? (i := 11) rfl))) (by decide) (StrChars.Road.backV (W := 1) hZ hws (kI := 4) (hw _ (List.mem_of_getElem? (i := 2) rfl)) (cs := ([(nar .char (101 : Int32)), (nar .char (114 : Int32)), (nar .char (114 : Int32)), (nar .char (111 : Int32)), (nar .char (114 : Int32)), (nar .char (115 : Int32)), (nar .char ((cr &&& (255 : Int32)).toUInt32.toUInt16.toUInt32.toInt32)), (nar .char (108 : Int32)), (nar .char (105 : Int32)), (nar .char (115 : Int32)), (nar .char (116 : Int32))] : List Int32)) (bs := (([(nar .char (101 : Int32)), (nar .char (114 : Int32)), (nar .char (114 : Int32)), (nar .char (111 : Int32)), (nar .char (114 : Int32)), (nar .char (115 : Int32)), (nar .char ((cr &&& (255 : Int32)).toUInt32.toUInt16.toUInt32.toInt32)), (nar .char (108 : Int32)), (nar .char (105 : Int32)), (nar .char (115 : Int32)), (nar .char (116 : Int32))] : List Int32)).map (fun c => c.toInt8.toInt32)) (n := 11) g_b66 Zs66 A66 F_value_b66 F_coder_b66 (V_ba31_65.ext E66) (O2.ext Ol66.2) P5 rfl rfl (by decide) (by decide) hp68 rfl (by decide) (by decide)) (g := (mkF m 78 #[iv mr, iv wr, iv pr, iv cr, iv er, iv 1, iv 0, .unset, rv ba31, iv 6, .unset] [(.ref ba31), (.ref b66), (.ref b66)])) rfl (by rw [hml]; rfl) (Steps.refl _) (a := b66) (argsL := [(.ref ba31)]) (rest := [(.ref b66)]) (lenOf pd_13 rfl) rfl (by show 2 * 0 + _ ≤ _; exact Nat.le_of_eq rfl) (hb hby at_78) (fun _ _ => ⟨rfl, e66, (by decide : 2 + 1 ≤ _), (by decide : 15 + 11 ≤ _)⟩)
        dsimp only [Pt.U, Pt.locs, Pt.cells, Pt.slots] at X67 l67 y67 z67 st67 hQ67
        subst l67 y67 z67
        obtain ⟨rfl, N67q, K67, Es67, Cs67, t67, kb67, ua67, ub67, uc67, Vs67, Ks67⟩ := hQ67
        have Zs67 : n0 ≤ T67.heap.size := Nat.le_trans Zs66 K67.1
        have N67 := Fr.app N65 N67q
        have Ol67 := Ol66.keep K67 (allS g_b66 all0)
        obtain ⟨lq67, X67, N67⟩ : ∃ lq, Stand p l e room_1 (s.setVm s.vm) m #[(.int mr), (.int wr), (.int pr), (.int cr), (.int er)] below meth c T67 lq 3 26 ∧ Fr n0 lq := ⟨_, X67, N67⟩
        refine own_tr (b := T67.setTop (mkF m 81 #[iv mr, iv wr, iv pr, iv cr, iv er, iv 1, iv 0, .unset, rv ba31, iv 6, .unset] [(.ref b66)])) st67 ?_
        refine own_go (b := T67.setTop (mkF m 83 #[iv mr, iv wr, iv pr, iv cr, iv er, iv 1, iv 0, rv b66, rv ba31, iv 6, .unset] [])) (fun t k => XS.astore X67.here hx rfl (hb hby at_81) rfl rfl (l' := #[iv mr, iv wr, iv pr, iv cr, iv er, iv 1, iv 0, rv b66, rv ba31, iv 6, .unset]) rfl k) ?_
        refine own_go (b := T67.setTop (mkF m 155 #[iv mr, iv wr, iv pr, iv cr, iv er, iv 1, iv 0, rv b66, rv ba31, iv 6, .unset] [])) (fun t k => XS.goto X67.here hx rfl (pc0 := 83) (pc' := 155) rfl (hb hby at_83) (by decide) (by decide) k) ?_
        exact J155 T67 T67.heap _ s.vm _ (1 : Int32) (0 : Int32) b66 ([(nar .char (101 : Int32)), (nar .char (114 : Int32)), (nar .char (114 : Int32)), (nar .char (111 : Int32)), (nar .char (114 : Int32)), (nar .char (115 : Int32)), (nar .char ((cr &&& (255 : Int32)).toUInt32.toUInt16.toUInt32.toInt32)), (nar .char (108 : Int32)), (nar .char (105 : Int32)), (nar .char (115 : Int32)), (nar .char (116 : Int32))] : List Int32) (rv ba31) (iv 6) (own_mono X67 (by decide) (by decide)) rfl N67 Zs67 Ol67 hS0 ((((Le0.keep K31).wr W65).ext E66).keep K67) hZ hown (own_IBm I0 rfl (by simp)) ⟨t67, _, Es67, Vs67, Cs67, Ks67, hp68, (Nat.le_of_ble_eq_true rfl)⟩ (Or.inr ⟨_, rfl, rfl⟩) (Or.inr ⟨_, rfl, rfl⟩)
      | 7, _, hX33 =>
        replace hX33 : ((pr &&& (2147483647 : Int32)) % (11 : Int32)) = (7 : Int32) := hX33
        rw [hX33]
        refine own_go (b := T31.setTop (mkF m 63 #[iv mr, iv wr, iv pr, iv cr, iv er, iv 1, iv 0, .unset, rv ba31, iv 7, .unset] [(.ref ba31)])) (fun t k => XS.aload X31.here hx rfl (hb hby at_61) rfl rfl k) ?_
        refine own_go (b := T31.setTop (mkF m 65 #[iv mr, iv wr, iv pr, iv cr, iv er, iv 1, iv 0, .unset, rv ba31, iv 7, .unset] [(.int 7), (.ref ba31)])) (fun t k => XS.iload X31.here hx rfl (hb hby at_63) rfl  k) ?_
        refine own_go (b := T31.setTop (mkF m 66 #[iv mr, iv wr, iv pr, iv cr, iv er, iv 1, iv 0, .unset, rv ba31, iv 7, .unset] [(.int cr), (.int 7), (.ref ba31)])) (fun t k => XS.iloadN X31.here hx rfl (hb hby at_65) rfl  k) ?_
        refine own_go (b := T31.setTop (mkF m 69 #[iv mr, iv wr, iv pr, iv cr, iv er, iv 1, iv 0, .unset, rv ba31, iv 7, .unset] [(.int 255), (.int cr), (.int 7), (.ref ba31)])) (fun t k => XS.sipush X31.here hx rfl (hb hby at_66) k) ?_
        refine own_go (b := T31.setTop (mkF m 70 #[iv mr, iv wr, iv pr, iv cr, iv er, iv 1, iv 0, .unset, rv ba31, iv 7, .unset] [(.int (cr &&& (255 : Int32))), (.int 7), (.ref ba31)])) (fun t k => XS.iand X31.here hx rfl (hb hby at_69) rfl k) ?_
        refine own_go (b := T31.setTop (mkF m 71 #[iv mr, iv wr, iv pr, iv cr, iv er, iv 1, iv 0, .unset, rv ba31, iv 7, .unset] [(.int ((cr &&& (255 : Int32)).toUInt32.toUInt16.toUInt32.toInt32)), (.int 7), (.ref ba31)])) (fun t k => XS.i2c X31.here hx rfl (hb hby at_70) rfl k) ?_
        obtain ⟨cl69, Ar69, qc69, Sz69, Ng69, Hs69, Ft69⟩ := id Va31
        have hin69 : ¬ ((7 : Int32) < 0 ∨ cl69.slots.size ≤ ((7 : Int32)).toNatClampNeg) := inb_of Sz69 ⟨by decide, by decide⟩
        obtain ⟨T70, h70, X70, e70, W70, st70⟩ := stC X31 hx hZ rfl Ar69 (j := (7 : Int32)) hin69 (g := (mkF m 71 #[iv mr, iv wr, iv pr, iv cr, iv er, iv 1, iv 0, .unset, rv ba31, iv 7, .unset] [(.int ((cr &&& (255 : Int32)).toUInt32.toUInt16.toUInt32.toInt32)), (.int 7), (.ref ba31)])) rfl rfl (hb hby at_71)
        have V_ba31_70 : Arv Z h70 ba31 kc31 .char (11 : Int32) [(.int (nar .char (101 : Int32))), (.int (nar .char (114 : Int32))), (.int (nar .char (114 : Int32))), (.int (nar .char (111 : Int32))), (.int (nar .char (114 : Int32))), (.int (nar .char (115 : Int32))), (.int (nar .char (45 : Int32))), (.int (nar .char ((cr &&& (255 : Int32)).toUInt32.toUInt16.toUInt32.toInt32))), (.int (nar .char (105 : Int32))), (.int (nar .char (115 : Int32))), (.int (nar .char (116 : Int32)))] (.int (0 : Int32)) := Arv.set Ar69 qc69 Sz69 Ng69 Hs69 Ft69 (fits_nar_char _) W70 7 rfl (Nat.le_of_ble_eq_true rfl)
        have Zs70 : n0 ≤ h70.size := Nat.le_trans Zs31 (Keep.of_wr W70).1
        have N70 := Fr.snoc X70 N31 g_ba31
        have Ol70 := Ol31.wr W70 g_ba31
        refine own_go (b := T70.setTop (mkF m 72 #[iv mr, iv wr, iv pr, iv cr, iv er, iv 1, iv 0, .unset, rv ba31, iv 7, .unset] [])) st70 ?_
        obtain ⟨T71, h71, X71, e71, E71, A71, D71, -, st71⟩ := newO X70 hx hZ hown (hw _ (List.mem_of_getElem? (i := 1) rfl)) (hw _ (List.mem_of_getElem? (i := 2) rfl)) (hw _ (List.mem_of_getElem? (i := 3) rfl)) e70 (g := (mkF m 72 #[iv mr, iv wr, iv pr, iv cr, iv er, iv 1, iv 0, .unset, rv ba31, iv 7, .unset] [])) rfl (hb hby at_72) (by decide) (by decide)
        obtain ⟨b71, g71⟩ : ∃ z, z = h70.size := ⟨_, rfl⟩
        rw [← g71] at A71 D71 st71
        have g_b71 : n0 ≤ b71 := Nat.le_trans Zs70 (Nat.le_of_eq g71.symm)
        have Zs71 : n0 ≤ h71.size := Nat.le_trans Zs70 E71.1
        have Ol71 := Ol70.ext E71
        have F_coder_b71 : Fld Z h71 b71 "java/lang/String" "coder" "B" (.int 0) := D71 (Or.inr (hw _ (List.mem_of_getElem? (i := 32) rfl))) (ty := .byte) (by decide)
        have F_value_b71 : Fld Z h71 b71 "java/lang/String" "value" "[B" .null := D71 (Or.inr (hw _ (List.mem_of_getElem? (i := 34) rfl))) (ty := (.array .byte)) (by decide)
        refine own_go (b := T71.setTop (mkF m 75 #[iv mr, iv wr, iv pr, iv cr, iv er, iv 1, iv 0, .unset, rv ba31, iv 7, .unset] [(.ref b71)])) st71 ?_
        refine own_go (b := T71.setTop (mkF m 76 #[iv mr, iv wr, iv pr, iv cr, iv er, iv 1, iv 0, .unset, rv ba31, iv 7, .unset] [(.ref b71), (.ref b71)])) (fun t k => XS.dup X71.here hx rfl (hb hby at_75) rfl rfl k) ?_
        refine own_go (b := T71.setTop (mkF m 78 #[iv mr, iv wr, iv pr, iv cr, iv er, iv 1, iv 0, .unset, rv ba31, iv 7, .unset] [(.ref ba31), (.ref b71), (.ref b71)])) (fun t k => XS.aload X71.here hx rfl (hb hby at_76) rfl rfl k) ?_
        have hp73 : ∀ c ∈ ([(nar .char (101 : Int32)), (nar .char (114 : Int32)), (nar .char (114 : Int32)), (nar .char (111 : Int32)), (nar .char (114 : Int32)), (nar .char (115 : Int32)), (nar .char (45 : Int32)), (nar .char ((cr &&& (255 : Int32)).toUInt32.toUInt16.toUInt32.toInt32)), (nar .char (105 : Int32)), (nar .char (115 : Int32)), (nar .char (116 : Int32))] : List Int32), ¬ c < 0 ∧ ¬ (255 : Int32) < c := by
          intro c hc
          simp only [List.mem_cons, List.not_mem_nil, or_false] at hc
          rcases hc with rfl | rfl | rfl | rfl | rfl | rfl | rfl | rfl | rfl | rfl | rfl
          · exact (by decide +kernel)
          · exact (by decide +kernel)
          · exact (by decide +kernel)
          · exact (by decide +kernel)
          · exact (by decide +kernel)
          · exact (by decide +kernel)
          · exact (by decide +kernel)
          · exact own_and255 cr
          · exact (by decide +kernel)
          · exact (by decide +kernel)
          · exact (by decide +kernel)
        obtain ⟨_, _, ⟨T72, L72, k72, n72⟩, -, X72, ⟨Lc72, hQ72, l72, y72, z72⟩, st72⟩ := X71.specialBack hx (y := (⟨"java/lang/String", "<init>", "([C)V"⟩ : MethodName)) rfl hown (mvT hZ (hw _ (List.mem_of_getElem? (i := 9) rfl))) (mvT hZ (hw _ (List.mem_of_getElem? (i := 10) rfl))) (mvT hZ (hw _ (List.mem_of_getElem? (i := 11) rfl))) (by decide) (StrChars.Road.backV (W := 1) hZ hws (kI := 4) (hw _ (List.mem_of_getElem? (i := 2) rfl)) (cs := ([(nar .char (101 : Int32)), (nar .char (114 : Int32)), (nar .char (114 : Int32)), (nar .char (111 : Int32)), (nar .char (114 : Int32)), (nar .char (115 : Int32)), (nar .char (45 : Int32)), (nar .char ((cr &&& (255 : Int32)).toUInt32.toUInt16.toUInt32.toInt32)), (nar .char (105 : Int32)), (nar .char (115 : Int32)), (nar .char (116 : Int32))] : List Int32)) (bs := (([(nar .char (101 : Int32)), (nar .char (114 : Int32)), (nar .char (114 : Int32)), (nar .char (111 : Int32)), (nar .char (114 : Int32)), (nar .char (115 : Int32)), (nar .char (45 : Int32)), (nar .char ((cr &&& (255 : Int32)).toUInt32.toUInt16.toUInt32.toInt32)), (nar .char (105 : Int32)), (nar .char (115 : Int32)), (nar .char (116 : Int32))] : List Int32)).map (fun c => c.toInt8.toInt32)) (n := 11) g_b71 Zs71 A71 F_value_b71 F_coder_b71 (V_ba31_70.ext E71) (O2.ext Ol71.2) P5 rfl rfl (by decide) (by decide) hp73 rfl (by decide) (by decide)) (g := (mkF m 78 #[iv mr, iv wr, iv pr, iv cr, iv er, iv 1, iv 0, .unset, rv ba31, iv 7, .unset] [(.ref ba31), (.ref b71), (.ref b71)])) rfl (by rw [hml]; rfl) (Steps.refl _) (a := b71) (argsL := [(.ref ba31)]) (rest := [(.ref b71)]) (lenOf pd_13 rfl) rfl (by show 2 * 0 + _ ≤ _; exact Nat.le_of_eq rfl) (hb hby at_78) (fun _ _ => ⟨rfl, e71, (by decide : 2 + 1 ≤ _), (by decide : 15 + 11 ≤ _)⟩)
        dsimp only [Pt.U, Pt.locs, Pt.cells, Pt.slots] at X72 l72 y72 z72 st72 hQ72
        subst l72 y72 z72
        obtain ⟨rfl, N72q, K72, Es72, Cs72, t72, kb72, ua72, ub72, uc72, Vs72, Ks72⟩ := hQ72
        have Zs72 : n0 ≤ T72.heap.size := Nat.le_trans Zs71 K72.1
        have N72 := Fr.app N70 N72q
        have Ol72 := Ol71.keep K72 (allS g_b71 all0)
        obtain ⟨lq72, X72, N72⟩ : ∃ lq, Stand p l e room_1 (s.setVm s.vm) m #[(.int mr), (.int wr), (.int pr), (.int cr), (.int er)] below meth c T72 lq 3 26 ∧ Fr n0 lq := ⟨_, X72, N72⟩
        refine own_tr (b := T72.setTop (mkF m 81 #[iv mr, iv wr, iv pr, iv cr, iv er, iv 1, iv 0, .unset, rv ba31, iv 7, .unset] [(.ref b71)])) st72 ?_
        refine own_go (b := T72.setTop (mkF m 83 #[iv mr, iv wr, iv pr, iv cr, iv er, iv 1, iv 0, rv b71, rv ba31, iv 7, .unset] [])) (fun t k => XS.astore X72.here hx rfl (hb hby at_81) rfl rfl (l' := #[iv mr, iv wr, iv pr, iv cr, iv er, iv 1, iv 0, rv b71, rv ba31, iv 7, .unset]) rfl k) ?_
        refine own_go (b := T72.setTop (mkF m 155 #[iv mr, iv wr, iv pr, iv cr, iv er, iv 1, iv 0, rv b71, rv ba31, iv 7, .unset] [])) (fun t k => XS.goto X72.here hx rfl (pc0 := 83) (pc' := 155) rfl (hb hby at_83) (by decide) (by decide) k) ?_
        exact J155 T72 T72.heap _ s.vm _ (1 : Int32) (0 : Int32) b71 ([(nar .char (101 : Int32)), (nar .char (114 : Int32)), (nar .char (114 : Int32)), (nar .char (111 : Int32)), (nar .char (114 : Int32)), (nar .char (115 : Int32)), (nar .char (45 : Int32)), (nar .char ((cr &&& (255 : Int32)).toUInt32.toUInt16.toUInt32.toInt32)), (nar .char (105 : Int32)), (nar .char (115 : Int32)), (nar .char (116 : Int32))] : List Int32) (rv ba31) (iv 7) (own_mono X72 (by decide) (by decide)) rfl N72 Zs72 Ol72 hS0 ((((Le0.keep K31).wr W70).ext E71).keep K72) hZ hown (own_IBm I0 rfl (by simp)) ⟨t72, _, Es72, Vs72, Cs72, Ks72, hp73, (Nat.le_of_ble_eq_true rfl)⟩ (Or.inr ⟨_, rfl, rfl⟩) (Or.inr ⟨_, rfl, rfl⟩)
      | 8, _, hX33 =>
        replace hX33 : ((pr &&& (2147483647 : Int32)) % (11 : Int32)) = (8 : Int32) := hX33
        rw [hX33]
        refine own_go (b := T31.setTop (mkF m 63 #[iv mr, iv wr, iv pr, iv cr, iv er, iv 1, iv 0, .unset, rv ba31, iv 8, .unset] [(.ref ba31)])) (fun t k => XS.aload X31.here hx rfl (hb hby at_61) rfl rfl k) ?_
        refine own_go (b := T31.setTop (mkF m 65 #[iv mr, iv wr, iv pr, iv cr, iv er, iv 1, iv 0, .unset, rv ba31, iv 8, .unset] [(.int 8), (.ref ba31)])) (fun t k => XS.iload X31.here hx rfl (hb hby at_63) rfl  k) ?_
        refine own_go (b := T31.setTop (mkF m 66 #[iv mr, iv wr, iv pr, iv cr, iv er, iv 1, iv 0, .unset, rv ba31, iv 8, .unset] [(.int cr), (.int 8), (.ref ba31)])) (fun t k => XS.iloadN X31.here hx rfl (hb hby at_65) rfl  k) ?_
        refine own_go (b := T31.setTop (mkF m 69 #[iv mr, iv wr, iv pr, iv cr, iv er, iv 1, iv 0, .unset, rv ba31, iv 8, .unset] [(.int 255), (.int cr), (.int 8), (.ref ba31)])) (fun t k => XS.sipush X31.here hx rfl (hb hby at_66) k) ?_
        refine own_go (b := T31.setTop (mkF m 70 #[iv mr, iv wr, iv pr, iv cr, iv er, iv 1, iv 0, .unset, rv ba31, iv 8, .unset] [(.int (cr &&& (255 : Int32))), (.int 8), (.ref ba31)])) (fun t k => XS.iand X31.here hx rfl (hb hby at_69) rfl k) ?_
        refine own_go (b := T31.setTop (mkF m 71 #[iv mr, iv wr, iv pr, iv cr, iv er, iv 1, iv 0, .unset, rv ba31, iv 8, .unset] [(.int ((cr &&& (255 : Int32)).toUInt32.toUInt16.toUInt32.toInt32)), (.int 8), (.ref ba31)])) (fun t k => XS.i2c X31.here hx rfl (hb hby at_70) rfl k) ?_
        obtain ⟨cl74, Ar74, qc74, Sz74, Ng74, Hs74, Ft74⟩ := id Va31
        have hin74 : ¬ ((8 : Int32) < 0 ∨ cl74.slots.size ≤ ((8 : Int32)).toNatClampNeg) := inb_of Sz74 ⟨by decide, by decide⟩
        obtain ⟨T75, h75, X75, e75, W75, st75⟩ := stC X31 hx hZ rfl Ar74 (j := (8 : Int32)) hin74 (g := (mkF m 71 #[iv mr, iv wr, iv pr, iv cr, iv er, iv 1, iv 0, .unset, rv ba31, iv 8, .unset] [(.int ((cr &&& (255 : Int32)).toUInt32.toUInt16.toUInt32.toInt32)), (.int 8), (.ref ba31)])) rfl rfl (hb hby at_71)
        have V_ba31_75 : Arv Z h75 ba31 kc31 .char (11 : Int32) [(.int (nar .char (101 : Int32))), (.int (nar .char (114 : Int32))), (.int (nar .char (114 : Int32))), (.int (nar .char (111 : Int32))), (.int (nar .char (114 : Int32))), (.int (nar .char (115 : Int32))), (.int (nar .char (45 : Int32))), (.int (nar .char (108 : Int32))), (.int (nar .char ((cr &&& (255 : Int32)).toUInt32.toUInt16.toUInt32.toInt32))), (.int (nar .char (115 : Int32))), (.int (nar .char (116 : Int32)))] (.int (0 : Int32)) := Arv.set Ar74 qc74 Sz74 Ng74 Hs74 Ft74 (fits_nar_char _) W75 8 rfl (Nat.le_of_ble_eq_true rfl)
        have Zs75 : n0 ≤ h75.size := Nat.le_trans Zs31 (Keep.of_wr W75).1
        have N75 := Fr.snoc X75 N31 g_ba31
        have Ol75 := Ol31.wr W75 g_ba31
        refine own_go (b := T75.setTop (mkF m 72 #[iv mr, iv wr, iv pr, iv cr, iv er, iv 1, iv 0, .unset, rv ba31, iv 8, .unset] [])) st75 ?_
        obtain ⟨T76, h76, X76, e76, E76, A76, D76, -, st76⟩ := newO X75 hx hZ hown (hw _ (List.mem_of_getElem? (i := 1) rfl)) (hw _ (List.mem_of_getElem? (i := 2) rfl)) (hw _ (List.mem_of_getElem? (i := 3) rfl)) e75 (g := (mkF m 72 #[iv mr, iv wr, iv pr, iv cr, iv er, iv 1, iv 0, .unset, rv ba31, iv 8, .unset] [])) rfl (hb hby at_72) (by decide) (by decide)
        obtain ⟨b76, g76⟩ : ∃ z, z = h75.size := ⟨_, rfl⟩
        rw [← g76] at A76 D76 st76
        have g_b76 : n0 ≤ b76 := Nat.le_trans Zs75 (Nat.le_of_eq g76.symm)
        have Zs76 : n0 ≤ h76.size := Nat.le_trans Zs75 E76.1
        have Ol76 := Ol75.ext E76
        have F_coder_b76 : Fld Z h76 b76 "java/lang/String" "coder" "B" (.int 0) := D76 (Or.inr (hw _ (List.mem_of_getElem? (i := 32) rfl))) (ty := .byte) (by decide)
        have F_value_b76 : Fld Z h76 b76 "java/lang/String" "value" "[B" .null := D76 (Or.inr (hw _ (List.mem_of_getElem? (i := 34) rfl))) (ty := (.array .byte)) (by decide)
        refine own_go (b := T76.setTop (mkF m 75 #[iv mr, iv wr, iv pr, iv cr, iv er, iv 1, iv 0, .unset, rv ba31, iv 8, .unset] [(.ref b76)])) st76 ?_
        refine own_go (b := T76.setTop (mkF m 76 #[iv mr, iv wr, iv pr, iv cr, iv er, iv 1, iv 0, .unset, rv ba31, iv 8, .unset] [(.ref b76), (.ref b76)])) (fun t k => XS.dup X76.here hx rfl (hb hby at_75) rfl rfl k) ?_
        refine own_go (b := T76.setTop (mkF m 78 #[iv mr, iv wr, iv pr, iv cr, iv er, iv 1, iv 0, .unset, rv ba31, iv 8, .unset] [(.ref ba31), (.ref b76), (.ref b76)])) (fun t k => XS.aload X76.here hx rfl (hb hby at_76) rfl rfl k) ?_
        have hp78 : ∀ c ∈ ([(nar .char (101 : Int32)), (nar .char (114 : Int32)), (nar .char (114 : Int32)), (nar .char (111 : Int32)), (nar .char (114 : Int32)), (nar .char (115 : Int32)), (nar .char (45 : Int32)), (nar .char (108 : Int32)), (nar .char ((cr &&& (255 : Int32)).toUInt32.toUInt16.toUInt32.toInt32)), (nar .char (115 : Int32)), (nar .char (116 : Int32))] : List Int32), ¬ c < 0 ∧ ¬ (255 : Int32) < c := by
          intro c hc
          simp only [List.mem_cons, List.not_mem_nil, or_false] at hc
          rcases hc with rfl | rfl | rfl | rfl | rfl | rfl | rfl | rfl | rfl | rfl | rfl
          · exact (by decide +kernel)
          · exact (by decide +kernel)
          · exact (by decide +kernel)
          · exact (by decide +kernel)
          · exact (by decide +kernel)
          · exact (by decide +kernel)
          · exact (by decide +kernel)
          · exact (by decide +kernel)
          · exact own_and255 cr
          · exact (by decide +kernel)
          · exact (by decide +kernel)
        obtain ⟨_, _, ⟨T77, L77, k77, n77⟩, -, X77, ⟨Lc77, hQ77, l77, y77, z77⟩, st77⟩ := X76.specialBack hx (y := (⟨"java/lang/String", "<init>", "([C)V"⟩ : MethodName)) rfl hown (mvT hZ (hw _ (List.mem_of_getElem? (i := 9) rfl))) (mvT hZ (hw _ (List.mem_of_getElem? (i := 10) rfl))) (mvT hZ (hw _ (List.mem_of_getElem? (i := 11) rfl))) (by decide) (StrChars.Road.backV (W := 1) hZ hws (kI := 4) (hw _ (List.mem_of_getElem? (i := 2) rfl)) (cs := ([(nar .char (101 : Int32)), (nar .char (114 : Int32)), (nar .char (114 : Int32)), (nar .char (111 : Int32)), (nar .char (114 : Int32)), (nar .char (115 : Int32)), (nar .char (45 : Int32)), (nar .char (108 : Int32)), (nar .char ((cr &&& (255 : Int32)).toUInt32.toUInt16.toUInt32.toInt32)), (nar .char (115 : Int32)), (nar .char (116 : Int32))] : List Int32)) (bs := (([(nar .char (101 : Int32)), (nar .char (114 : Int32)), (nar .char (114 : Int32)), (nar .char (111 : Int32)), (nar .char (114 : Int32)), (nar .char (115 : Int32)), (nar .char (45 : Int32)), (nar .char (108 : Int32)), (nar .char ((cr &&& (255 : Int32)).toUInt32.toUInt16.toUInt32.toInt32)), (nar .char (115 : Int32)), (nar .char (116 : Int32))] : List Int32)).map (fun c => c.toInt8.toInt32)) (n := 11) g_b76 Zs76 A76 F_value_b76 F_coder_b76 (V_ba31_75.ext E76) (O2.ext Ol76.2) P5 rfl rfl (by decide) (by decide) hp78 rfl (by decide) (by decide)) (g := (mkF m 78 #[iv mr, iv wr, iv pr, iv cr, iv er, iv 1, iv 0, .unset, rv ba31, iv 8, .unset] [(.ref ba31), (.ref b76), (.ref b76)])) rfl (by rw [hml]; rfl) (Steps.refl _) (a := b76) (argsL := [(.ref ba31)]) (rest := [(.ref b76)]) (lenOf pd_13 rfl) rfl (by show 2 * 0 + _ ≤ _; exact Nat.le_of_eq rfl) (hb hby at_78) (fun _ _ => ⟨rfl, e76, (by decide : 2 + 1 ≤ _), (by decide : 15 + 11 ≤ _)⟩)
        dsimp only [Pt.U, Pt.locs, Pt.cells, Pt.slots] at X77 l77 y77 z77 st77 hQ77
        subst l77 y77 z77
        obtain ⟨rfl, N77q, K77, Es77, Cs77, t77, kb77, ua77, ub77, uc77, Vs77, Ks77⟩ := hQ77
        have Zs77 : n0 ≤ T77.heap.size := Nat.le_trans Zs76 K77.1
        have N77 := Fr.app N75 N77q
        have Ol77 := Ol76.keep K77 (allS g_b76 all0)
        obtain ⟨lq77, X77, N77⟩ : ∃ lq, Stand p l e room_1 (s.setVm s.vm) m #[(.int mr), (.int wr), (.int pr), (.int cr), (.int er)] below meth c T77 lq 3 26 ∧ Fr n0 lq := ⟨_, X77, N77⟩
        refine own_tr (b := T77.setTop (mkF m 81 #[iv mr, iv wr, iv pr, iv cr, iv er, iv 1, iv 0, .unset, rv ba31, iv 8, .unset] [(.ref b76)])) st77 ?_
        refine own_go (b := T77.setTop (mkF m 83 #[iv mr, iv wr, iv pr, iv cr, iv er, iv 1, iv 0, rv b76, rv ba31, iv 8, .unset] [])) (fun t k => XS.astore X77.here hx rfl (hb hby at_81) rfl rfl (l' := #[iv mr, iv wr, iv pr, iv cr, iv er, iv 1, iv 0, rv b76, rv ba31, iv 8, .unset]) rfl k) ?_
        refine own_go (b := T77.setTop (mkF m 155 #[iv mr, iv wr, iv pr, iv cr, iv er, iv 1, iv 0, rv b76, rv ba31, iv 8, .unset] [])) (fun t k => XS.goto X77.here hx rfl (pc0 := 83) (pc' := 155) rfl (hb hby at_83) (by decide) (by decide) k) ?_
        exact J155 T77 T77.heap _ s.vm _ (1 : Int32) (0 : Int32) b76 ([(nar .char (101 : Int32)), (nar .char (114 : Int32)), (nar .char (114 : Int32)), (nar .char (111 : Int32)), (nar .char (114 : Int32)), (nar .char (115 : Int32)), (nar .char (45 : Int32)), (nar .char (108 : Int32)), (nar .char ((cr &&& (255 : Int32)).toUInt32.toUInt16.toUInt32.toInt32)), (nar .char (115 : Int32)), (nar .char (116 : Int32))] : List Int32) (rv ba31) (iv 8) (own_mono X77 (by decide) (by decide)) rfl N77 Zs77 Ol77 hS0 ((((Le0.keep K31).wr W75).ext E76).keep K77) hZ hown (own_IBm I0 rfl (by simp)) ⟨t77, _, Es77, Vs77, Cs77, Ks77, hp78, (Nat.le_of_ble_eq_true rfl)⟩ (Or.inr ⟨_, rfl, rfl⟩) (Or.inr ⟨_, rfl, rfl⟩)
      | 9, _, hX33 =>
        replace hX33 : ((pr &&& (2147483647 : Int32)) % (11 : Int32)) = (9 : Int32) := hX33
        rw [hX33]
        refine own_go (b := T31.setTop (mkF m 63 #[iv mr, iv wr, iv pr, iv cr, iv er, iv 1, iv 0, .unset, rv ba31, iv 9, .unset] [(.ref ba31)])) (fun t k => XS.aload X31.here hx rfl (hb hby at_61) rfl rfl k) ?_
        refine own_go (b := T31.setTop (mkF m 65 #[iv mr, iv wr, iv pr, iv cr, iv er, iv 1, iv 0, .unset, rv ba31, iv 9, .unset] [(.int 9), (.ref ba31)])) (fun t k => XS.iload X31.here hx rfl (hb hby at_63) rfl  k) ?_
        refine own_go (b := T31.setTop (mkF m 66 #[iv mr, iv wr, iv pr, iv cr, iv er, iv 1, iv 0, .unset, rv ba31, iv 9, .unset] [(.int cr), (.int 9), (.ref ba31)])) (fun t k => XS.iloadN X31.here hx rfl (hb hby at_65) rfl  k) ?_
        refine own_go (b := T31.setTop (mkF m 69 #[iv mr, iv wr, iv pr, iv cr, iv er, iv 1, iv 0, .unset, rv ba31, iv 9, .unset] [(.int 255), (.int cr), (.int 9), (.ref ba31)])) (fun t k => XS.sipush X31.here hx rfl (hb hby at_66) k) ?_
        refine own_go (b := T31.setTop (mkF m 70 #[iv mr, iv wr, iv pr, iv cr, iv er, iv 1, iv 0, .unset, rv ba31, iv 9, .unset] [(.int (cr &&& (255 : Int32))), (.int 9), (.ref ba31)])) (fun t k => XS.iand X31.here hx rfl (hb hby at_69) rfl k) ?_
        refine own_go (b := T31.setTop (mkF m 71 #[iv mr, iv wr, iv pr, iv cr, iv er, iv 1, iv 0, .unset, rv ba31, iv 9, .unset] [(.int ((cr &&& (255 : Int32)).toUInt32.toUInt16.toUInt32.toInt32)), (.int 9), (.ref ba31)])) (fun t k => XS.i2c X31.here hx rfl (hb hby at_70) rfl k) ?_
        obtain ⟨cl79, Ar79, qc79, Sz79, Ng79, Hs79, Ft79⟩ := id Va31
        have hin79 : ¬ ((9 : Int32) < 0 ∨ cl79.slots.size ≤ ((9 : Int32)).toNatClampNeg) := inb_of Sz79 ⟨by decide, by decide⟩
        obtain ⟨T80, h80, X80, e80, W80, st80⟩ := stC X31 hx hZ rfl Ar79 (j := (9 : Int32)) hin79 (g := (mkF m 71 #[iv mr, iv wr, iv pr, iv cr, iv er, iv 1, iv 0, .unset, rv ba31, iv 9, .unset] [(.int ((cr &&& (255 : Int32)).toUInt32.toUInt16.toUInt32.toInt32)), (.int 9), (.ref ba31)])) rfl rfl (hb hby at_71)
        have V_ba31_80 : Arv Z h80 ba31 kc31 .char (11 : Int32) [(.int (nar .char (101 : Int32))), (.int (nar .char (114 : Int32))), (.int (nar .char (114 : Int32))), (.int (nar .char (111 : Int32))), (.int (nar .char (114 : Int32))), (.int (nar .char (115 : Int32))), (.int (nar .char (45 : Int32))), (.int (nar .char (108 : Int32))), (.int (nar .char (105 : Int32))), (.int (nar .char ((cr &&& (255 : Int32)).toUInt32.toUInt16.toUInt32.toInt32))), (.int (nar .char (116 : Int32)))] (.int (0 : Int32)) := Arv.set Ar79 qc79 Sz79 Ng79 Hs79 Ft79 (fits_nar_char _) W80 9 rfl (Nat.le_of_ble_eq_true rfl)
        have Zs80 : n0 ≤ h80.size := Nat.le_trans Zs31 (Keep.of_wr W80).1
        have N80 := Fr.snoc X80 N31 g_ba31
        have Ol80 := Ol31.wr W80 g_ba31
        refine own_go (b := T80.setTop (mkF m 72 #[iv mr, iv wr, iv pr, iv cr, iv er, iv 1, iv 0, .unset, rv ba31, iv 9, .unset] [])) st80 ?_
        obtain ⟨T81, h81, X81, e81, E81, A81, D81, -, st81⟩ := newO X80 hx hZ hown (hw _ (List.mem_of_getElem? (i := 1) rfl)) (hw _ (List.mem_of_getElem? (i := 2) rfl)) (hw _ (List.mem_of_getElem? (i := 3) rfl)) e80 (g := (mkF m 72 #[iv mr, iv wr, iv pr, iv cr, iv er, iv 1, iv 0, .unset, rv ba31, iv 9, .unset] [])) rfl (hb hby at_72) (by decide) (by decide)
        obtain ⟨b81, g81⟩ : ∃ z, z = h80.size := ⟨_, rfl⟩
        rw [← g81] at A81 D81 st81
        have g_b81 : n0 ≤ b81 := Nat.le_trans Zs80 (Nat.le_of_eq g81.symm)
        have Zs81 : n0 ≤ h81.size := Nat.le_trans Zs80 E81.1
        have Ol81 := Ol80.ext E81
        have F_coder_b81 : Fld Z h81 b81 "java/lang/String" "coder" "B" (.int 0) := D81 (Or.inr (hw _ (List.mem_of_getElem? (i := 32) rfl))) (ty := .byte) (by decide)
        have F_value_b81 : Fld Z h81 b81 "java/lang/String" "value" "[B" .null := D81 (Or.inr (hw _ (List.mem_of_getElem? (i := 34) rfl))) (ty := (.array .byte)) (by decide)
        refine own_go (b := T81.setTop (mkF m 75 #[iv mr, iv wr, iv pr, iv cr, iv er, iv 1, iv 0, .unset, rv ba31, iv 9, .unset] [(.ref b81)])) st81 ?_
        refine own_go (b := T81.setTop (mkF m 76 #[iv mr, iv wr, iv pr, iv cr, iv er, iv 1, iv 0, .unset, rv ba31, iv 9, .unset] [(.ref b81), (.ref b81)])) (fun t k => XS.dup X81.here hx rfl (hb hby at_75) rfl rfl k) ?_
        refine own_go (b := T81.setTop (mkF m 78 #[iv mr, iv wr, iv pr, iv cr, iv er, iv 1, iv 0, .unset, rv ba31, iv 9, .unset] [(.ref ba31), (.ref b81), (.ref b81)])) (fun t k => XS.aload X81.here hx rfl (hb hby at_76) rfl rfl k) ?_
        have hp83 : ∀ c ∈ ([(nar .char (101 : Int32)), (nar .char (114 : Int32)), (nar .char (114 : Int32)), (nar .char (111 : Int32)), (nar .char (114 : Int32)), (nar .char (115 : Int32)), (nar .char (45 : Int32)), (nar .char (108 : Int32)), (nar .char (105 : Int32)), (nar .char ((cr &&& (255 : Int32)).toUInt32.toUInt16.toUInt32.toInt32)), (nar .char (116 : Int32))] : List Int32), ¬ c < 0 ∧ ¬ (255 : Int32) < c := by
          intro c hc
          simp only [List.mem_cons, List.not_mem_nil, or_false] at hc
          rcases hc with rfl | rfl | rfl | rfl | rfl | rfl | rfl | rfl | rfl | rfl | rfl
          · exact (by decide +kernel)
          · exact (by decide +kernel)
          · exact (by decide +kernel)
          · exact (by decide +kernel)
          · exact (by decide +kernel)
          · exact (by decide +kernel)
          · exact (by decide +kernel)
          · exact (by decide +kernel)
          · exact (by decide +kernel)
          · exact own_and255 cr
          · exact (by decide +kernel)
        obtain ⟨_, _, ⟨T82, L82, k82, n82⟩, -, X82, ⟨Lc82, hQ82, l82, y82, z82⟩, st82⟩ := X81.specialBack hx (y := (⟨"java/lang/String", "<init>", "([C)V"⟩ : MethodName)) rfl hown (mvT hZ (hw _ (List.mem_of_getElem? (i := 9) rfl))) (mvT hZ (hw _ (List.mem_of_getElem? (i := 10) rfl))) (mvT hZ (hw _ (List.mem_of_getElem? (i := 11) rfl))) (by decide) (StrChars.Road.backV (W := 1) hZ hws (kI := 4) (hw _ (List.mem_of_getElem? (i := 2) rfl)) (cs := ([(nar .char (101 : Int32)), (nar .char (114 : Int32)), (nar .char (114 : Int32)), (nar .char (111 : Int32)), (nar .char (114 : Int32)), (nar .char (115 : Int32)), (nar .char (45 : Int32)), (nar .char (108 : Int32)), (nar .char (105 : Int32)), (nar .char ((cr &&& (255 : Int32)).toUInt32.toUInt16.toUInt32.toInt32)), (nar .char (116 : Int32))] : List Int32)) (bs := (([(nar .char (101 : Int32)), (nar .char (114 : Int32)), (nar .char (114 : Int32)), (nar .char (111 : Int32)), (nar .char (114 : Int32)), (nar .char (115 : Int32)), (nar .char (45 : Int32)), (nar .char (108 : Int32)), (nar .char (105 : Int32)), (nar .char ((cr &&& (255 : Int32)).toUInt32.toUInt16.toUInt32.toInt32)), (nar .char (116 : Int32))] : List Int32)).map (fun c => c.toInt8.toInt32)) (n := 11) g_b81 Zs81 A81 F_value_b81 F_coder_b81 (V_ba31_80.ext E81) (O2.ext Ol81.2) P5 rfl rfl (by decide) (by decide) hp83 rfl (by decide) (by decide)) (g := (mkF m 78 #[iv mr, iv wr, iv pr, iv cr, iv er, iv 1, iv 0, .unset, rv ba31, iv 9, .unset] [(.ref ba31), (.ref b81), (.ref b81)])) rfl (by rw [hml]; rfl) (Steps.refl _) (a := b81) (argsL := [(.ref ba31)]) (rest := [(.ref b81)]) (lenOf pd_13 rfl) rfl (by show 2 * 0 + _ ≤ _; exact Nat.le_of_eq rfl) (hb hby at_78) (fun _ _ => ⟨rfl, e81, (by decide : 2 + 1 ≤ _), (by decide : 15 + 11 ≤ _)⟩)
        dsimp only [Pt.U, Pt.locs, Pt.cells, Pt.slots] at X82 l82 y82 z82 st82 hQ82
        subst l82 y82 z82
        obtain ⟨rfl, N82q, K82, Es82, Cs82, t82, kb82, ua82, ub82, uc82, Vs82, Ks82⟩ := hQ82
        have Zs82 : n0 ≤ T82.heap.size := Nat.le_trans Zs81 K82.1
        have N82 := Fr.app N80 N82q
        have Ol82 := Ol81.keep K82 (allS g_b81 all0)
        obtain ⟨lq82, X82, N82⟩ : ∃ lq, Stand p l e room_1 (s.setVm s.vm) m #[(.int mr), (.int wr), (.int pr), (.int cr), (.int er)] below meth c T82 lq 3 26 ∧ Fr n0 lq := ⟨_, X82, N82⟩
        refine own_tr (b := T82.setTop (mkF m 81 #[iv mr, iv wr, iv pr, iv cr, iv er, iv 1, iv 0, .unset, rv ba31, iv 9, .unset] [(.ref b81)])) st82 ?_
        refine own_go (b := T82.setTop (mkF m 83 #[iv mr, iv wr, iv pr, iv cr, iv er, iv 1, iv 0, rv b81, rv ba31, iv 9, .unset] [])) (fun t k => XS.astore X82.here hx rfl (hb hby at_81) rfl rfl (l' := #[iv mr, iv wr, iv pr, iv cr, iv er, iv 1, iv 0, rv b81, rv ba31, iv 9, .unset]) rfl k) ?_
        refine own_go (b := T82.setTop (mkF m 155 #[iv mr, iv wr, iv pr, iv cr, iv er, iv 1, iv 0, rv b81, rv ba31, iv 9, .unset] [])) (fun t k => XS.goto X82.here hx rfl (pc0 := 83) (pc' := 155) rfl (hb hby at_83) (by decide) (by decide) k) ?_
        exact J155 T82 T82.heap _ s.vm _ (1 : Int32) (0 : Int32) b81 ([(nar .char (101 : Int32)), (nar .char (114 : Int32)), (nar .char (114 : Int32)), (nar .char (111 : Int32)), (nar .char (114 : Int32)), (nar .char (115 : Int32)), (nar .char (45 : Int32)), (nar .char (108 : Int32)), (nar .char (105 : Int32)), (nar .char ((cr &&& (255 : Int32)).toUInt32.toUInt16.toUInt32.toInt32)), (nar .char (116 : Int32))] : List Int32) (rv ba31) (iv 9) (own_mono X82 (by decide) (by decide)) rfl N82 Zs82 Ol82 hS0 ((((Le0.keep K31).wr W80).ext E81).keep K82) hZ hown (own_IBm I0 rfl (by simp)) ⟨t82, _, Es82, Vs82, Cs82, Ks82, hp83, (Nat.le_of_ble_eq_true rfl)⟩ (Or.inr ⟨_, rfl, rfl⟩) (Or.inr ⟨_, rfl, rfl⟩)
      | 10, _, hX33 =>
        replace hX33 : ((pr &&& (2147483647 : Int32)) % (11 : Int32)) = (10 : Int32) := hX33
        rw [hX33]
        refine own_go (b := T31.setTop (mkF m 63 #[iv mr, iv wr, iv pr, iv cr, iv er, iv 1, iv 0, .unset, rv ba31, iv 10, .unset] [(.ref ba31)])) (fun t k => XS.aload X31.here hx rfl (hb hby at_61) rfl rfl k) ?_
        refine own_go (b := T31.setTop (mkF m 65 #[iv mr, iv wr, iv pr, iv cr, iv er, iv 1, iv 0, .unset, rv ba31, iv 10, .unset] [(.int 10), (.ref ba31)])) (fun t k => XS.iload X31.here hx rfl (hb hby at_63) rfl  k) ?_
        refine own_go (b := T31.setTop (mkF m 66 #[iv mr, iv wr, iv pr, iv cr, iv er, iv 1, iv 0, .unset, rv ba31, iv 10, .unset] [(.int cr), (.int 10), (.ref ba31)])) (fun t k => XS.iloadN X31.here hx rfl (hb hby at_65) rfl  k) ?_
        refine own_go (b := T31.setTop (mkF m 69 #[iv mr, iv wr, iv pr, iv cr, iv er, iv 1, iv 0, .unset, rv ba31, iv 10, .unset] [(.int 255), (.int cr), (.int 10), (.ref ba31)])) (fun t k => XS.sipush X31.here hx rfl (hb hby at_66) k) ?_
        refine own_go (b := T31.setTop (mkF m 70 #[iv mr, iv wr, iv pr, iv cr, iv er, iv 1, iv 0, .unset, rv ba31, iv 10, .unset] [(.int (cr &&& (255 : Int32))), (.int 10), (.ref ba31)])) (fun t k => XS.iand X31.here hx rfl (hb hby at_69) rfl k) ?_
        refine own_go (b := T31.setTop (mkF m 71 #[iv mr, iv wr, iv pr, iv cr, iv er, iv 1, iv 0, .unset, rv ba31, iv 10, .unset] [(.int ((cr &&& (255 : Int32)).toUInt32.toUInt16.toUInt32.toInt32)), (.int 10), (.ref ba31)])) (fun t k => XS.i2c X31.here hx rfl (hb hby at_70) rfl k) ?_
        obtain ⟨cl84, Ar84, qc84, Sz84, Ng84, Hs84, Ft84⟩ := id Va31
        have hin84 : ¬ ((10 : Int32) < 0 ∨ cl84.slots.size ≤ ((10 : Int32)).toNatClampNeg) := inb_of Sz84 ⟨by decide, by decide⟩
        obtain ⟨T85, h85, X85, e85, W85, st85⟩ := stC X31 hx hZ rfl Ar84 (j := (10 : Int32)) hin84 (g := (mkF m 71 #[iv mr, iv wr, iv pr, iv cr, iv er, iv 1, iv 0, .unset, rv ba31, iv 10, .unset] [(.int ((cr &&& (255 : Int32)).toUInt32.toUInt16.toUInt32.toInt32)), (.int 10), (.ref ba31)])) rfl rfl (hb hby at_71)
        have V_ba31_85 : Arv Z h85 ba31 kc31 .char (11 : Int32) [(.int (nar .char (101 : Int32))), (.int (nar .char (114 : Int32))), (.int (nar .char (114 : Int32))), (.int (nar .char (111 : Int32))), (.int (nar .char (114 : Int32))), (.int (nar .char (115 : Int32))), (.int (nar .char (45 : Int32))), (.int (nar .char (108 : Int32))), (.int (nar .char (105 : Int32))), (.int (nar .char (115 : Int32))), (.int (nar .char ((cr &&& (255 : Int32)).toUInt32.toUInt16.toUInt32.toInt32)))] (.int (0 : Int32)) := Arv.set Ar84 qc84 Sz84 Ng84 Hs84 Ft84 (fits_nar_char _) W85 10 rfl (Nat.le_of_ble_eq_true rfl)
        have Zs85 : n0 ≤ h85.size := Nat.le_trans Zs31 (Keep.of_wr W85).1
        have N85 := Fr.snoc X85 N31 g_ba31
        have Ol85 := Ol31.wr W85 g_ba31
        refine own_go (b := T85.setTop (mkF m 72 #[iv mr, iv wr, iv pr, iv cr, iv er, iv 1, iv 0, .unset, rv ba31, iv 10, .unset] [])) st85 ?_
        obtain ⟨T86, h86, X86, e86, E86, A86, D86, -, st86⟩ := newO X85 hx hZ hown (hw _ (List.mem_of_getElem? (i := 1) rfl)) (hw _ (List.mem_of_getElem? (i := 2) rfl)) (hw _ (List.mem_of_getElem? (i := 3) rfl)) e85 (g := (mkF m 72 #[iv mr, iv wr, iv pr, iv cr, iv er, iv 1, iv 0, .unset, rv ba31, iv 10, .unset] [])) rfl (hb hby at_72) (by decide) (by decide)
        obtain ⟨b86, g86⟩ : ∃ z, z = h85.size := ⟨_, rfl⟩
        rw [← g86] at A86 D86 st86
        have g_b86 : n0 ≤ b86 := Nat.le_trans Zs85 (Nat.le_of_eq g86.symm)
        have Zs86 : n0 ≤ h86.size := Nat.le_trans Zs85 E86.1
        have Ol86 := Ol85.ext E86
        have F_coder_b86 : Fld Z h86 b86 "java/lang/String" "coder" "B" (.int 0) := D86 (Or.inr (hw _ (List.mem_of_getElem? (i := 32) rfl))) (ty := .byte) (by decide)
        have F_value_b86 : Fld Z h86 b86 "java/lang/String" "value" "[B" .null := D86 (Or.inr (hw _ (List.mem_of_getElem? (i := 34) rfl))) (ty := (.array .byte)) (by decide)
        refine own_go (b := T86.setTop (mkF m 75 #[iv mr, iv wr, iv pr, iv cr, iv er, iv 1, iv 0, .unset, rv ba31, iv 10, .unset] [(.ref b86)])) st86 ?_
        refine own_go (b := T86.setTop (mkF m 76 #[iv mr, iv wr, iv pr, iv cr, iv er, iv 1, iv 0, .unset, rv ba31, iv 10, .unset] [(.ref b86), (.ref b86)])) (fun t k => XS.dup X86.here hx rfl (hb hby at_75) rfl rfl k) ?_
        refine own_go (b := T86.setTop (mkF m 78 #[iv mr, iv wr, iv pr, iv cr, iv er, iv 1, iv 0, .unset, rv ba31, iv 10, .unset] [(.ref ba31), (.ref b86), (.ref b86)])) (fun t k => XS.aload X86.here hx rfl (hb hby at_76) rfl rfl k) ?_
        have hp88 : ∀ c ∈ ([(nar .char (101 : Int32)), (nar .char (114 : Int32)), (nar .char (114 : Int32)), (nar .char (111 : Int32)), (nar .char (114 : Int32)), (nar .char (115 : Int32)), (nar .char (45 : Int32)), (nar .char (108 : Int32)), (nar .char (105 : Int32)), (nar .char (115 : Int32)), (nar .char ((cr &&& (255 : Int32)).toUInt32.toUInt16.toUInt32.toInt32))] : List Int32), ¬ c < 0 ∧ ¬ (255 : Int32) < c := by
          intro c hc
          simp only [List.mem_cons, List.not_mem_nil, or_false] at hc
          rcases hc with rfl | rfl | rfl | rfl | rfl | rfl | rfl | rfl | rfl | rfl | rfl
          · exact (by decide +kernel)
          · exact (by decide +kernel)
          · exact (by decide +kernel)
          · exact (by decide +kernel)
          · exact (by decide +kernel)
          · exact (by decide +kernel)
          · exact (by decide +kernel)
          · exact (by decide +kernel)
          · exact (by decide +kernel)
          · exact (by decide +kernel)
          · exact own_and255 cr
        obtain ⟨_, _, ⟨T87, L87, k87, n87⟩, -, X87, ⟨Lc87, hQ87, l87, y87, z87⟩, st87⟩ := X86.specialBack hx (y := (⟨"java/lang/String", "<init>", "([C)V"⟩ : MethodName)) rfl hown (mvT hZ (hw _ (List.mem_of_getElem? (i := 9) rfl))) (mvT hZ (hw _ (List.mem_of_getElem? (i := 10) rfl))) (mvT hZ (hw _ (List.mem_of_getElem? (i := 11) rfl))) (by decide) (StrChars.Road.backV (W := 1) hZ hws (kI := 4) (hw _ (List.mem_of_getElem? (i := 2) rfl)) (cs := ([(nar .char (101 : Int32)), (nar .char (114 : Int32)), (nar .char (114 : Int32)), (nar .char (111 : Int32)), (nar .char (114 : Int32)), (nar .char (115 : Int32)), (nar .char (45 : Int32)), (nar .char (108 : Int32)), (nar .char (105 : Int32)), (nar .char (115 : Int32)), (nar .char ((cr &&& (255 : Int32)).toUInt32.toUInt16.toUInt32.toInt32))] : List Int32)) (bs := (([(nar .char (101 : Int32)), (nar .char (114 : Int32)), (nar .char (114 : Int32)), (nar .char (111 : Int32)), (nar .char (114 : Int32)), (nar .char (115 : Int32)), (nar .char (45 : Int32)), (nar .char (108 : Int32)), (nar .char (105 : Int32)), (nar .char (115 : Int32)), (nar .char ((cr &&& (255 : Int32)).toUInt32.toUInt16.toUInt32.toInt32))] : List Int32)).map (fun c => c.toInt8.toInt32)) (n := 11) g_b86 Zs86 A86 F_value_b86 F_coder_b86 (V_ba31_85.ext E86) (O2.ext Ol86.2) P5 rfl rfl (by decide) (by decide) hp88 rfl (by decide) (by decide)) (g := (mkF m 78 #[iv mr, iv wr, iv pr, iv cr, iv er, iv 1, iv 0, .unset, rv ba31, iv 10, .unset] [(.ref ba31), (.ref b86), (.ref b86)])) rfl (by rw [hml]; rfl) (Steps.refl _) (a := b86) (argsL := [(.ref ba31)]) (rest := [(.ref b86)]) (lenOf pd_13 rfl) rfl (by show 2 * 0 + _ ≤ _; exact Nat.le_of_eq rfl) (hb hby at_78) (fun _ _ => ⟨rfl, e86, (by decide : 2 + 1 ≤ _), (by decide : 15 + 11 ≤ _)⟩)
        dsimp only [Pt.U, Pt.locs, Pt.cells, Pt.slots] at X87 l87 y87 z87 st87 hQ87
        subst l87 y87 z87
        obtain ⟨rfl, N87q, K87, Es87, Cs87, t87, kb87, ua87, ub87, uc87, Vs87, Ks87⟩ := hQ87
        have Zs87 : n0 ≤ T87.heap.size := Nat.le_trans Zs86 K87.1
        have N87 := Fr.app N85 N87q
        have Ol87 := Ol86.keep K87 (allS g_b86 all0)
        obtain ⟨lq87, X87, N87⟩ : ∃ lq, Stand p l e room_1 (s.setVm s.vm) m #[(.int mr), (.int wr), (.int pr), (.int cr), (.int er)] below meth c T87 lq 3 26 ∧ Fr n0 lq := ⟨_, X87, N87⟩
        refine own_tr (b := T87.setTop (mkF m 81 #[iv mr, iv wr, iv pr, iv cr, iv er, iv 1, iv 0, .unset, rv ba31, iv 10, .unset] [(.ref b86)])) st87 ?_
        refine own_go (b := T87.setTop (mkF m 83 #[iv mr, iv wr, iv pr, iv cr, iv er, iv 1, iv 0, rv b86, rv ba31, iv 10, .unset] [])) (fun t k => XS.astore X87.here hx rfl (hb hby at_81) rfl rfl (l' := #[iv mr, iv wr, iv pr, iv cr, iv er, iv 1, iv 0, rv b86, rv ba31, iv 10, .unset]) rfl k) ?_
        refine own_go (b := T87.setTop (mkF m 155 #[iv mr, iv wr, iv pr, iv cr, iv er, iv 1, iv 0, rv b86, rv ba31, iv 10, .unset] [])) (fun t k => XS.goto X87.here hx rfl (pc0 := 83) (pc' := 155) rfl (hb hby at_83) (by decide) (by decide) k) ?_
        exact J155 T87 T87.heap _ s.vm _ (1 : Int32) (0 : Int32) b86 ([(nar .char (101 : Int32)), (nar .char (114 : Int32)), (nar .char (114 : Int32)), (nar .char (111 : Int32)), (nar .char (114 : Int32)), (nar .char (115 : Int32)), (nar .char (45 : Int32)), (nar .char (108 : Int32)), (nar .char (105 : Int32)), (nar .char (115 : Int32)), (nar .char ((cr &&& (255 : Int32)).toUInt32.toUInt16.toUInt32.toInt32))] : List Int32) (rv ba31) (iv 10) (own_mono X87 (by decide) (by decide)) rfl N87 Zs87 Ol87 hS0 ((((Le0.keep K31).wr W85).ext E86).keep K87) hZ hown (own_IBm I0 rfl (by simp)) ⟨t87, _, Es87, Vs87, Cs87, Ks87, hp88, (Nat.le_of_ble_eq_true rfl)⟩ (Or.inr ⟨_, rfl, rfl⟩) (Or.inr ⟨_, rfl, rfl⟩)
      | j + 11, h, _ => omega
    | 1, _, hX30 =>
      replace hX30 : ((wr &&& (2147483647 : Int32)) % (3 : Int32)) = (1 : Int32) := hX30
      rw [hX30]
      refine own_go (b := s₁.setTop (mkF m 46 #[iv mr, iv wr, iv pr, iv cr, iv er, iv 1, iv 1, .unset, .unset, .unset, .unset] [(.int 1)])) (fun t k => XS.iload X0.here hx rfl (hb hby at_44) rfl  k) ?_
      obtain ⟨_, _, ⟨T89, L89, k89, n89⟩, -, X89, ⟨Lc89, hQ89, l89, y89, z89⟩, st89⟩ := Jvm.LawKit.callS X0 hx (y := (⟨"com/example/fault/fault/EnvelopeNamedPinLaw", "base", "(I)[C"⟩ : MethodName)) hown (mvT hZ (hw _ (List.mem_of_getElem? (i := 4) rfl))) (mvT hZ (hw _ (List.mem_of_getElem? (i := 5) rfl))) (mvT hZ (hw _ (List.mem_of_getElem? (i := 6) rfl))) (mvT hZ (hw _ (List.mem_of_getElem? (i := 7) rfl))) (by decide) (backOf (W := 0) (rm1_1 l Z a0 hw [] (1 : Int32)  h0 n0 Z0 rfl) hZ (hw _ (List.mem_of_getElem? (i := 7) rfl)) (hw _ (List.mem_of_getElem? (i := 6) rfl)) (by decide) (by decide)) (g := (mkF m 46 #[iv mr, iv wr, iv pr, iv cr, iv er, iv 1, iv 1, .unset, .unset, .unset, .unset] [(.int 1)])) rfl (by rw [hml]; rfl) (argsL := [(.int 1)]) (rest := []) (lenOf pd_12 rfl) rfl (by show 2 * 0 + _ ≤ _; exact Nat.le_of_eq rfl) (hb hby at_46) (fun _ _ => ⟨rfl, e0, (by decide : 0 + 1 ≤ _), (by decide : 0 + 12 ≤ _)⟩)
      dsimp only [Pt.U, Pt.locs, Pt.cells, Pt.slots] at X89 l89 y89 z89 st89 hQ89
      subst l89 y89 z89
      obtain ⟨ba89, kc89, rfl, N89q, K89, g_ba89, sz_ba89, Va89⟩ := hQ89
      have Zs89 : n0 ≤ T89.heap.size := Nat.le_trans Z0 K89.1
      have N89 := Fr.app N0 N89q
      have Ol89 := Od.keep K89 all0
      obtain ⟨lq89, X89, N89⟩ : ∃ lq, Stand p l e room_1 (s.setVm s.vm) m #[(.int mr), (.int wr), (.int pr), (.int cr), (.int er)] below meth c T89 lq 1 12 ∧ Fr n0 lq := ⟨_, X89, N89⟩
      refine own_go (b := T89.setTop (mkF m 49 #[iv mr, iv wr, iv pr, iv cr, iv er, iv 1, iv 1, .unset, .unset, .unset, .unset] [(.ref ba89)])) st89 ?_
      refine own_go (b := T89.setTop (mkF m 51 #[iv mr, iv wr, iv pr, iv cr, iv er, iv 1, iv 1, .unset, rv ba89, .unset, .unset] [])) (fun t k => XS.astore X89.here hx rfl (hb hby at_49) rfl rfl (l' := #[iv mr, iv wr, iv pr, iv cr, iv er, iv 1, iv 1, .unset, rv ba89, .unset, .unset]) rfl k) ?_
      refine own_go (b := T89.setTop (mkF m 52 #[iv mr, iv wr, iv pr, iv cr, iv er, iv 1, iv 1, .unset, rv ba89, .unset, .unset] [(.int pr)])) (fun t k => XS.iloadN X89.here hx rfl (hb hby at_51) rfl  k) ?_
      refine own_go (b := T89.setTop (mkF m 54 #[iv mr, iv wr, iv pr, iv cr, iv er, iv 1, iv 1, .unset, rv ba89, .unset, .unset] [(.int 2147483647), (.int pr)])) (fun t k => X89.ldcInt hx hown (mvT hZ (hw _ (List.mem_of_getElem? (i := 0) rfl))) (g := (mkF m 52 #[iv mr, iv wr, iv pr, iv cr, iv er, iv 1, iv 1, .unset, rv ba89, .unset, .unset] [(.int pr)])) rfl (hb hby at_52) t k) ?_
      refine own_go (b := T89.setTop (mkF m 55 #[iv mr, iv wr, iv pr, iv cr, iv er, iv 1, iv 1, .unset, rv ba89, .unset, .unset] [(.int (pr &&& (2147483647 : Int32)))])) (fun t k => XS.iand X89.here hx rfl (hb hby at_54) rfl k) ?_
      refine own_go (b := T89.setTop (mkF m 57 #[iv mr, iv wr, iv pr, iv cr, iv er, iv 1, iv 1, .unset, rv ba89, .unset, .unset] [(.ref ba89), (.int (pr &&& (2147483647 : Int32)))])) (fun t k => XS.aload X89.here hx rfl (hb hby at_55) rfl rfl k) ?_
      obtain ⟨cl90, Ar90, qc90, Sz90, Ng90, Hs90, Ft90⟩ := id Va89
      refine own_go (b := T89.setTop (mkF m 58 #[iv mr, iv wr, iv pr, iv cr, iv er, iv 1, iv 1, .unset, rv ba89, .unset, .unset] [(.int (cl90.slots.size.toInt32)), (.int (pr &&& (2147483647 : Int32)))])) (fun t k => X89.arraylength hx (own_at rfl Ar90.1) (State.isArrayOf_alike hZ.alike Ar90.2.1) (g := (mkF m 57 #[iv mr, iv wr, iv pr, iv cr, iv er, iv 1, iv 1, .unset, rv ba89, .unset, .unset] [(.ref ba89), (.int (pr &&& (2147483647 : Int32)))])) rfl rfl (hb hby at_57) t k) ?_
      rw [(len_of Sz90 Ng90)]
      refine own_go (b := T89.setTop (mkF m 59 #[iv mr, iv wr, iv pr, iv cr, iv er, iv 1, iv 1, .unset, rv ba89, .unset, .unset] [(.int ((pr &&& (2147483647 : Int32)) % (12 : Int32)))])) (fun t k => iremM X89 hx rfl (hb hby at_58) rfl (by decide) k) ?_
      refine own_go (b := T89.setTop (mkF m 61 #[iv mr, iv wr, iv pr, iv cr, iv er, iv 1, iv 1, .unset, rv ba89, iv ((pr &&& (2147483647 : Int32)) % (12 : Int32)), .unset] [])) (fun t k => XS.istore X89.here hx rfl (hb hby at_59) rfl (l' := #[iv mr, iv wr, iv pr, iv cr, iv er, iv 1, iv 1, .unset, rv ba89, iv ((pr &&& (2147483647 : Int32)) % (12 : Int32)), .unset]) rfl k) ?_
      obtain ⟨js91, hj91, hX91⟩ := own_r12 pr
      match js91, hj91, hX91 with
      | 0, _, hX91 =>
        replace hX91 : ((pr &&& (2147483647 : Int32)) % (12 : Int32)) = (0 : Int32) := hX91
        rw [hX91]
        refine own_go (b := T89.setTop (mkF m 63 #[iv mr, iv wr, iv pr, iv cr, iv er, iv 1, iv 1, .unset, rv ba89, iv 0, .unset] [(.ref ba89)])) (fun t k => XS.aload X89.here hx rfl (hb hby at_61) rfl rfl k) ?_
        refine own_go (b := T89.setTop (mkF m 65 #[iv mr, iv wr, iv pr, iv cr, iv er, iv 1, iv 1, .unset, rv ba89, iv 0, .unset] [(.int 0), (.ref ba89)])) (fun t k => XS.iload X89.here hx rfl (hb hby at_63) rfl  k) ?_
        refine own_go (b := T89.setTop (mkF m 66 #[iv mr, iv wr, iv pr, iv cr, iv er, iv 1, iv 1, .unset, rv ba89, iv 0, .unset] [(.int cr), (.int 0), (.ref ba89)])) (fun t k => XS.iloadN X89.here hx rfl (hb hby at_65) rfl  k) ?_
        refine own_go (b := T89.setTop (mkF m 69 #[iv mr, iv wr, iv pr, iv cr, iv er, iv 1, iv 1, .unset, rv ba89, iv 0, .unset] [(.int 255), (.int cr), (.int 0), (.ref ba89)])) (fun t k => XS.sipush X89.here hx rfl (hb hby at_66) k) ?_
        refine own_go (b := T89.setTop (mkF m 70 #[iv mr, iv wr, iv pr, iv cr, iv er, iv 1, iv 1, .unset, rv ba89, iv 0, .unset] [(.int (cr &&& (255 : Int32))), (.int 0), (.ref ba89)])) (fun t k => XS.iand X89.here hx rfl (hb hby at_69) rfl k) ?_
        refine own_go (b := T89.setTop (mkF m 71 #[iv mr, iv wr, iv pr, iv cr, iv er, iv 1, iv 1, .unset, rv ba89, iv 0, .unset] [(.int ((cr &&& (255 : Int32)).toUInt32.toUInt16.toUInt32.toInt32)), (.int 0), (.ref ba89)])) (fun t k => XS.i2c X89.here hx rfl (hb hby at_70) rfl k) ?_
        obtain ⟨cl92, Ar92, qc92, Sz92, Ng92, Hs92, Ft92⟩ := id Va89
        have hin92 : ¬ ((0 : Int32) < 0 ∨ cl92.slots.size ≤ ((0 : Int32)).toNatClampNeg) := inb_of Sz92 ⟨by decide, by decide⟩
        obtain ⟨T93, h93, X93, e93, W93, st93⟩ := stC X89 hx hZ rfl Ar92 (j := (0 : Int32)) hin92 (g := (mkF m 71 #[iv mr, iv wr, iv pr, iv cr, iv er, iv 1, iv 1, .unset, rv ba89, iv 0, .unset] [(.int ((cr &&& (255 : Int32)).toUInt32.toUInt16.toUInt32.toInt32)), (.int 0), (.ref ba89)])) rfl rfl (hb hby at_71)
        have V_ba89_93 : Arv Z h93 ba89 kc89 .char (12 : Int32) [(.int (nar .char ((cr &&& (255 : Int32)).toUInt32.toUInt16.toUInt32.toInt32))), (.int (nar .char (105 : Int32))), (.int (nar .char (110 : Int32))), (.int (nar .char (103 : Int32))), (.int (nar .char (108 : Int32))), (.int (nar .char (101 : Int32))), (.int (nar .char (45 : Int32))), (.int (nar .char (101 : Int32))), (.int (nar .char (114 : Int32))), (.int (nar .char (114 : Int32))), (.int (nar .char (111 : Int32))), (.int (nar .char (114 : Int32)))] (.int (0 : Int32)) := Arv.set Ar92 qc92 Sz92 Ng92 Hs92 Ft92 (fits_nar_char _) W93 0 rfl (Nat.le_of_ble_eq_true rfl)
        have Zs93 : n0 ≤ h93.size := Nat.le_trans Zs89 (Keep.of_wr W93).1
        have N93 := Fr.snoc X93 N89 g_ba89
        have Ol93 := Ol89.wr W93 g_ba89
        refine own_go (b := T93.setTop (mkF m 72 #[iv mr, iv wr, iv pr, iv cr, iv er, iv 1, iv 1, .unset, rv ba89, iv 0, .unset] [])) st93 ?_
        obtain ⟨T94, h94, X94, e94, E94, A94, D94, -, st94⟩ := newO X93 hx hZ hown (hw _ (List.mem_of_getElem? (i := 1) rfl)) (hw _ (List.mem_of_getElem? (i := 2) rfl)) (hw _ (List.mem_of_getElem? (i := 3) rfl)) e93 (g := (mkF m 72 #[iv mr, iv wr, iv pr, iv cr, iv er, iv 1, iv 1, .unset, rv ba89, iv 0, .unset] [])) rfl (hb hby at_72) (by decide) (by decide)
        obtain ⟨b94, g94⟩ : ∃ z, z = h93.size := ⟨_, rfl⟩
        rw [← g94] at A94 D94 st94
        have g_b94 : n0 ≤ b94 := Nat.le_trans Zs93 (Nat.le_of_eq g94.symm)
        have Zs94 : n0 ≤ h94.size := Nat.le_trans Zs93 E94.1
        have Ol94 := Ol93.ext E94
        have F_coder_b94 : Fld Z h94 b94 "java/lang/String" "coder" "B" (.int 0) := D94 (Or.inr (hw _ (List.mem_of_getElem? (i := 32) rfl))) (ty := .byte) (by decide)
        have F_value_b94 : Fld Z h94 b94 "java/lang/String" "value" "[B" .null := D94 (Or.inr (hw _ (List.mem_of_getElem? (i := 34) rfl))) (ty := (.array .byte)) (by decide)
        refine own_go (b := T94.setTop (mkF m 75 #[iv mr, iv wr, iv pr, iv cr, iv er, iv 1, iv 1, .unset, rv ba89, iv 0, .unset] [(.ref b94)])) st94 ?_
        refine own_go (b := T94.setTop (mkF m 76 #[iv mr, iv wr, iv pr, iv cr, iv er, iv 1, iv 1, .unset, rv ba89, iv 0, .unset] [(.ref b94), (.ref b94)])) (fun t k => XS.dup X94.here hx rfl (hb hby at_75) rfl rfl k) ?_
        refine own_go (b := T94.setTop (mkF m 78 #[iv mr, iv wr, iv pr, iv cr, iv er, iv 1, iv 1, .unset, rv ba89, iv 0, .unset] [(.ref ba89), (.ref b94), (.ref b94)])) (fun t k => XS.aload X94.here hx rfl (hb hby at_76) rfl rfl k) ?_
        have hp96 : ∀ c ∈ ([(nar .char ((cr &&& (255 : Int32)).toUInt32.toUInt16.toUInt32.toInt32)), (nar .char (105 : Int32)), (nar .char (110 : Int32)), (nar .char (103 : Int32)), (nar .char (108 : Int32)), (nar .char (101 : Int32)), (nar .char (45 : Int32)), (nar .char (101 : Int32)), (nar .char (114 : Int32)), (nar .char (114 : Int32)), (nar .char (111 : Int32)), (nar .char (114 : Int32))] : List Int32), ¬ c < 0 ∧ ¬ (255 : Int32) < c := by
          intro c hc
          simp only [List.mem_cons, List.not_mem_nil, or_false] at hc
          rcases hc with rfl | rfl | rfl | rfl | rfl | rfl | rfl | rfl | rfl | rfl | rfl | rfl
          · exact own_and255 cr
          · exact (by decide +kernel)
          · exact (by decide +kernel)
          · exact (by decide +kernel)
          · exact (by decide +kernel)
          · exact (by decide +kernel)
          · exact (by decide +kernel)
          · exact (by decide +kernel)
          · exact (by decide +kernel)
          · exact (by decide +kernel)
          · exact (by decide +kernel)
          · exact (by decide +kernel)
        obtain ⟨_, _, ⟨T95, L95, k95, n95⟩, -, X95, ⟨Lc95, hQ95, l95, y95, z95⟩, st95⟩ := X94.specialBack hx (y := (⟨"java/lang/String", "<init>", "([C)V"⟩ : MethodName)) rfl hown (mvT hZ (hw _ (List.mem_of_getElem? (i := 9) rfl))) (mvT hZ (hw _ (List.mem_of_getElem? (i := 10) rfl))) (mvT hZ (hw _ (List.mem_of_getElem? (i := 11) rfl))) (by decide) (StrChars.Road.backV (W := 1) hZ hws (kI := 4) (hw _ (List.mem_of_getElem? (i := 2) rfl)) (cs := ([(nar .char ((cr &&& (255 : Int32)).toUInt32.toUInt16.toUInt32.toInt32)), (nar .char (105 : Int32)), (nar .char (110 : Int32)), (nar .char (103 : Int32)), (nar .char (108 : Int32)), (nar .char (101 : Int32)), (nar .char (45 : Int32)), (nar .char (101 : Int32)), (nar .char (114 : Int32)), (nar .char (114 : Int32)), (nar .char (111 : Int32)), (nar .char (114 : Int32))] : List Int32)) (bs := (([(nar .char ((cr &&& (255 : Int32)).toUInt32.toUInt16.toUInt32.toInt32)), (nar .char (105 : Int32)), (nar .char (110 : Int32)), (nar .char (103 : Int32)), (nar .char (108 : Int32)), (nar .char (101 : Int32)), (nar .char (45 : Int32)), (nar .char (101 : Int32)), (nar .char (114 : Int32)), (nar .char (114 : Int32)), (nar .char (111 : Int32)), (nar .char (114 : Int32))] : List Int32)).map (fun c => c.toInt8.toInt32)) (n := 12) g_b94 Zs94 A94 F_value_b94 F_coder_b94 (V_ba89_93.ext E94) (O2.ext Ol94.2) P5 rfl rfl (by decide) (by decide) hp96 rfl (by decide) (by decide)) (g := (mkF m 78 #[iv mr, iv wr, iv pr, iv cr, iv er, iv 1, iv 1, .unset, rv ba89, iv 0, .unset] [(.ref ba89), (.ref b94), (.ref b94)])) rfl (by rw [hml]; rfl) (Steps.refl _) (a := b94) (argsL := [(.ref ba89)]) (rest := [(.ref b94)]) (lenOf pd_13 rfl) rfl (by show 2 * 0 + _ ≤ _; exact Nat.le_of_eq rfl) (hb hby at_78) (fun _ _ => ⟨rfl, e94, (by decide : 2 + 1 ≤ _), (by decide : 16 + 12 ≤ _)⟩)
        dsimp only [Pt.U, Pt.locs, Pt.cells, Pt.slots] at X95 l95 y95 z95 st95 hQ95
        subst l95 y95 z95
        obtain ⟨rfl, N95q, K95, Es95, Cs95, t95, kb95, ua95, ub95, uc95, Vs95, Ks95⟩ := hQ95
        have Zs95 : n0 ≤ T95.heap.size := Nat.le_trans Zs94 K95.1
        have N95 := Fr.app N93 N95q
        have Ol95 := Ol94.keep K95 (allS g_b94 all0)
        obtain ⟨lq95, X95, N95⟩ : ∃ lq, Stand p l e room_1 (s.setVm s.vm) m #[(.int mr), (.int wr), (.int pr), (.int cr), (.int er)] below meth c T95 lq 3 28 ∧ Fr n0 lq := ⟨_, X95, N95⟩
        refine own_tr (b := T95.setTop (mkF m 81 #[iv mr, iv wr, iv pr, iv cr, iv er, iv 1, iv 1, .unset, rv ba89, iv 0, .unset] [(.ref b94)])) st95 ?_
        refine own_go (b := T95.setTop (mkF m 83 #[iv mr, iv wr, iv pr, iv cr, iv er, iv 1, iv 1, rv b94, rv ba89, iv 0, .unset] [])) (fun t k => XS.astore X95.here hx rfl (hb hby at_81) rfl rfl (l' := #[iv mr, iv wr, iv pr, iv cr, iv er, iv 1, iv 1, rv b94, rv ba89, iv 0, .unset]) rfl k) ?_
        refine own_go (b := T95.setTop (mkF m 155 #[iv mr, iv wr, iv pr, iv cr, iv er, iv 1, iv 1, rv b94, rv ba89, iv 0, .unset] [])) (fun t k => XS.goto X95.here hx rfl (pc0 := 83) (pc' := 155) rfl (hb hby at_83) (by decide) (by decide) k) ?_
        exact J155 T95 T95.heap _ s.vm _ (1 : Int32) (1 : Int32) b94 ([(nar .char ((cr &&& (255 : Int32)).toUInt32.toUInt16.toUInt32.toInt32)), (nar .char (105 : Int32)), (nar .char (110 : Int32)), (nar .char (103 : Int32)), (nar .char (108 : Int32)), (nar .char (101 : Int32)), (nar .char (45 : Int32)), (nar .char (101 : Int32)), (nar .char (114 : Int32)), (nar .char (114 : Int32)), (nar .char (111 : Int32)), (nar .char (114 : Int32))] : List Int32) (rv ba89) (iv 0) (own_mono X95 (by decide) (by decide)) rfl N95 Zs95 Ol95 hS0 ((((Le0.keep K89).wr W93).ext E94).keep K95) hZ hown (own_IBm I0 rfl (by simp)) ⟨t95, _, Es95, Vs95, Cs95, Ks95, hp96, (Nat.le_of_ble_eq_true rfl)⟩ (Or.inr ⟨_, rfl, rfl⟩) (Or.inr ⟨_, rfl, rfl⟩)
      | 1, _, hX91 =>
        replace hX91 : ((pr &&& (2147483647 : Int32)) % (12 : Int32)) = (1 : Int32) := hX91
        rw [hX91]
        refine own_go (b := T89.setTop (mkF m 63 #[iv mr, iv wr, iv pr, iv cr, iv er, iv 1, iv 1, .unset, rv ba89, iv 1, .unset] [(.ref ba89)])) (fun t k => XS.aload X89.here hx rfl (hb hby at_61) rfl rfl k) ?_
        refine own_go (b := T89.setTop (mkF m 65 #[iv mr, iv wr, iv pr, iv cr, iv er, iv 1, iv 1, .unset, rv ba89, iv 1, .unset] [(.int 1), (.ref ba89)])) (fun t k => XS.iload X89.here hx rfl (hb hby at_63) rfl  k) ?_
        refine own_go (b := T89.setTop (mkF m 66 #[iv mr, iv wr, iv pr, iv cr, iv er, iv 1, iv 1, .unset, rv ba89, iv 1, .unset] [(.int cr), (.int 1), (.ref ba89)])) (fun t k => XS.iloadN X89.here hx rfl (hb hby at_65) rfl  k) ?_
        refine own_go (b := T89.setTop (mkF m 69 #[iv mr, iv wr, iv pr, iv cr, iv er, iv 1, iv 1, .unset, rv ba89, iv 1, .unset] [(.int 255), (.int cr), (.int 1), (.ref ba89)])) (fun t k => XS.sipush X89.here hx rfl (hb hby at_66) k) ?_
        refine own_go (b := T89.setTop (mkF m 70 #[iv mr, iv wr, iv pr, iv cr, iv er, iv 1, iv 1, .unset, rv ba89, iv 1, .unset] [(.int (cr &&& (255 : Int32))), (.int 1), (.ref ba89)])) (fun t k => XS.iand X89.here hx rfl (hb hby at_69) rfl k) ?_
        refine own_go (b := T89.setTop (mkF m 71 #[iv mr, iv wr, iv pr, iv cr, iv er, iv 1, iv 1, .unset, rv ba89, iv 1, .unset] [(.int ((cr &&& (255 : Int32)).toUInt32.toUInt16.toUInt32.toInt32)), (.int 1), (.ref ba89)])) (fun t k => XS.i2c X89.here hx rfl (hb hby at_70) rfl k) ?_
        obtain ⟨cl97, Ar97, qc97, Sz97, Ng97, Hs97, Ft97⟩ := id Va89
        have hin97 : ¬ ((1 : Int32) < 0 ∨ cl97.slots.size ≤ ((1 : Int32)).toNatClampNeg) := inb_of Sz97 ⟨by decide, by decide⟩
        obtain ⟨T98, h98, X98, e98, W98, st98⟩ := stC X89 hx hZ rfl Ar97 (j := (1 : Int32)) hin97 (g := (mkF m 71 #[iv mr, iv wr, iv pr, iv cr, iv er, iv 1, iv 1, .unset, rv ba89, iv 1, .unset] [(.int ((cr &&& (255 : Int32)).toUInt32.toUInt16.toUInt32.toInt32)), (.int 1), (.ref ba89)])) rfl rfl (hb hby at_71)
        have V_ba89_98 : Arv Z h98 ba89 kc89 .char (12 : Int32) [(.int (nar .char (115 : Int32))), (.int (nar .char ((cr &&& (255 : Int32)).toUInt32.toUInt16.toUInt32.toInt32))), (.int (nar .char (110 : Int32))), (.int (nar .char (103 : Int32))), (.int (nar .char (108 : Int32))), (.int (nar .char (101 : Int32))), (.int (nar .char (45 : Int32))), (.int (nar .char (101 : Int32))), (.int (nar .char (114 : Int32))), (.int (nar .char (114 : Int32))), (.int (nar .char (111 : Int32))), (.int (nar .char (114 : Int32)))] (.int (0 : Int32)) := Arv.set Ar97 qc97 Sz97 Ng97 Hs97 Ft97 (fits_nar_char _) W98 1 rfl (Nat.le_of_ble_eq_true rfl)
        have Zs98 : n0 ≤ h98.size := Nat.le_trans Zs89 (Keep.of_wr W98).1
        have N98 := Fr.snoc X98 N89 g_ba89
        have Ol98 := Ol89.wr W98 g_ba89
        refine own_go (b := T98.setTop (mkF m 72 #[iv mr, iv wr, iv pr, iv cr, iv er, iv 1, iv 1, .unset, rv ba89, iv 1, .unset] [])) st98 ?_
        obtain ⟨T99, h99, X99, e99, E99, A99, D99, -, st99⟩ := newO X98 hx hZ hown (hw _ (List.mem_of_getElem? (i := 1) rfl)) (hw _ (List.mem_of_getElem? (i := 2) rfl)) (hw _ (List.mem_of_getElem? (i := 3) rfl)) e98 (g := (mkF m 72 #[iv mr, iv wr, iv pr, iv cr, iv er, iv 1, iv 1, .unset, rv ba89, iv 1, .unset] [])) rfl (hb hby at_72) (by decide) (by decide)
        obtain ⟨b99, g99⟩ : ∃ z, z = h98.size := ⟨_, rfl⟩
        rw [← g99] at A99 D99 st99
        have g_b99 : n0 ≤ b99 := Nat.le_trans Zs98 (Nat.le_of_eq g99.symm)
        have Zs99 : n0 ≤ h99.size := Nat.le_trans Zs98 E99.1
        have Ol99 := Ol98.ext E99
        have F_coder_b99 : Fld Z h99 b99 "java/lang/String" "coder" "B" (.int 0) := D99 (Or.inr (hw _ (List.mem_of_getElem? (i := 32) rfl))) (ty := .byte) (by decide)
        have F_value_b99 : Fld Z h99 b99 "java/lang/String" "value" "[B" .null := D99 (Or.inr (hw _ (List.mem_of_getElem? (i := 34) rfl))) (ty := (.array .byte)) (by decide)
        refine own_go (b := T99.setTop (mkF m 75 #[iv mr, iv wr, iv pr, iv cr, iv er, iv 1, iv 1, .unset, rv ba89, iv 1, .unset] [(.ref b99)])) st99 ?_
        refine own_go (b := T99.setTop (mkF m 76 #[iv mr, iv wr, iv pr, iv cr, iv er, iv 1, iv 1, .unset, rv ba89, iv 1, .unset] [(.ref b99), (.ref b99)])) (fun t k => XS.dup X99.here hx rfl (hb hby at_75) rfl rfl k) ?_
        refine own_go (b := T99.setTop (mkF m 78 #[iv mr, iv wr, iv pr, iv cr, iv er, iv 1, iv 1, .unset, rv ba89, iv 1, .unset] [(.ref ba89), (.ref b99), (.ref b99)])) (fun t k => XS.aload X99.here hx rfl (hb hby at_76) rfl rfl k) ?_
        have hp101 : ∀ c ∈ ([(nar .char (115 : Int32)), (nar .char ((cr &&& (255 : Int32)).toUInt32.toUInt16.toUInt32.toInt32)), (nar .char (110 : Int32)), (nar .char (103 : Int32)), (nar .char (108 : Int32)), (nar .char (101 : Int32)), (nar .char (45 : Int32)), (nar .char (101 : Int32)), (nar .char (114 : Int32)), (nar .char (114 : Int32)), (nar .char (111 : Int32)), (nar .char (114 : Int32))] : List Int32), ¬ c < 0 ∧ ¬ (255 : Int32) < c := by
          intro c hc
          simp only [List.mem_cons, List.not_mem_nil, or_false] at hc
          rcases hc with rfl | rfl | rfl | rfl | rfl | rfl | rfl | rfl | rfl | rfl | rfl | rfl
          · exact (by decide +kernel)
          · exact own_and255 cr
          · exact (by decide +kernel)
          · exact (by decide +kernel)
          · exact (by decide +kernel)
          · exact (by decide +kernel)
          · exact (by decide +kernel)
          · exact (by decide +kernel)
          · exact (by decide +kernel)
          · exact (by decide +kernel)
          · exact (by decide +kernel)
          · exact (by decide +kernel)
        obtain ⟨_, _, ⟨T100, L100, k100, n100⟩, -, X100, ⟨Lc100, hQ100, l100, y100, z100⟩, st100⟩ := X99.specialBack hx (y := (⟨"java/lang/String", "<init>", "([C)V"⟩ : MethodName)) rfl hown (mvT hZ (hw _ (List.mem_of_getElem? (i := 9) rfl))) (mvT hZ (hw _ (List.mem_of_getElem? (i := 10) rfl))) (mvT hZ (hw _ (List.mem_of_getElem? (i := 11) rfl))) (by decide) (StrChars.Road.backV (W := 1) hZ hws (kI := 4) (hw _ (List.mem_of_getElem? (i := 2) rfl)) (cs := ([(nar .char (115 : Int32)), (nar .char ((cr &&& (255 : Int32)).toUInt32.toUInt16.toUInt32.toInt32)), (nar .char (110 : Int32)), (nar .char (103 : Int32)), (nar .char (108 : Int32)), (nar .char (101 : Int32)), (nar .char (45 : Int32)), (nar .char (101 : Int32)), (nar .char (114 : Int32)), (nar .char (114 : Int32)), (nar .char (111 : Int32)), (nar .char (114 : Int32))] : List Int32)) (bs := (([(nar .char (115 : Int32)), (nar .char ((cr &&& (255 : Int32)).toUInt32.toUInt16.toUInt32.toInt32)), (nar .char (110 : Int32)), (nar .char (103 : Int32)), (nar .char (108 : Int32)), (nar .char (101 : Int32)), (nar .char (45 : Int32)), (nar .char (101 : Int32)), (nar .char (114 : Int32)), (nar .char (114 : Int32)), (nar .char (111 : Int32)), (nar .char (114 : Int32))] : List Int32)).map (fun c => c.toInt8.toInt32)) (n := 12) g_b99 Zs99 A99 F_value_b99 F_coder_b99 (V_ba89_98.ext E99) (O2.ext Ol99.2) P5 rfl rfl (by decide) (by decide) hp101 rfl (by decide) (by decide)) (g := (mkF m 78 #[iv mr, iv wr, iv pr, iv cr, iv er, iv 1, iv 1, .unset, rv ba89, iv 1, .unset] [(.ref ba89), (.ref b99), (.ref b99)])) rfl (by rw [hml]; rfl) (Steps.refl _) (a := b99) (argsL := [(.ref ba89)]) (rest := [(.ref b99)]) (lenOf pd_13 rfl) rfl (by show 2 * 0 + _ ≤ _; exact Nat.le_of_eq rfl) (hb hby at_78) (fun _ _ => ⟨rfl, e99, (by decide : 2 + 1 ≤ _), (by decide : 16 + 12 ≤ _)⟩)
        dsimp only [Pt.U, Pt.locs, Pt.cells, Pt.slots] at X100 l100 y100 z100 st100 hQ100
        subst l100 y100 z100
        obtain ⟨rfl, N100q, K100, Es100, Cs100, t100, kb100, ua100, ub100, uc100, Vs100, Ks100⟩ := hQ100
        have Zs100 : n0 ≤ T100.heap.size := Nat.le_trans Zs99 K100.1
        have N100 := Fr.app N98 N100q
        have Ol100 := Ol99.keep K100 (allS g_b99 all0)
        obtain ⟨lq100, X100, N100⟩ : ∃ lq, Stand p l e room_1 (s.setVm s.vm) m #[(.int mr), (.int wr), (.int pr), (.int cr), (.int er)] below meth c T100 lq 3 28 ∧ Fr n0 lq := ⟨_, X100, N100⟩
        refine own_tr (b := T100.setTop (mkF m 81 #[iv mr, iv wr, iv pr, iv cr, iv er, iv 1, iv 1, .unset, rv ba89, iv 1, .unset] [(.ref b99)])) st100 ?_
        refine own_go (b := T100.setTop (mkF m 83 #[iv mr, iv wr, iv pr, iv cr, iv er, iv 1, iv 1, rv b99, rv ba89, iv 1, .unset] [])) (fun t k => XS.astore X100.here hx rfl (hb hby at_81) rfl rfl (l' := #[iv mr, iv wr, iv pr, iv cr, iv er, iv 1, iv 1, rv b99, rv ba89, iv 1, .unset]) rfl k) ?_
        refine own_go (b := T100.setTop (mkF m 155 #[iv mr, iv wr, iv pr, iv cr, iv er, iv 1, iv 1, rv b99, rv ba89, iv 1, .unset] [])) (fun t k => XS.goto X100.here hx rfl (pc0 := 83) (pc' := 155) rfl (hb hby at_83) (by decide) (by decide) k) ?_
        exact J155 T100 T100.heap _ s.vm _ (1 : Int32) (1 : Int32) b99 ([(nar .char (115 : Int32)), (nar .char ((cr &&& (255 : Int32)).toUInt32.toUInt16.toUInt32.toInt32)), (nar .char (110 : Int32)), (nar .char (103 : Int32)), (nar .char (108 : Int32)), (nar .char (101 : Int32)), (nar .char (45 : Int32)), (nar .char (101 : Int32)), (nar .char (114 : Int32)), (nar .char (114 : Int32)), (nar .char (111 : Int32)), (nar .char (114 : Int32))] : List Int32) (rv ba89) (iv 1) (own_mono X100 (by decide) (by decide)) rfl N100 Zs100 Ol100 hS0 ((((Le0.keep K89).wr W98).ext E99).keep K100) hZ hown (own_IBm I0 rfl (by simp)) ⟨t100, _, Es100, Vs100, Cs100, Ks100, hp101, (Nat.le_of_ble_eq_true rfl)⟩ (Or.inr ⟨_, rfl, rfl⟩) (Or.inr ⟨_, rfl, rfl⟩)
      | 2, _, hX91 =>
        replace hX91 : ((pr &&& (2147483647 : Int32)) % (12 : Int32)) = (2 : Int32) := hX91
        rw [hX91]
        refine own_go (b := T89.setTop (mkF m 63 #[iv mr, iv wr, iv pr, iv cr, iv er, iv 1, iv 1, .unset, rv ba89, iv 2, .unset] [(.ref ba89)])) (fun t k => XS.aload X89.here hx rfl (hb hby at_61) rfl rfl k) ?_
        refine own_go (b := T89.setTop (mkF m 65 #[iv mr, iv wr, iv pr, iv cr, iv er, iv 1, iv 1, .unset, rv ba89, iv 2, .unset] [(.int 2), (.ref ba89)])) (fun t k => XS.iload X89.here hx rfl (hb hby at_63) rfl  k) ?_
        refine own_go (b := T89.setTop (mkF m 66 #[iv mr, iv wr, iv pr, iv cr, iv er, iv 1, iv 1, .unset, rv ba89, iv 2, .unset] [(.int cr), (.int 2), (.ref ba89)])) (fun t k => XS.iloadN X89.here hx rfl (hb hby at_65) rfl  k) ?_
        refine own_go (b := T89.setTop (mkF m 69 #[iv mr, iv wr, iv pr, iv cr, iv er, iv 1, iv 1, .unset, rv ba89, iv 2, .unset] [(.int 255), (.int cr), (.int 2), (.ref ba89)])) (fun t k => XS.sipush X89.here hx rfl (hb hby at_66) k) ?_
        refine own_go (b := T89.setTop (mkF m 70 #[iv mr, iv wr, iv pr, iv cr, iv er, iv 1, iv 1, .unset, rv ba89, iv 2, .unset] [(.int (cr &&& (255 : Int32))), (.int 2), (.ref ba89)])) (fun t k => XS.iand X89.here hx rfl (hb hby at_69) rfl k) ?_
        refine own_go (b := T89.setTop (mkF m 71 #[iv mr, iv wr, iv pr, iv cr, iv er, iv 1, iv 1, .unset, rv ba89, iv 2, .unset] [(.int ((cr &&& (255 : Int32)).toUInt32.toUInt16.toUInt32.toInt32)), (.int 2), (.ref ba89)])) (fun t k => XS.i2c X89.here hx rfl (hb hby at_70) rfl k) ?_
        obtain ⟨cl102, Ar102, qc102, Sz102, Ng102, Hs102, Ft102⟩ := id Va89
        have hin102 : ¬ ((2 : Int32) < 0 ∨ cl102.slots.size ≤ ((2 : Int32)).toNatClampNeg) := inb_of Sz102 ⟨by decide, by decide⟩
        obtain ⟨T103, h103, X103, e103, W103, st103⟩ := stC X89 hx hZ rfl Ar102 (j := (2 : Int32)) hin102 (g := (mkF m 71 #[iv mr, iv wr, iv pr, iv cr, iv er, iv 1, iv 1, .unset, rv ba89, iv 2, .unset] [(.int ((cr &&& (255 : Int32)).toUInt32.toUInt16.toUInt32.toInt32)), (.int 2), (.ref ba89)])) rfl rfl (hb hby at_71)
        have V_ba89_103 : Arv Z h103 ba89 kc89 .char (12 : Int32) [(.int (nar .char (115 : Int32))), (.int (nar .char (105 : Int32))), (.int (nar .char ((cr &&& (255 : Int32)).toUInt32.toUInt16.toUInt32.toInt32))), (.int (nar .char (103 : Int32))), (.int (nar .char (108 : Int32))), (.int (nar .char (101 : Int32))), (.int (nar .char (45 : Int32))), (.int (nar .char (101 : Int32))), (.int (nar .char (114 : Int32))), (.int (nar .char (114 : Int32))), (.int (nar .char (111 : Int32))), (.int (nar .char (114 : Int32)))] (.int (0 : Int32)) := Arv.set Ar102 qc102 Sz102 Ng102 Hs102 Ft102 (fits_nar_char _) W103 2 rfl (Nat.le_of_ble_eq_true rfl)
        have Zs103 : n0 ≤ h103.size := Nat.le_trans Zs89 (Keep.of_wr W103).1
        have N103 := Fr.snoc X103 N89 g_ba89
        have Ol103 := Ol89.wr W103 g_ba89
        refine own_go (b := T103.setTop (mkF m 72 #[iv mr, iv wr, iv pr, iv cr, iv er, iv 1, iv 1, .unset, rv ba89, iv 2, .unset] [])) st103 ?_
        obtain ⟨T104, h104, X104, e104, E104, A104, D104, -, st104⟩ := newO X103 hx hZ hown (hw _ (List.mem_of_getElem? (i := 1) rfl)) (hw _ (List.mem_of_getElem? (i := 2) rfl)) (hw _ (List.mem_of_getElem? (i := 3) rfl)) e103 (g := (mkF m 72 #[iv mr, iv wr, iv pr, iv cr, iv er, iv 1, iv 1, .unset, rv ba89, iv 2, .unset] [])) rfl (hb hby at_72) (by decide) (by decide)
        obtain ⟨b104, g104⟩ : ∃ z, z = h103.size := ⟨_, rfl⟩
        rw [← g104] at A104 D104 st104
        have g_b104 : n0 ≤ b104 := Nat.le_trans Zs103 (Nat.le_of_eq g104.symm)
        have Zs104 : n0 ≤ h104.size := Nat.le_trans Zs103 E104.1
        have Ol104 := Ol103.ext E104
        have F_coder_b104 : Fld Z h104 b104 "java/lang/String" "coder" "B" (.int 0) := D104 (Or.inr (hw _ (List.mem_of_getElem? (i := 32) rfl))) (ty := .byte) (by decide)
        have F_value_b104 : Fld Z h104 b104 "java/lang/String" "value" "[B" .null := D104 (Or.inr (hw _ (List.mem_of_getElem? (i := 34) rfl))) (ty := (.array .byte)) (by decide)
        refine own_go (b := T104.setTop (mkF m 75 #[iv mr, iv wr, iv pr, iv cr, iv er, iv 1, iv 1, .unset, rv ba89, iv 2, .unset] [(.ref b104)])) st104 ?_
        refine own_go (b := T104.setTop (mkF m 76 #[iv mr, iv wr, iv pr, iv cr, iv er, iv 1, iv 1, .unset, rv ba89, iv 2, .unset] [(.ref b104), (.ref b104)])) (fun t k => XS.dup X104.here hx rfl (hb hby at_75) rfl rfl k) ?_
        refine own_go (b := T104.setTop (mkF m 78 #[iv mr, iv wr, iv pr, iv cr, iv er, iv 1, iv 1, .unset, rv ba89, iv 2, .unset] [(.ref ba89), (.ref b104), (.ref b104)])) (fun t k => XS.aload X104.here hx rfl (hb hby at_76) rfl rfl k) ?_
        have hp106 : ∀ c ∈ ([(nar .char (115 : Int32)), (nar .char (105 : Int32)), (nar .char ((cr &&& (255 : Int32)).toUInt32.toUInt16.toUInt32.toInt32)), (nar .char (103 : Int32)), (nar .char (108 : Int32)), (nar .char (101 : Int32)), (nar .char (45 : Int32)), (nar .char (101 : Int32)), (nar .char (114 : Int32)), (nar .char (114 : Int32)), (nar .char (111 : Int32)), (nar .char (114 : Int32))] : List Int32), ¬ c < 0 ∧ ¬ (255 : Int32) < c := by
          intro c hc
          simp only [List.mem_cons, List.not_mem_nil, or_false] at hc
          rcases hc with rfl | rfl | rfl | rfl | rfl | rfl | rfl | rfl | rfl | rfl | rfl | rfl
          · exact (by decide +kernel)
          · exact (by decide +kernel)
          · exact own_and255 cr
          · exact (by decide +kernel)
          · exact (by decide +kernel)
          · exact (by decide +kernel)
          · exact (by decide +kernel)
          · exact (by decide +kernel)
          · exact (by decide +kernel)
          · exact (by decide +kernel)
          · exact (by decide +kernel)
          · exact (by decide +kernel)
        obtain ⟨_, _, ⟨T105, L105, k105, n105⟩, -, X105, ⟨Lc105, hQ105, l105, y105, z105⟩, st105⟩ := X104.specialBack hx (y := (⟨"java/lang/String", "<init>", "([C)V"⟩ : MethodName)) rfl hown (mvT hZ (hw _ (List.mem_of_getElem? (i := 9) rfl))) (mvT hZ (hw _ (List.mem_of_getElem? (i := 10) rfl))) (mvT hZ (hw _ (List.mem_of_getElem? (i := 11) rfl))) (by decide) (StrChars.Road.backV (W := 1) hZ hws (kI := 4) (hw _ (List.mem_of_getElem? (i := 2) rfl)) (cs := ([(nar .char (115 : Int32)), (nar .char (105 : Int32)), (nar .char ((cr &&& (255 : Int32)).toUInt32.toUInt16.toUInt32.toInt32)), (nar .char (103 : Int32)), (nar .char (108 : Int32)), (nar .char (101 : Int32)), (nar .char (45 : Int32)), (nar .char (101 : Int32)), (nar .char (114 : Int32)), (nar .char (114 : Int32)), (nar .char (111 : Int32)), (nar .char (114 : Int32))] : List Int32)) (bs := (([(nar .char (115 : Int32)), (nar .char (105 : Int32)), (nar .char ((cr &&& (255 : Int32)).toUInt32.toUInt16.toUInt32.toInt32)), (nar .char (103 : Int32)), (nar .char (108 : Int32)), (nar .char (101 : Int32)), (nar .char (45 : Int32)), (nar .char (101 : Int32)), (nar .char (114 : Int32)), (nar .char (114 : Int32)), (nar .char (111 : Int32)), (nar .char (114 : Int32))] : List Int32)).map (fun c => c.toInt8.toInt32)) (n := 12) g_b104 Zs104 A104 F_value_b104 F_coder_b104 (V_ba89_103.ext E104) (O2.ext Ol104.2) P5 rfl rfl (by decide) (by decide) hp106 rfl (by decide) (by decide)) (g := (mkF m 78 #[iv mr, iv wr, iv pr, iv cr, iv er, iv 1, iv 1, .unset, rv ba89, iv 2, .unset] [(.ref ba89), (.ref b104), (.ref b104)])) rfl (by rw [hml]; rfl) (Steps.refl _) (a := b104) (argsL := [(.ref ba89)]) (rest := [(.ref b104)]) (lenOf pd_13 rfl) rfl (by show 2 * 0 + _ ≤ _; exact Nat.le_of_eq rfl) (hb hby at_78) (fun _ _ => ⟨rfl, e104, (by decide : 2 + 1 ≤ _), (by decide : 16 + 12 ≤ _)⟩)
        dsimp only [Pt.U, Pt.locs, Pt.cells, Pt.slots] at X105 l105 y105 z105 st105 hQ105
        subst l105 y105 z105
        obtain ⟨rfl, N105q, K105, Es105, Cs105, t105, kb105, ua105, ub105, uc105, Vs105, Ks105⟩ := hQ105
        have Zs105 : n0 ≤ T105.heap.size := Nat.le_trans Zs104 K105.1
        have N105 := Fr.app N103 N105q
        have Ol105 := Ol104.keep K105 (allS g_b104 all0)
        obtain ⟨lq105, X105, N105⟩ : ∃ lq, Stand p l e room_1 (s.setVm s.vm) m #[(.int mr), (.int wr), (.int pr), (.int cr), (.int er)] below meth c T105 lq 3 28 ∧ Fr n0 lq := ⟨_, X105, N105⟩
        refine own_tr (b := T105.setTop (mkF m 81 #[iv mr, iv wr, iv pr, iv cr, iv er, iv 1, iv 1, .unset, rv ba89, iv 2, .unset] [(.ref b104)])) st105 ?_
        refine own_go (b := T105.setTop (mkF m 83 #[iv mr, iv wr, iv pr, iv cr, iv er, iv 1, iv 1, rv b104, rv ba89, iv 2, .unset] [])) (fun t k => XS.astore X105.here hx rfl (hb hby at_81) rfl rfl (l' := #[iv mr, iv wr, iv pr, iv cr, iv er, iv 1, iv 1, rv b104, rv ba89, iv 2, .unset]) rfl k) ?_
        refine own_go (b := T105.setTop (mkF m 155 #[iv mr, iv wr, iv pr, iv cr, iv er, iv 1, iv 1, rv b104, rv ba89, iv 2, .unset] [])) (fun t k => XS.goto X105.here hx rfl (pc0 := 83) (pc' := 155) rfl (hb hby at_83) (by decide) (by decide) k) ?_
        exact J155 T105 T105.heap _ s.vm _ (1 : Int32) (1 : Int32) b104 ([(nar .char (115 : Int32)), (nar .char (105 : Int32)), (nar .char ((cr &&& (255 : Int32)).toUInt32.toUInt16.toUInt32.toInt32)), (nar .char (103 : Int32)), (nar .char (108 : Int32)), (nar .char (101 : Int32)), (nar .char (45 : Int32)), (nar .char (101 : Int32)), (nar .char (114 : Int32)), (nar .char (114 : Int32)), (nar .char (111 : Int32)), (nar .char (114 : Int32))] : List Int32) (rv ba89) (iv 2) (own_mono X105 (by decide) (by decide)) rfl N105 Zs105 Ol105 hS0 ((((Le0.keep K89).wr W103).ext E104).keep K105) hZ hown (own_IBm I0 rfl (by simp)) ⟨t105, _, Es105, Vs105, Cs105, Ks105, hp106, (Nat.le_of_ble_eq_true rfl)⟩ (Or.inr ⟨_, rfl, rfl⟩) (Or.inr ⟨_, rfl, rfl⟩)
      | 3, _, hX91 =>
        replace hX91 : ((pr &&& (2147483647 : Int32)) % (12 : Int32)) = (3 : Int32) := hX91
        rw [hX91]
        refine own_go (b := T89.setTop (mkF m 63 #[iv mr, iv wr, iv pr, iv cr, iv er, iv 1, iv 1, .unset, rv ba89, iv 3, .unset] [(.ref ba89)])) (fun t k => XS.aload X89.here hx rfl (hb hby at_61) rfl rfl k) ?_
        refine own_go (b := T89.setTop (mkF m 65 #[iv mr, iv wr, iv pr, iv cr, iv er, iv 1, iv 1, .unset, rv ba89, iv 3, .unset] [(.int 3), (.ref ba89)])) (fun t k => XS.iload X89.here hx rfl (hb hby at_63) rfl  k) ?_
        refine own_go (b := T89.setTop (mkF m 66 #[iv mr, iv wr, iv pr, iv cr, iv er, iv 1, iv 1, .unset, rv ba89, iv 3, .unset] [(.int cr), (.int 3), (.ref ba89)])) (fun t k => XS.iloadN X89.here hx rfl (hb hby at_65) rfl  k) ?_
        refine own_go (b := T89.setTop (mkF m 69 #[iv mr, iv wr, iv pr, iv cr, iv er, iv 1, iv 1, .unset, rv ba89, iv 3, .unset] [(.int 255), (.int cr), (.int 3), (.ref ba89)])) (fun t k => XS.sipush X89.here hx rfl (hb hby at_66) k) ?_
        refine own_go (b := T89.setTop (mkF m 70 #[iv mr, iv wr, iv pr, iv cr, iv er, iv 1, iv 1, .unset, rv ba89, iv 3, .unset] [(.int (cr &&& (255 : Int32))), (.int 3), (.ref ba89)])) (fun t k => XS.iand X89.here hx rfl (hb hby at_69) rfl k) ?_
        refine own_go (b := T89.setTop (mkF m 71 #[iv mr, iv wr, iv pr, iv cr, iv er, iv 1, iv 1, .unset, rv ba89, iv 3, .unset] [(.int ((cr &&& (255 : Int32)).toUInt32.toUInt16.toUInt32.toInt32)), (.int 3), (.ref ba89)])) (fun t k => XS.i2c X89.here hx rfl (hb hby at_70) rfl k) ?_
        obtain ⟨cl107, Ar107, qc107, Sz107, Ng107, Hs107, Ft107⟩ := id Va89
        have hin107 : ¬ ((3 : Int32) < 0 ∨ cl107.slots.size ≤ ((3 : Int32)).toNatClampNeg) := inb_of Sz107 ⟨by decide, by decide⟩
        obtain ⟨T108, h108, X108, e108, W108, st108⟩ := stC X89 hx hZ rfl Ar107 (j := (3 : Int32)) hin107 (g := (mkF m 71 #[iv mr, iv wr, iv pr, iv cr, iv er, iv 1, iv 1, .unset, rv ba89, iv 3, .unset] [(.int ((cr &&& (255 : Int32)).toUInt32.toUInt16.toUInt32.toInt32)), (.int 3), (.ref ba89)])) rfl rfl (hb hby at_71)
        have V_ba89_108 : Arv Z h108 ba89 kc89 .char (12 : Int32) [(.int (nar .char (115 : Int32))), (.int (nar .char (105 : Int32))), (.int (nar .char (110 : Int32))), (.int (nar .char ((cr &&& (255 : Int32)).toUInt32.toUInt16.toUInt32.toInt32))), (.int (nar .char (108 : Int32))), (.int (nar .char (101 : Int32))), (.int (nar .char (45 : Int32))), (.int (nar .char (101 : Int32))), (.int (nar .char (114 : Int32))), (.int (nar .char (114 : Int32))), (.int (nar .char (111 : Int32))), (.int (nar .char (114 : Int32)))] (.int (0 : Int32)) := Arv.set Ar107 qc107 Sz107 Ng107 Hs107 Ft107 (fits_nar_char _) W108 3 rfl (Nat.le_of_ble_eq_true rfl)
        have Zs108 : n0 ≤ h108.size := Nat.le_trans Zs89 (Keep.of_wr W108).1
        have N108 := Fr.snoc X108 N89 g_ba89
        have Ol108 := Ol89.wr W108 g_ba89
        refine own_go (b := T108.setTop (mkF m 72 #[iv mr, iv wr, iv pr, iv cr, iv er, iv 1, iv 1, .unset, rv ba89, iv 3, .unset] [])) st108 ?_
        obtain ⟨T109, h109, X109, e109, E109, A109, D109, -, st109⟩ := newO X108 hx hZ hown (hw _ (List.mem_of_getElem? (i := 1) rfl)) (hw _ (List.mem_of_getElem? (i := 2) rfl)) (hw _ (List.mem_of_getElem? (i := 3) rfl)) e108 (g := (mkF m 72 #[iv mr, iv wr, iv pr, iv cr, iv er, iv 1, iv 1, .unset, rv ba89, iv 3, .unset] [])) rfl (hb hby at_72) (by decide) (by decide)
        obtain ⟨b109, g109⟩ : ∃ z, z = h108.size := ⟨_, rfl⟩
        rw [← g109] at A109 D109 st109
        have g_b109 : n0 ≤ b109 := Nat.le_trans Zs108 (Nat.le_of_eq g109.symm)
        have Zs109 : n0 ≤ h109.size := Nat.le_trans Zs108 E109.1
        have Ol109 := Ol108.ext E109
        have F_coder_b109 : Fld Z h109 b109 "java/lang/String" "coder" "B" (.int 0) := D109 (Or.inr (hw _ (List.mem_of_getElem? (i := 32) rfl))) (ty := .byte) (by decide)
        have F_value_b109 : Fld Z h109 b109 "java/lang/String" "value" "[B" .null := D109 (Or.inr (hw _ (List.mem_of_getElem? (i := 34) rfl))) (ty := (.array .byte)) (by decide)
        refine own_go (b := T109.setTop (mkF m 75 #[iv mr, iv wr, iv pr, iv cr, iv er, iv 1, iv 1, .unset, rv ba89, iv 3, .unset] [(.ref b109)])) st109 ?_
        refine own_go (b := T109.setTop (mkF m 76 #[iv mr, iv wr, iv pr, iv cr, iv er, iv 1, iv 1, .unset, rv ba89, iv 3, .unset] [(.ref b109), (.ref b109)])) (fun t k => XS.dup X109.here hx rfl (hb hby at_75) rfl rfl k) ?_
        refine own_go (b := T109.setTop (mkF m 78 #[iv mr, iv wr, iv pr, iv cr, iv er, iv 1, iv 1, .unset, rv ba89, iv 3, .unset] [(.ref ba89), (.ref b109), (.ref b109)])) (fun t k => XS.aload X109.here hx rfl (hb hby at_76) rfl rfl k) ?_
        have hp111 : ∀ c ∈ ([(nar .char (115 : Int32)), (nar .char (105 : Int32)), (nar .char (110 : Int32)), (nar .char ((cr &&& (255 : Int32)).toUInt32.toUInt16.toUInt32.toInt32)), (nar .char (108 : Int32)), (nar .char (101 : Int32)), (nar .char (45 : Int32)), (nar .char (101 : Int32)), (nar .char (114 : Int32)), (nar .char (114 : Int32)), (nar .char (111 : Int32)), (nar .char (114 : Int32))] : List Int32), ¬ c < 0 ∧ ¬ (255 : Int32) < c := by
          intro c hc
          simp only [List.mem_cons, List.not_mem_nil, or_false] at hc
          rcases hc with rfl | rfl | rfl | rfl | rfl | rfl | rfl | rfl | rfl | rfl | rfl | rfl
          · exact (by decide +kernel)
          · exact (by decide +kernel)
          · exact (by decide +kernel)
          · exact own_and255 cr
          · exact (by decide +kernel)
          · exact (by decide +kernel)
          · exact (by decide +kernel)
          · exact (by decide +kernel)
          · exact (by decide +kernel)
          · exact (by decide +kernel)
          · exact (by decide +kernel)
          · exact (by decide +kernel)
        obtain ⟨_, _, ⟨T110, L110, k110, n110⟩, -, X110, ⟨Lc110, hQ110, l110, y110, z110⟩, st110⟩ := X109.specialBack hx (y := (⟨"java/lang/String", "<init>", "([C)V"⟩ : MethodName)) rfl hown (mvT hZ (hw _ (List.mem_of_getElem? (i := 9) rfl))) (mvT hZ (hw _ (List.mem_of_getElem? (i := 10) rfl))) (mvT hZ (hw _ (List.mem_of_getElem? (i := 11) rfl))) (by decide) (StrChars.Road.backV (W := 1) hZ hws (kI := 4) (hw _ (List.mem_of_getElem? (i := 2) rfl)) (cs := ([(nar .char (115 : Int32)), (nar .char (105 : Int32)), (nar .char (110 : Int32)), (nar .char ((cr &&& (255 : Int32)).toUInt32.toUInt16.toUInt32.toInt32)), (nar .char (108 : Int32)), (nar .char (101 : Int32)), (nar .char (45 : Int32)), (nar .char (101 : Int32)), (nar .char (114 : Int32)), (nar .char (114 : Int32)), (nar .char (111 : Int32)), (nar .char (114 : Int32))] : List Int32)) (bs := (([(nar .char (115 : Int32)), (nar .char (105 : Int32)), (nar .char (110 : Int32)), (nar .char ((cr &&& (255 : Int32)).toUInt32.toUInt16.toUInt32.toInt32)), (nar .char (108 : Int32)), (nar .char (101 : Int32)), (nar .char (45 : Int32)), (nar .char (101 : Int32)), (nar .char (114 : Int32)), (nar .char (114 : Int32)), (nar .char (111 : Int32)), (nar .char (114 : Int32))] : List Int32)).map (fun c => c.toInt8.toInt32)) (n := 12) g_b109 Zs109 A109 F_value_b109 F_coder_b109 (V_ba89_108.ext E109) (O2.ext Ol109.2) P5 rfl rfl (by decide) (by decide) hp111 rfl (by decide) (by decide)) (g := (mkF m 78 #[iv mr, iv wr, iv pr, iv cr, iv er, iv 1, iv 1, .unset, rv ba89, iv 3, .unset] [(.ref ba89), (.ref b109), (.ref b109)])) rfl (by rw [hml]; rfl) (Steps.refl _) (a := b109) (argsL := [(.ref ba89)]) (rest := [(.ref b109)]) (lenOf pd_13 rfl) rfl (by show 2 * 0 + _ ≤ _; exact Nat.le_of_eq rfl) (hb hby at_78) (fun _ _ => ⟨rfl, e109, (by decide : 2 + 1 ≤ _), (by decide : 16 + 12 ≤ _)⟩)
        dsimp only [Pt.U, Pt.locs, Pt.cells, Pt.slots] at X110 l110 y110 z110 st110 hQ110
        subst l110 y110 z110
        obtain ⟨rfl, N110q, K110, Es110, Cs110, t110, kb110, ua110, ub110, uc110, Vs110, Ks110⟩ := hQ110
        have Zs110 : n0 ≤ T110.heap.size := Nat.le_trans Zs109 K110.1
        have N110 := Fr.app N108 N110q
        have Ol110 := Ol109.keep K110 (allS g_b109 all0)
        obtain ⟨lq110, X110, N110⟩ : ∃ lq, Stand p l e room_1 (s.setVm s.vm) m #[(.int mr), (.int wr), (.int pr), (.int cr), (.int er)] below meth c T110 lq 3 28 ∧ Fr n0 lq := ⟨_, X110, N110⟩
        refine own_tr (b := T110.setTop (mkF m 81 #[iv mr, iv wr, iv pr, iv cr, iv er, iv 1, iv 1, .unset, rv ba89, iv 3, .unset] [(.ref b109)])) st110 ?_
        refine own_go (b := T110.setTop (mkF m 83 #[iv mr, iv wr, iv pr, iv cr, iv er, iv 1, iv 1, rv b109, rv ba89, iv 3, .unset] [])) (fun t k => XS.astore X110.here hx rfl (hb hby at_81) rfl rfl (l' := #[iv mr, iv wr, iv pr, iv cr, iv er, iv 1, iv 1, rv b109, rv ba89, iv 3, .unset]) rfl k) ?_
        refine own_go (b := T110.setTop (mkF m 155 #[iv mr, iv wr, iv pr, iv cr, iv er, iv 1, iv 1, rv b109, rv ba89, iv 3, .unset] [])) (fun t k => XS.goto X110.here hx rfl (pc0 := 83) (pc' := 155) rfl (hb hby at_83) (by decide) (by decide) k) ?_
        exact J155 T110 T110.heap _ s.vm _ (1 : Int32) (1 : Int32) b109 ([(nar .char (115 : Int32)), (nar .char (105 : Int32)), (nar .char (110 : Int32)), (nar .char ((cr &&& (255 : Int32)).toUInt32.toUInt16.toUInt32.toInt32)), (nar .char (108 : Int32)), (nar .char (101 : Int32)), (nar .char (45 : Int32)), (nar .char (101 : Int32)), (nar .char (114 : Int32)), (nar .char (114 : Int32)), (nar .char (111 : Int32)), (nar .char (114 : Int32))] : List Int32) (rv ba89) (iv 3) (own_mono X110 (by decide) (by decide)) rfl N110 Zs110 Ol110 hS0 ((((Le0.keep K89).wr W108).ext E109).keep K110) hZ hown (own_IBm I0 rfl (by simp)) ⟨t110, _, Es110, Vs110, Cs110, Ks110, hp111, (Nat.le_of_ble_eq_true rfl)⟩ (Or.inr ⟨_, rfl, rfl⟩) (Or.inr ⟨_, rfl, rfl⟩)
      | 4, _, hX91 =>
        replace hX91 : ((pr &&& (2147483647 : Int32)) % (12 : Int32)) = (4 : Int32) := hX91
        rw [hX91]
        refine own_go (b := T89.setTop (mkF m 63 #[iv mr, iv wr, iv pr, iv cr, iv er, iv 1, iv 1, .unset, rv ba89, iv 4, .unset] [(.ref ba89)])) (fun t k => XS.aload X89.here hx rfl (hb hby at_61) rfl rfl k) ?_
        refine own_go (b := T89.setTop (mkF m 65 #[iv mr, iv wr, iv pr, iv cr, iv er, iv 1, iv 1, .unset, rv ba89, iv 4, .unset] [(.int 4), (.ref ba89)])) (fun t k => XS.iload X89.here hx rfl (hb hby at_63) rfl  k) ?_
        refine own_go (b := T89.setTop (mkF m 66 #[iv mr, iv wr, iv pr, iv cr, iv er, iv 1, iv 1, .unset, rv ba89, iv 4, .unset] [(.int cr), (.int 4), (.ref ba89)])) (fun t k => XS.iloadN X89.here hx rfl (hb hby at_65) rfl  k) ?_
        refine own_go (b := T89.setTop (mkF m 69 #[iv mr, iv wr, iv pr, iv cr, iv er, iv 1, iv 1, .unset, rv ba89, iv 4, .unset] [(.int 255), (.int cr), (.int 4), (.ref ba89)])) (fun t k => XS.sipush X89.here hx rfl (hb hby at_66) k) ?_
        refine own_go (b := T89.setTop (mkF m 70 #[iv mr, iv wr, iv pr, iv cr, iv er, iv 1, iv 1, .unset, rv ba89, iv 4, .unset] [(.int (cr &&& (255 : Int32))), (.int 4), (.ref ba89)])) (fun t k => XS.iand X89.here hx rfl (hb hby at_69) rfl k) ?_
        refine own_go (b := T89.setTop (mkF m 71 #[iv mr, iv wr, iv pr, iv cr, iv er, iv 1, iv 1, .unset, rv ba89, iv 4, .unset] [(.int ((cr &&& (255 : Int32)).toUInt32.toUInt16.toUInt32.toInt32)), (.int 4), (.ref ba89)])) (fun t k => XS.i2c X89.here hx rfl (hb hby at_70) rfl k) ?_
        obtain ⟨cl112, Ar112, qc112, Sz112, Ng112, Hs112, Ft112⟩ := id Va89
        have hin112 : ¬ ((4 : Int32) < 0 ∨ cl112.slots.size ≤ ((4 : Int32)).toNatClampNeg) := inb_of Sz112 ⟨by decide, by decide⟩
        obtain ⟨T113, h113, X113, e113, W113, st113⟩ := stC X89 hx hZ rfl Ar112 (j := (4 : Int32)) hin112 (g := (mkF m 71 #[iv mr, iv wr, iv pr, iv cr, iv er, iv 1, iv 1, .unset, rv ba89, iv 4, .unset] [(.int ((cr &&& (255 : Int32)).toUInt32.toUInt16.toUInt32.toInt32)), (.int 4), (.ref ba89)])) rfl rfl (hb hby at_71)
        have V_ba89_113 : Arv Z h113 ba89 kc89 .char (12 : Int32) [(.int (nar .char (115 : Int32))), (.int (nar .char (105 : Int32))), (.int (nar .char (110 : Int32))), (.int (nar .char (103 : Int32))), (.int (nar .char ((cr &&& (255 : Int32)).toUInt32.toUInt16.toUInt32.toInt32))), (.int (nar .char (101 : Int32))), (.int (nar .char (45 : Int32))), (.int (nar .char (101 : Int32))), (.int (nar .char (114 : Int32))), (.int (nar .char (114 : Int32))), (.int (nar .char (111 : Int32))), (.int (nar .char (114 : Int32)))] (.int (0 : Int32)) := Arv.set Ar112 qc112 Sz112 Ng112 Hs112 Ft112 (fits_nar_char _) W113 4 rfl (Nat.le_of_ble_eq_true rfl)
        have Zs113 : n0 ≤ h113.size := Nat.le_trans Zs89 (Keep.of_wr W113).1
        have N113 := Fr.snoc X113 N89 g_ba89
        have Ol113 := Ol89.wr W113 g_ba89
        refine own_go (b := T113.setTop (mkF m 72 #[iv mr, iv wr, iv pr, iv cr, iv er, iv 1, iv 1, .unset, rv ba89, iv 4, .unset] [])) st113 ?_
        obtain ⟨T114, h114, X114, e114, E114, A114, D114, -, st114⟩ := newO X113 hx hZ hown (hw _ (List.mem_of_getElem? (i := 1) rfl)) (hw _ (List.mem_of_getElem? (i := 2) rfl)) (hw _ (List.mem_of_getElem? (i := 3) rfl)) e113 (g := (mkF m 72 #[iv mr, iv wr, iv pr, iv cr, iv er, iv 1, iv 1, .unset, rv ba89, iv 4, .unset] [])) rfl (hb hby at_72) (by decide) (by decide)
        obtain ⟨b114, g114⟩ : ∃ z, z = h113.size := ⟨_, rfl⟩
        rw [← g114] at A114 D114 st114
        have g_b114 : n0 ≤ b114 := Nat.le_trans Zs113 (Nat.le_of_eq g114.symm)
        have Zs114 : n0 ≤ h114.size := Nat.le_trans Zs113 E114.1
        have Ol114 := Ol113.ext E114
        have F_coder_b114 : Fld Z h114 b114 "java/lang/String" "coder" "B" (.int 0) := D114 (Or.inr (hw _ (List.mem_of_getElem? (i := 32) rfl))) (ty := .byte) (by decide)
        have F_value_b114 : Fld Z h114 b114 "java/lang/String" "value" "[B" .null := D114 (Or.inr (hw _ (List.mem_of_getElem? (i := 34) rfl))) (ty := (.array .byte)) (by decide)
        refine own_go (b := T114.setTop (mkF m 75 #[iv mr, iv wr, iv pr, iv cr, iv er, iv 1, iv 1, .unset, rv ba89, iv 4, .unset] [(.ref b114)])) st114 ?_
        refine own_go (b := T114.setTop (mkF m 76 #[iv mr, iv wr, iv pr, iv cr, iv er, iv 1, iv 1, .unset, rv ba89, iv 4, .unset] [(.ref b114), (.ref b114)])) (fun t k => XS.dup X114.here hx rfl (hb hby at_75) rfl rfl k) ?_
        refine own_go (b := T114.setTop (mkF m 78 #[iv mr, iv wr, iv pr, iv cr, iv er, iv 1, iv 1, .unset, rv ba89, iv 4, .unset] [(.ref ba89), (.ref b114), (.ref b114)])) (fun t k => XS.aload X114.here hx rfl (hb hby at_76) rfl rfl k) ?_
        have hp116 : ∀ c ∈ ([(nar .char (115 : Int32)), (nar .char (105 : Int32)), (nar .char (110 : Int32)), (nar .char (103 : Int32)), (nar .char ((cr &&& (255 : Int32)).toUInt32.toUInt16.toUInt32.toInt32)), (nar .char (101 : Int32)), (nar .char (45 : Int32)), (nar .char (101 : Int32)), (nar .char (114 : Int32)), (nar .char (114 : Int32)), (nar .char (111 : Int32)), (nar .char (114 : Int32))] : List Int32), ¬ c < 0 ∧ ¬ (255 : Int32) < c := by
          intro c hc
          simp only [List.mem_cons, List.not_mem_nil, or_false] at hc
          rcases hc with rfl | rfl | rfl | rfl | rfl | rfl | rfl | rfl | rfl | rfl | rfl | rfl
          · exact (by decide +kernel)
          · exact (by decide +kernel)
          · exact (by decide +kernel)
          · exact (by decide +kernel)
          · exact own_and255 cr
          · exact (by decide +kernel)
          · exact (by decide +kernel)
          · exact (by decide +kernel)
          · exact (by decide +kernel)
          · exact (by decide +kernel)
          · exact (by decide +kernel)
          · exact (by decide +kernel)
        obtain ⟨_, _, ⟨T115, L115, k115, n115⟩, -, X115, ⟨Lc115, hQ115, l115, y115, z115⟩, st115⟩ := X114.specialBack hx (y := (⟨"java/lang/String", "<init>", "([C)V"⟩ : MethodName)) rfl hown (mvT hZ (hw _ (List.mem_of_getElem? (i := 9) rfl))) (mvT hZ (hw _ (List.mem_of_getElem? (i := 10) rfl))) (mvT hZ (hw _ (List.mem_of_getElem? (i := 11) rfl))) (by decide) (StrChars.Road.backV (W := 1) hZ hws (kI := 4) (hw _ (List.mem_of_getElem? (i := 2) rfl)) (cs := ([(nar .char (115 : Int32)), (nar .char (105 : Int32)), (nar .char (110 : Int32)), (nar .char (103 : Int32)), (nar .char ((cr &&& (255 : Int32)).toUInt32.toUInt16.toUInt32.toInt32)), (nar .char (101 : Int32)), (nar .char (45 : Int32)), (nar .char (101 : Int32)), (nar .char (114 : Int32)), (nar .char (114 : Int32)), (nar .char (111 : Int32)), (nar .char (114 : Int32))] : List Int32)) (bs := (([(nar .char (115 : Int32)), (nar .char (105 : Int32)), (nar .char (110 : Int32)), (nar .char (103 : Int32)), (nar .char ((cr &&& (255 : Int32)).toUInt32.toUInt16.toUInt32.toInt32)), (nar .char (101 : Int32)), (nar .char (45 : Int32)), (nar .char (101 : Int32)), (nar .char (114 : Int32)), (nar .char (114 : Int32)), (nar .char (111 : Int32)), (nar .char (114 : Int32))] : List Int32)).map (fun c => c.toInt8.toInt32)) (n := 12) g_b114 Zs114 A114 F_value_b114 F_coder_b114 (V_ba89_113.ext E114) (O2.ext Ol114.2) P5 rfl rfl (by decide) (by decide) hp116 rfl (by decide) (by decide)) (g := (mkF m 78 #[iv mr, iv wr, iv pr, iv cr, iv er, iv 1, iv 1, .unset, rv ba89, iv 4, .unset] [(.ref ba89), (.ref b114), (.ref b114)])) rfl (by rw [hml]; rfl) (Steps.refl _) (a := b114) (argsL := [(.ref ba89)]) (rest := [(.ref b114)]) (lenOf pd_13 rfl) rfl (by show 2 * 0 + _ ≤ _; exact Nat.le_of_eq rfl) (hb hby at_78) (fun _ _ => ⟨rfl, e114, (by decide : 2 + 1 ≤ _), (by decide : 16 + 12 ≤ _)⟩)
        dsimp only [Pt.U, Pt.locs, Pt.cells, Pt.slots] at X115 l115 y115 z115 st115 hQ115
        subst l115 y115 z115
        obtain ⟨rfl, N115q, K115, Es115, Cs115, t115, kb115, ua115, ub115, uc115, Vs115, Ks115⟩ := hQ115
        have Zs115 : n0 ≤ T115.heap.size := Nat.le_trans Zs114 K115.1
        have N115 := Fr.app N113 N115q
        have Ol115 := Ol114.keep K115 (allS g_b114 all0)
        obtain ⟨lq115, X115, N115⟩ : ∃ lq, Stand p l e room_1 (s.setVm s.vm) m #[(.int mr), (.int wr), (.int pr), (.int cr), (.int er)] below meth c T115 lq 3 28 ∧ Fr n0 lq := ⟨_, X115, N115⟩
        refine own_tr (b := T115.setTop (mkF m 81 #[iv mr, iv wr, iv pr, iv cr, iv er, iv 1, iv 1, .unset, rv ba89, iv 4, .unset] [(.ref b114)])) st115 ?_
        refine own_go (b := T115.setTop (mkF m 83 #[iv mr, iv wr, iv pr, iv cr, iv er, iv 1, iv 1, rv b114, rv ba89, iv 4, .unset] [])) (fun t k => XS.astore X115.here hx rfl (hb hby at_81) rfl rfl (l' := #[iv mr, iv wr, iv pr, iv cr, iv er, iv 1, iv 1, rv b114, rv ba89, iv 4, .unset]) rfl k) ?_
        refine own_go (b := T115.setTop (mkF m 155 #[iv mr, iv wr, iv pr, iv cr, iv er, iv 1, iv 1, rv b114, rv ba89, iv 4, .unset] [])) (fun t k => XS.goto X115.here hx rfl (pc0 := 83) (pc' := 155) rfl (hb hby at_83) (by decide) (by decide) k) ?_
        exact J155 T115 T115.heap _ s.vm _ (1 : Int32) (1 : Int32) b114 ([(nar .char (115 : Int32)), (nar .char (105 : Int32)), (nar .char (110 : Int32)), (nar .char (103 : Int32)), (nar .char ((cr &&& (255 : Int32)).toUInt32.toUInt16.toUInt32.toInt32)), (nar .char (101 : Int32)), (nar .char (45 : Int32)), (nar .char (101 : Int32)), (nar .char (114 : Int32)), (nar .char (114 : Int32)), (nar .char (111 : Int32)), (nar .char (114 : Int32))] : List Int32) (rv ba89) (iv 4) (own_mono X115 (by decide) (by decide)) rfl N115 Zs115 Ol115 hS0 ((((Le0.keep K89).wr W113).ext E114).keep K115) hZ hown (own_IBm I0 rfl (by simp)) ⟨t115, _, Es115, Vs115, Cs115, Ks115, hp116, (Nat.le_of_ble_eq_true rfl)⟩ (Or.inr ⟨_, rfl, rfl⟩) (Or.inr ⟨_, rfl, rfl⟩)
      | 5, _, hX91 =>
        replace hX91 : ((pr &&& (2147483647 : Int32)) % (12 : Int32)) = (5 : Int32) := hX91
        rw [hX91]
        refine own_go (b := T89.setTop (mkF m 63 #[iv mr, iv wr, iv pr, iv cr, iv er, iv 1, iv 1, .unset, rv ba89, iv 5, .unset] [(.ref ba89)])) (fun t k => XS.aload X89.here hx rfl (hb hby at_61) rfl rfl k) ?_
        refine own_go (b := T89.setTop (mkF m 65 #[iv mr, iv wr, iv pr, iv cr, iv er, iv 1, iv 1, .unset, rv ba89, iv 5, .unset] [(.int 5), (.ref ba89)])) (fun t k => XS.iload X89.here hx rfl (hb hby at_63) rfl  k) ?_
        refine own_go (b := T89.setTop (mkF m 66 #[iv mr, iv wr, iv pr, iv cr, iv er, iv 1, iv 1, .unset, rv ba89, iv 5, .unset] [(.int cr), (.int 5), (.ref ba89)])) (fun t k => XS.iloadN X89.here hx rfl (hb hby at_65) rfl  k) ?_
        refine own_go (b := T89.setTop (mkF m 69 #[iv mr, iv wr, iv pr, iv cr, iv er, iv 1, iv 1, .unset, rv ba89, iv 5, .unset] [(.int 255), (.int cr), (.int 5), (.ref ba89)])) (fun t k => XS.sipush X89.here hx rfl (hb hby at_66) k) ?_
        refine own_go (b := T89.setTop (mkF m 70 #[iv mr, iv wr, iv pr, iv cr, iv er, iv 1, iv 1, .unset, rv ba89, iv 5, .unset] [(.int (cr &&& (255 : Int32))), (.int 5), (.ref ba89)])) (fun t k => XS.iand X89.here hx rfl (hb hby at_69) rfl k) ?_
        refine own_go (b := T89.setTop (mkF m 71 #[iv mr, iv wr, iv pr, iv cr, iv er, iv 1, iv 1, .unset, rv ba89, iv 5, .unset] [(.int ((cr &&& (255 : Int32)).toUInt32.toUInt16.toUInt32.toInt32)), (.int 5), (.ref ba89)])) (fun t k => XS.i2c X89.here hx rfl (hb hby at_70) rfl k) ?_
        obtain ⟨cl117, Ar117, qc117, Sz117, Ng117, Hs117, Ft117⟩ := id Va89
        have hin117 : ¬ ((5 : Int32) < 0 ∨ cl117.slots.size ≤ ((5 : Int32)).toNatClampNeg) := inb_of Sz117 ⟨by decide, by decide⟩
        obtain ⟨T118, h118, X118, e118, W118, st118⟩ := stC X89 hx hZ rfl Ar117 (j := (5 : Int32)) hin117 (g := (mkF m 71 #[iv mr, iv wr, iv pr, iv cr, iv er, iv 1, iv 1, .unset, rv ba89, iv 5, .unset] [(.int ((cr &&& (255 : Int32)).toUInt32.toUInt16.toUInt32.toInt32)), (.int 5), (.ref ba89)])) rfl rfl (hb hby at_71)
        have V_ba89_118 : Arv Z h118 ba89 kc89 .char (12 : Int32) [(.int (nar .char (115 : Int32))), (.int (nar .char (105 : Int32))), (.int (nar .char (110 : Int32))), (.int (nar .char (103 : Int32))), (.int (nar .char (108 : Int32))), (.int (nar .char ((cr &&& (255 : Int32)).toUInt32.toUInt16.toUInt32.toInt32))), (.int (nar .char (45 : Int32))), (.int (nar .char (101 : Int32))), (.int (nar .char (114 : Int32))), (.int (nar .char (114 : Int32))), (.int (nar .char (111 : Int32))), (.int (nar .char (114 : Int32)))] (.int (0 : Int32)) := Arv.set Ar117 qc117 Sz117 Ng117 Hs117 Ft117 (fits_nar_char _) W118 5 rfl (Nat.le_of_ble_eq_true rfl)
        have Zs118 : n0 ≤ h118.size := Nat.le_trans Zs89 (Keep.of_wr W118).1
        have N118 := Fr.snoc X118 N89 g_ba89
        have Ol118 := Ol89.wr W118 g_ba89
        refine own_go (b := T118.setTop (mkF m 72 #[iv mr, iv wr, iv pr, iv cr, iv er, iv 1, iv 1, .unset, rv ba89, iv 5, .unset] [])) st118 ?_
        obtain ⟨T119, h119, X119, e119, E119, A119, D119, -, st119⟩ := newO X118 hx hZ hown (hw _ (List.mem_of_getElem? (i := 1) rfl)) (hw _ (List.mem_of_getElem? (i := 2) rfl)) (hw _ (List.mem_of_getElem? (i := 3) rfl)) e118 (g := (mkF m 72 #[iv mr, iv wr, iv pr, iv cr, iv er, iv 1, iv 1, .unset, rv ba89, iv 5, .unset] [])) rfl (hb hby at_72) (by decide) (by decide)
        obtain ⟨b119, g119⟩ : ∃ z, z = h118.size := ⟨_, rfl⟩
        rw [← g119] at A119 D119 st119
        have g_b119 : n0 ≤ b119 := Nat.le_trans Zs118 (Nat.le_of_eq g119.symm)
        have Zs119 : n0 ≤ h119.size := Nat.le_trans Zs118 E119.1
        have Ol119 := Ol118.ext E119
        have F_coder_b119 : Fld Z h119 b119 "java/lang/String" "coder" "B" (.int 0) := D119 (Or.inr (hw _ (List.mem_of_getElem? (i := 32) rfl))) (ty := .byte) (by decide)
        have F_value_b119 : Fld Z h119 b119 "java/lang/String" "value" "[B" .null := D119 (Or.inr (hw _ (List.mem_of_getElem? (i := 34) rfl))) (ty := (.array .byte)) (by decide)
        refine own_go (b := T119.setTop (mkF m 75 #[iv mr, iv wr, iv pr, iv cr, iv er, iv 1, iv 1, .unset, rv ba89, iv 5, .unset] [(.ref b119)])) st119 ?_
        refine own_go (b := T119.setTop (mkF m 76 #[iv mr, iv wr, iv pr, iv cr, iv er, iv 1, iv 1, .unset, rv ba89, iv 5, .unset] [(.ref b119), (.ref b119)])) (fun t k => XS.dup X119.here hx rfl (hb hby at_75) rfl rfl k) ?_
        refine own_go (b := T119.setTop (mkF m 78 #[iv mr, iv wr, iv pr, iv cr, iv er, iv 1, iv 1, .unset, rv ba89, iv 5, .unset] [(.ref ba89), (.ref b119), (.ref b119)])) (fun t k => XS.aload X119.here hx rfl (hb hby at_76) rfl rfl k) ?_
        have hp121 : ∀ c ∈ ([(nar .char (115 : Int32)), (nar .char (105 : Int32)), (nar .char (110 : Int32)), (nar .char (103 : Int32)), (nar .char (108 : Int32)), (nar .char ((cr &&& (255 : Int32)).toUInt32.toUInt16.toUInt32.toInt32)), (nar .char (45 : Int32)), (nar .char (101 : Int32)), (nar .char (114 : Int32)), (nar .char (114 : Int32)), (nar .char (111 : Int32)), (nar .char (114 : Int32))] : List Int32), ¬ c < 0 ∧ ¬ (255 : Int32) < c := by
          intro c hc
          simp only [List.mem_cons, List.not_mem_nil, or_false] at hc
          rcases hc with rfl | rfl | rfl | rfl | rfl | rfl | rfl | rfl | rfl | rfl | rfl | rfl
          · exact (by decide +kernel)
          · exact (by decide +kernel)
          · exact (by decide +kernel)
          · exact (by decide +kernel)
          · exact (by decide +kernel)
          · exact own_and255 cr
          · exact (by decide +kernel)
          · exact (by decide +kernel)
          · exact (by decide +kernel)
          · exact (by decide +kernel)
          · exact (by decide +kernel)
          · exact (by decide +kernel)
        obtain ⟨_, _, ⟨T120, L120, k120, n120⟩, -, X120, ⟨Lc120, hQ120, l120, y120, z120⟩, st120⟩ := X119.specialBack hx (y := (⟨"java/lang/String", "<init>", "([C)V"⟩ : MethodName)) rfl hown (mvT hZ (hw _ (List.mem_of_getElem? (i := 9) rfl))) (mvT hZ (hw _ (List.mem_of_getElem? (i := 10) rfl))) (mvT hZ (hw _ (List.mem_of_getElem? (i := 11) rfl))) (by decide) (StrChars.Road.backV (W := 1) hZ hws (kI := 4) (hw _ (List.mem_of_getElem? (i := 2) rfl)) (cs := ([(nar .char (115 : Int32)), (nar .char (105 : Int32)), (nar .char (110 : Int32)), (nar .char (103 : Int32)), (nar .char (108 : Int32)), (nar .char ((cr &&& (255 : Int32)).toUInt32.toUInt16.toUInt32.toInt32)), (nar .char (45 : Int32)), (nar .char (101 : Int32)), (nar .char (114 : Int32)), (nar .char (114 : Int32)), (nar .char (111 : Int32)), (nar .char (114 : Int32))] : List Int32)) (bs := (([(nar .char (115 : Int32)), (nar .char (105 : Int32)), (nar .char (110 : Int32)), (nar .char (103 : Int32)), (nar .char (108 : Int32)), (nar .char ((cr &&& (255 : Int32)).toUInt32.toUInt16.toUInt32.toInt32)), (nar .char (45 : Int32)), (nar .char (101 : Int32)), (nar .char (114 : Int32)), (nar .char (114 : Int32)), (nar .char (111 : Int32)), (nar .char (114 : Int32))] : List Int32)).map (fun c => c.toInt8.toInt32)) (n := 12) g_b119 Zs119 A119 F_value_b119 F_coder_b119 (V_ba89_118.ext E119) (O2.ext Ol119.2) P5 rfl rfl (by decide) (by decide) hp121 rfl (by decide) (by decide)) (g := (mkF m 78 #[iv mr, iv wr, iv pr, iv cr, iv er, iv 1, iv 1, .unset, rv ba89, iv 5, .unset] [(.ref ba89), (.ref b119), (.ref b119)])) rfl (by rw [hml]; rfl) (Steps.refl _) (a := b119) (argsL := [(.ref ba89)]) (rest := [(.ref b119)]) (lenOf pd_13 rfl) rfl (by show 2 * 0 + _ ≤ _; exact Nat.le_of_eq rfl) (hb hby at_78) (fun _ _ => ⟨rfl, e119, (by decide : 2 + 1 ≤ _), (by decide : 16 + 12 ≤ _)⟩)
        dsimp only [Pt.U, Pt.locs, Pt.cells, Pt.slots] at X120 l120 y120 z120 st120 hQ120
        subst l120 y120 z120
        obtain ⟨rfl, N120q, K120, Es120, Cs120, t120, kb120, ua120, ub120, uc120, Vs120, Ks120⟩ := hQ120
        have Zs120 : n0 ≤ T120.heap.size := Nat.le_trans Zs119 K120.1
        have N120 := Fr.app N118 N120q
        have Ol120 := Ol119.keep K120 (allS g_b119 all0)
        obtain ⟨lq120, X120, N120⟩ : ∃ lq, Stand p l e room_1 (s.setVm s.vm) m #[(.int mr), (.int wr), (.int pr), (.int cr), (.int er)] below meth c T120 lq 3 28 ∧ Fr n0 lq := ⟨_, X120, N120⟩
        refine own_tr (b := T120.setTop (mkF m 81 #[iv mr, iv wr, iv pr, iv cr, iv er, iv 1, iv 1, .unset, rv ba89, iv 5, .unset] [(.ref b119)])) st120 ?_
        refine own_go (b := T120.setTop (mkF m 83 #[iv mr, iv wr, iv pr, iv cr, iv er, iv 1, iv 1, rv b119, rv ba89, iv 5, .unset] [])) (fun t k => XS.astore X120.here hx rfl (hb hby at_81) rfl rfl (l' := #[iv mr, iv wr, iv pr, iv cr, iv er, iv 1, iv 1, rv b119, rv ba89, iv 5, .unset]) rfl k) ?_
        refine own_go (b := T120.setTop (mkF m 155 #[iv mr, iv wr, iv pr, iv cr, iv er, iv 1, iv 1, rv b119, rv ba89, iv 5, .unset] [])) (fun t k => XS.goto X120.here hx rfl (pc0 := 83) (pc' := 155) rfl (hb hby at_83) (by decide) (by decide) k) ?_
        exact J155 T120 T120.heap _ s.vm _ (1 : Int32) (1 : Int32) b119 ([(nar .char (115 : Int32)), (nar .char (105 : Int32)), (nar .char (110 : Int32)), (nar .char (103 : Int32)), (nar .char (108 : Int32)), (nar .char ((cr &&& (255 : Int32)).toUInt32.toUInt16.toUInt32.toInt32)), (nar .char (45 : Int32)), (nar .char (101 : Int32)), (nar .char (114 : Int32)), (nar .char (114 : Int32)), (nar .char (111 : Int32)), (nar .char (114 : Int32))] : List Int32) (rv ba89) (iv 5) (own_mono X120 (by decide) (by decide)) rfl N120 Zs120 Ol120 hS0 ((((Le0.keep K89).wr W118).ext E119).keep K120) hZ hown (own_IBm I0 rfl (by simp)) ⟨t120, _, Es120, Vs120, Cs120, Ks120, hp121, (Nat.le_of_ble_eq_true rfl)⟩ (Or.inr ⟨_, rfl, rfl⟩) (Or.inr ⟨_, rfl, rfl⟩)
      | 6, _, hX91 =>
        replace hX91 : ((pr &&& (2147483647 : Int32)) % (12 : Int32)) = (6 : Int32) := hX91
        rw [hX91]
        refine own_go (b := T89.setTop (mkF m 63 #[iv mr, iv wr, iv pr, iv cr, iv er, iv 1, iv 1, .unset, rv ba89, iv 6, .unset] [(.ref ba89)])) (fun t k => XS.aload X89.here hx rfl (hb hby at_61) rfl rfl k) ?_
        refine own_go (b := T89.setTop (mkF m 65 #[iv mr, iv wr, iv pr, iv cr, iv er, iv 1, iv 1, .unset, rv ba89, iv 6, .unset] [(.int 6), (.ref ba89)])) (fun t k => XS.iload X89.here hx rfl (hb hby at_63) rfl  k) ?_
        refine own_go (b := T89.setTop (mkF m 66 #[iv mr, iv wr, iv pr, iv cr, iv er, iv 1, iv 1, .unset, rv ba89, iv 6, .unset] [(.int cr), (.int 6), (.ref ba89)])) (fun t k => XS.iloadN X89.here hx rfl (hb hby at_65) rfl  k) ?_
        refine own_go (b := T89.setTop (mkF m 69 #[iv mr, iv wr, iv pr, iv cr, iv er, iv 1, iv 1, .unset, rv ba89, iv 6, .unset] [(.int 255), (.int cr), (.int 6), (.ref ba89)])) (fun t k => XS.sipush X89.here hx rfl (hb hby at_66) k) ?_
        refine own_go (b := T89.setTop (mkF m 70 #[iv mr, iv wr, iv pr, iv cr, iv er, iv 1, iv 1, .unset, rv ba89, iv 6, .unset] [(.int (cr &&& (255 : Int32))), (.int 6), (.ref ba89)])) (fun t k => XS.iand X89.here hx rfl (hb hby at_69) rfl k) ?_
        refine own_go (b := T89.setTop (mkF m 71 #[iv mr, iv wr, iv pr, iv cr, iv er, iv 1, iv 1, .unset, rv ba89, iv 6, .unset] [(.int ((cr &&& (255 : Int32)).toUInt32.toUInt16.toUInt32.toInt32)), (.int 6), (.ref ba89)])) (fun t k => XS.i2c X89.here hx rfl (hb hby at_70) rfl k) ?_
        obtain ⟨cl122, Ar122, qc122, Sz122, Ng122, Hs122, Ft122⟩ := id Va89
        have hin122 : ¬ ((6 : Int32) < 0 ∨ cl122.slots.size ≤ ((6 : Int32)).toNatClampNeg) := inb_of Sz122 ⟨by decide, by decide⟩
        obtain ⟨T123, h123, X123, e123, W123, st123⟩ := stC X89 hx hZ rfl Ar122 (j := (6 : Int32)) hin122 (g := (mkF m 71 #[iv mr, iv wr, iv pr, iv cr, iv er, iv 1, iv 1, .unset, rv ba89, iv 6, .unset] [(.int ((cr &&& (255 : Int32)).toUInt32.toUInt16.toUInt32.toInt32)), (.int 6), (.ref ba89)])) rfl rfl (hb hby at_71)
        have V_ba89_123 : Arv Z h123 ba89 kc89 .char (12 : Int32) [(.int (nar .char (115 : Int32))), (.int (nar .char (105 : Int32))), (.int (nar .char (110 : Int32))), (.int (nar .char (103 : Int32))), (.int (nar .char (108 : Int32))), (.int (nar .char (101 : Int32))), (.int (nar .char ((cr &&& (255 : Int32)).toUInt32.toUInt16.toUInt32.toInt32))), (.int (nar .char (101 : Int32))), (.int (nar .char (114 : Int32))), (.int (nar .char (114 : Int32))), (.int (nar .char (111 : Int32))), (.int (nar .char (114 : Int32)))] (.int (0 : Int32)) := Arv.set Ar122 qc122 Sz122 Ng122 Hs122 Ft122 (fits_nar_char _) W123 6 rfl (Nat.le_of_ble_eq_true rfl)
        have Zs123 : n0 ≤ h123.size := Nat.le_trans Zs89 (Keep.of_wr W123).1
        have N123 := Fr.snoc X123 N89 g_ba89
        have Ol123 := Ol89.wr W123 g_ba89
        refine own_go (b := T123.setTop (mkF m 72 #[iv mr, iv wr, iv pr, iv cr, iv er, iv 1, iv 1, .unset, rv ba89, iv 6, .unset] [])) st123 ?_
        obtain ⟨T124, h124, X124, e124, E124, A124, D124, -, st124⟩ := newO X123 hx hZ hown (hw _ (List.mem_of_getElem? (i := 1) rfl)) (hw _ (List.mem_of_getElem? (i := 2) rfl)) (hw _ (List.mem_of_getElem? (i := 3) rfl)) e123 (g := (mkF m 72 #[iv mr, iv wr, iv pr, iv cr, iv er, iv 1, iv 1, .unset, rv ba89, iv 6, .unset] [])) rfl (hb hby at_72) (by decide) (by decide)
        obtain ⟨b124, g124⟩ : ∃ z, z = h123.size := ⟨_, rfl⟩
        rw [← g124] at A124 D124 st124
        have g_b124 : n0 ≤ b124 := Nat.le_trans Zs123 (Nat.le_of_eq g124.symm)
        have Zs124 : n0 ≤ h124.size := Nat.le_trans Zs123 E124.1
        have Ol124 := Ol123.ext E124
        have F_coder_b124 : Fld Z h124 b124 "java/lang/String" "coder" "B" (.int 0) := D124 (Or.inr (hw _ (List.mem_of_getElem? (i := 32) rfl))) (ty := .byte) (by decide)
        have F_value_b124 : Fld Z h124 b124 "java/lang/String" "value" "[B" .null := D124 (Or.inr (hw _ (List.mem_of_getElem? (i := 34) rfl))) (ty := (.array .byte)) (by decide)
        refine own_go (b := T124.setTop (mkF m 75 #[iv mr, iv wr, iv pr, iv cr, iv er, iv 1, iv 1, .unset, rv ba89, iv 6, .unset] [(.ref b124)])) st124 ?_
        refine own_go (b := T124.setTop (mkF m 76 #[iv mr, iv wr, iv pr, iv cr, iv er, iv 1, iv 1, .unset, rv ba89, iv 6, .unset] [(.ref b124), (.ref b124)])) (fun t k => XS.dup X124.here hx rfl (hb hby at_75) rfl rfl k) ?_
        refine own_go (b := T124.setTop (mkF m 78 #[iv mr, iv wr, iv pr, iv cr, iv er, iv 1, iv 1, .unset, rv ba89, iv 6, .unset] [(.ref ba89), (.ref b124), (.ref b124)])) (fun t k => XS.aload X124.here hx rfl (hb hby at_76) rfl rfl k) ?_
        have hp126 : ∀ c ∈ ([(nar .char (115 : Int32)), (nar .char (105 : Int32)), (nar .char (110 : Int32)), (nar .char (103 : Int32)), (nar .char (108 : Int32)), (nar .char (101 : Int32)), (nar .char ((cr &&& (255 : Int32)).toUInt32.toUInt16.toUInt32.toInt32)), (nar .char (101 : Int32)), (nar .char (114 : Int32)), (nar .char (114 : Int32)), (nar .char (111 : Int32)), (nar .char (114 : Int32))] : List Int32), ¬ c < 0 ∧ ¬ (255 : Int32) < c := by
          intro c hc
          simp only [List.mem_cons, List.not_mem_nil, or_false] at hc
          rcases hc with rfl | rfl | rfl | rfl | rfl | rfl | rfl | rfl | rfl | rfl | rfl | rfl
          · exact (by decide +kernel)
          · exact (by decide +kernel)
          · exact (by decide +kernel)
          · exact (by decide +kernel)
          · exact (by decide +kernel)
          · exact (by decide +kernel)
          · exact own_and255 cr
          · exact (by decide +kernel)
          · exact (by decide +kernel)
          · exact (by decide +kernel)
          · exact (by decide +kernel)
          · exact (by decide +kernel)
        obtain ⟨_, _, ⟨T125, L125, k125, n125⟩, -, X125, ⟨Lc125, hQ125, l125, y125, z125⟩, st125⟩ := X124.specialBack hx (y := (⟨"java/lang/String", "<init>", "([C)V"⟩ : MethodName)) rfl hown (mvT hZ (hw _ (List.mem_of_getElem? (i := 9) rfl))) (mvT hZ (hw _ (List.mem_of_getElem? (i := 10) rfl))) (mvT hZ (hw _ (List.mem_of_getElem? (i := 11) rfl))) (by decide) (StrChars.Road.backV (W := 1) hZ hws (kI := 4) (hw _ (List.mem_of_getElem? (i := 2) rfl)) (cs := ([(nar .char (115 : Int32)), (nar .char (105 : Int32)), (nar .char (110 : Int32)), (nar .char (103 : Int32)), (nar .char (108 : Int32)), (nar .char (101 : Int32)), (nar .char ((cr &&& (255 : Int32)).toUInt32.toUInt16.toUInt32.toInt32)), (nar .char (101 : Int32)), (nar .char (114 : Int32)), (nar .char (114 : Int32)), (nar .char (111 : Int32)), (nar .char (114 : Int32))] : List Int32)) (bs := (([(nar .char (115 : Int32)), (nar .char (105 : Int32)), (nar .char (110 : Int32)), (nar .char (103 : Int32)), (nar .char (108 : Int32)), (nar .char (101 : Int32)), (nar .char ((cr &&& (255 : Int32)).toUInt32.toUInt16.toUInt32.toInt32)), (nar .char (101 : Int32)), (nar .char (114 : Int32)), (nar .char (114 : Int32)), (nar .char (111 : Int32)), (nar .char (114 : Int32))] : List Int32)).map (fun c => c.toInt8.toInt32)) (n := 12) g_b124 Zs124 A124 F_value_b124 F_coder_b124 (V_ba89_123.ext E124) (O2.ext Ol124.2) P5 rfl rfl (by decide) (by decide) hp126 rfl (by decide) (by decide)) (g := (mkF m 78 #[iv mr, iv wr, iv pr, iv cr, iv er, iv 1, iv 1, .unset, rv ba89, iv 6, .unset] [(.ref ba89), (.ref b124), (.ref b124)])) rfl (by rw [hml]; rfl) (Steps.refl _) (a := b124) (argsL := [(.ref ba89)]) (rest := [(.ref b124)]) (lenOf pd_13 rfl) rfl (by show 2 * 0 + _ ≤ _; exact Nat.le_of_eq rfl) (hb hby at_78) (fun _ _ => ⟨rfl, e124, (by decide : 2 + 1 ≤ _), (by decide : 16 + 12 ≤ _)⟩)
        dsimp only [Pt.U, Pt.locs, Pt.cells, Pt.slots] at X125 l125 y125 z125 st125 hQ125
        subst l125 y125 z125
        obtain ⟨rfl, N125q, K125, Es125, Cs125, t125, kb125, ua125, ub125, uc125, Vs125, Ks125⟩ := hQ125
        have Zs125 : n0 ≤ T125.heap.size := Nat.le_trans Zs124 K125.1
        have N125 := Fr.app N123 N125q
        have Ol125 := Ol124.keep K125 (allS g_b124 all0)
        obtain ⟨lq125, X125, N125⟩ : ∃ lq, Stand p l e room_1 (s.setVm s.vm) m #[(.int mr), (.int wr), (.int pr), (.int cr), (.int er)] below meth c T125 lq 3 28 ∧ Fr n0 lq := ⟨_, X125, N125⟩
        refine own_tr (b := T125.setTop (mkF m 81 #[iv mr, iv wr, iv pr, iv cr, iv er, iv 1, iv 1, .unset, rv ba89, iv 6, .unset] [(.ref b124)])) st125 ?_
        refine own_go (b := T125.setTop (mkF m 83 #[iv mr, iv wr, iv pr, iv cr, iv er, iv 1, iv 1, rv b124, rv ba89, iv 6, .unset] [])) (fun t k => XS.astore X125.here hx rfl (hb hby at_81) rfl rfl (l' := #[iv mr, iv wr, iv pr, iv cr, iv er, iv 1, iv 1, rv b124, rv ba89, iv 6, .unset]) rfl k) ?_
        refine own_go (b := T125.setTop (mkF m 155 #[iv mr, iv wr, iv pr, iv cr, iv er, iv 1, iv 1, rv b124, rv ba89, iv 6, .unset] [])) (fun t k => XS.goto X125.here hx rfl (pc0 := 83) (pc' := 155) rfl (hb hby at_83) (by decide) (by decide) k) ?_
        exact J155 T125 T125.heap _ s.vm _ (1 : Int32) (1 : Int32) b124 ([(nar .char (115 : Int32)), (nar .char (105 : Int32)), (nar .char (110 : Int32)), (nar .char (103 : Int32)), (nar .char (108 : Int32)), (nar .char (101 : Int32)), (nar .char ((cr &&& (255 : Int32)).toUInt32.toUInt16.toUInt32.toInt32)), (nar .char (101 : Int32)), (nar .char (114 : Int32)), (nar .char (114 : Int32)), (nar .char (111 : Int32)), (nar .char (114 : Int32))] : List Int32) (rv ba89) (iv 6) (own_mono X125 (by decide) (by decide)) rfl N125 Zs125 Ol125 hS0 ((((Le0.keep K89).wr W123).ext E124).keep K125) hZ hown (own_IBm I0 rfl (by simp)) ⟨t125, _, Es125, Vs125, Cs125, Ks125, hp126, (Nat.le_of_ble_eq_true rfl)⟩ (Or.inr ⟨_, rfl, rfl⟩) (Or.inr ⟨_, rfl, rfl⟩)
      | 7, _, hX91 =>
        replace hX91 : ((pr &&& (2147483647 : Int32)) % (12 : Int32)) = (7 : Int32) := hX91
        rw [hX91]
        refine own_go (b := T89.setTop (mkF m 63 #[iv mr, iv wr, iv pr, iv cr, iv er, iv 1, iv 1, .unset, rv ba89, iv 7, .unset] [(.ref ba89)])) (fun t k => XS.aload X89.here hx rfl (hb hby at_61) rfl rfl k) ?_
        refine own_go (b := T89.setTop (mkF m 65 #[iv mr, iv wr, iv pr, iv cr, iv er, iv 1, iv 1, .unset, rv ba89, iv 7, .unset] [(.int 7), (.ref ba89)])) (fun t k => XS.iload X89.here hx rfl (hb hby at_63) rfl  k) ?_
        refine own_go (b := T89.setTop (mkF m 66 #[iv mr, iv wr, iv pr, iv cr, iv er, iv 1, iv 1, .unset, rv ba89, iv 7, .unset] [(.int cr), (.int 7), (.ref ba89)])) (fun t k => XS.iloadN X89.here hx rfl (hb hby at_65) rfl  k) ?_
        refine own_go (b := T89.setTop (mkF m 69 #[iv mr, iv wr, iv pr, iv cr, iv er, iv 1, iv 1, .unset, rv ba89, iv 7, .unset] [(.int 255), (.int cr), (.int 7), (.ref ba89)])) (fun t k => XS.sipush X89.here hx rfl (hb hby at_66) k) ?_
        refine own_go (b := T89.setTop (mkF m 70 #[iv mr, iv wr, iv pr, iv cr, iv er, iv 1, iv 1, .unset, rv ba89, iv 7, .unset] [(.int (cr &&& (255 : Int32))), (.int 7), (.ref ba89)])) (fun t k => XS.iand X89.here hx rfl (hb hby at_69) rfl k) ?_
        refine own_go (b := T89.setTop (mkF m 71 #[iv mr, iv wr, iv pr, iv cr, iv er, iv 1, iv 1, .unset, rv ba89, iv 7, .unset] [(.int ((cr &&& (255 : Int32)).toUInt32.toUInt16.toUInt32.toInt32)), (.int 7), (.ref ba89)])) (fun t k => XS.i2c X89.here hx rfl (hb hby at_70) rfl k) ?_
        obtain ⟨cl127, Ar127, qc127, Sz127, Ng127, Hs127, Ft127⟩ := id Va89
        have hin127 : ¬ ((7 : Int32) < 0 ∨ cl127.slots.size ≤ ((7 : Int32)).toNatClampNeg) := inb_of Sz127 ⟨by decide, by decide⟩
        obtain ⟨T128, h128, X128, e128, W128, st128⟩ := stC X89 hx hZ rfl Ar127 (j := (7 : Int32)) hin127 (g := (mkF m 71 #[iv mr, iv wr, iv pr, iv cr, iv er, iv 1, iv 1, .unset, rv ba89, iv 7, .unset] [(.int ((cr &&& (255 : Int32)).toUInt32.toUInt16.toUInt32.toInt32)), (.int 7), (.ref ba89)])) rfl rfl (hb hby at_71)
        have V_ba89_128 : Arv Z h128 ba89 kc89 .char (12 : Int32) [(.int (nar .char (115 : Int32))), (.int (nar .char (105 : Int32))), (.int (nar .char (110 : Int32))), (.int (nar .char (103 : Int32))), (.int (nar .char (108 : Int32))), (.int (nar .char (101 : Int32))), (.int (nar .char (45 : Int32))), (.int (nar .char ((cr &&& (255 : Int32)).toUInt32.toUInt16.toUInt32.toInt32))), (.int (nar .char (114 : Int32))), (.int (nar .char (114 : Int32))), (.int (nar .char (111 : Int32))), (.int (nar .char (114 : Int32)))] (.int (0 : Int32)) := Arv.set Ar127 qc127 Sz127 Ng127 Hs127 Ft127 (fits_nar_char _) W128 7 rfl (Nat.le_of_ble_eq_true rfl)
        have Zs128 : n0 ≤ h128.size := Nat.le_trans Zs89 (Keep.of_wr W128).1
        have N128 := Fr.snoc X128 N89 g_ba89
        have Ol128 := Ol89.wr W128 g_ba89
        refine own_go (b := T128.setTop (mkF m 72 #[iv mr, iv wr, iv pr, iv cr, iv er, iv 1, iv 1, .unset, rv ba89, iv 7, .unset] [])) st128 ?_
        obtain ⟨T129, h129, X129, e129, E129, A129, D129, -, st129⟩ := newO X128 hx hZ hown (hw _ (List.mem_of_getElem? (i := 1) rfl)) (hw _ (List.mem_of_getElem? (i := 2) rfl)) (hw _ (List.mem_of_getElem? (i := 3) rfl)) e128 (g := (mkF m 72 #[iv mr, iv wr, iv pr, iv cr, iv er, iv 1, iv 1, .unset, rv ba89, iv 7, .unset] [])) rfl (hb hby at_72) (by decide) (by decide)
        obtain ⟨b129, g129⟩ : ∃ z, z = h128.size := ⟨_, rfl⟩
        rw [← g129] at A129 D129 st129
        have g_b129 : n0 ≤ b129 := Nat.le_trans Zs128 (Nat.le_of_eq g129.symm)
        have Zs129 : n0 ≤ h129.size := Nat.le_trans Zs128 E129.1
        have Ol129 := Ol128.ext E129
        have F_coder_b129 : Fld Z h129 b129 "java/lang/String" "coder" "B" (.int 0) := D129 (Or.inr (hw _ (List.mem_of_getElem? (i := 32) rfl))) (ty := .byte) (by decide)
        have F_value_b129 : Fld Z h129 b129 "java/lang/String" "value" "[B" .null := D129 (Or.inr (hw _ (List.mem_of_getElem? (i := 34) rfl))) (ty := (.array .byte)) (by decide)
        refine own_go (b := T129.setTop (mkF m 75 #[iv mr, iv wr, iv pr, iv cr, iv er, iv 1, iv 1, .unset, rv ba89, iv 7, .unset] [(.ref b129)])) st129 ?_
        refine own_go (b := T129.setTop (mkF m 76 #[iv mr, iv wr, iv pr, iv cr, iv er, iv 1, iv 1, .unset, rv ba89, iv 7, .unset] [(.ref b129), (.ref b129)])) (fun t k => XS.dup X129.here hx rfl (hb hby at_75) rfl rfl k) ?_
        refine own_go (b := T129.setTop (mkF m 78 #[iv mr, iv wr, iv pr, iv cr, iv er, iv 1, iv 1, .unset, rv ba89, iv 7, .unset] [(.ref ba89), (.ref b129), (.ref b129)])) (fun t k => XS.aload X129.here hx rfl (hb hby at_76) rfl rfl k) ?_
        have hp131 : ∀ c ∈ ([(nar .char (115 : Int32)), (nar .char (105 : Int32)), (nar .char (110 : Int32)), (nar .char (103 : Int32)), (nar .char (108 : Int32)), (nar .char (101 : Int32)), (nar .char (45 : Int32)), (nar .char ((cr &&& (255 : Int32)).toUInt32.toUInt16.toUInt32.toInt32)), (nar .char (114 : Int32)), (nar .char (114 : Int32)), (nar .char (111 : Int32)), (nar .char (114 : Int32))] : List Int32), ¬ c < 0 ∧ ¬ (255 : Int32) < c := by
          intro c hc
          simp only [List.mem_cons, List.not_mem_nil, or_false] at hc
          rcases hc with rfl | rfl | rfl | rfl | rfl | rfl | rfl | rfl | rfl | rfl | rfl | rfl
          · exact (by decide +kernel)
          · exact (by decide +kernel)
          · exact (by decide +kernel)
          · exact (by decide +kernel)
          · exact (by decide +kernel)
          · exact (by decide +kernel)
          · exact (by decide +kernel)
          · exact own_and255 cr
          · exact (by decide +kernel)
          · exact (by decide +kernel)
          · exact (by decide +kernel)
          · exact (by decide +kernel)
        obtain ⟨_, _, ⟨T130, L130, k130, n130⟩, -, X130, ⟨Lc130, hQ130, l130, y130, z130⟩, st130⟩ := X129.specialBack hx (y := (⟨"java/lang/String", "<init>", "([C)V"⟩ : MethodName)) rfl hown (mvT hZ (hw _ (List.mem_of_getElem? (i := 9) rfl))) (mvT hZ (hw _ (List.mem_of_getElem? (i := 10) rfl))) (mvT hZ (hw _ (List.mem_of_getElem? (i := 11) rfl))) (by decide) (StrChars.Road.backV (W := 1) hZ hws (kI := 4) (hw _ (List.mem_of_getElem? (i := 2) rfl)) (cs := ([(nar .char (115 : Int32)), (nar .char (105 : Int32)), (nar .char (110 : Int32)), (nar .char (103 : Int32)), (nar .char (108 : Int32)), (nar .char (101 : Int32)), (nar .char (45 : Int32)), (nar .char ((cr &&& (255 : Int32)).toUInt32.toUInt16.toUInt32.toInt32)), (nar .char (114 : Int32)), (nar .char (114 : Int32)), (nar .char (111 : Int32)), (nar .char (114 : Int32))] : List Int32)) (bs := (([(nar .char (115 : Int32)), (nar .char (105 : Int32)), (nar .char (110 : Int32)), (nar .char (103 : Int32)), (nar .char (108 : Int32)), (nar .char (101 : Int32)), (nar .char (45 : Int32)), (nar .char ((cr &&& (255 : Int32)).toUInt32.toUInt16.toUInt32.toInt32)), (nar .char (114 : Int32)), (nar .char (114 : Int32)), (nar .char (111 : Int32)), (nar .char (114 : Int32))] : List Int32)).map (fun c => c.toInt8.toInt32)) (n := 12) g_b129 Zs129 A129 F_value_b129 F_coder_b129 (V_ba89_128.ext E129) (O2.ext Ol129.2) P5 rfl rfl (by decide) (by decide) hp131 rfl (by decide) (by decide)) (g := (mkF m 78 #[iv mr, iv wr, iv pr, iv cr, iv er, iv 1, iv 1, .unset, rv ba89, iv 7, .unset] [(.ref ba89), (.ref b129), (.ref b129)])) rfl (by rw [hml]; rfl) (Steps.refl _) (a := b129) (argsL := [(.ref ba89)]) (rest := [(.ref b129)]) (lenOf pd_13 rfl) rfl (by show 2 * 0 + _ ≤ _; exact Nat.le_of_eq rfl) (hb hby at_78) (fun _ _ => ⟨rfl, e129, (by decide : 2 + 1 ≤ _), (by decide : 16 + 12 ≤ _)⟩)
        dsimp only [Pt.U, Pt.locs, Pt.cells, Pt.slots] at X130 l130 y130 z130 st130 hQ130
        subst l130 y130 z130
        obtain ⟨rfl, N130q, K130, Es130, Cs130, t130, kb130, ua130, ub130, uc130, Vs130, Ks130⟩ := hQ130
        have Zs130 : n0 ≤ T130.heap.size := Nat.le_trans Zs129 K130.1
        have N130 := Fr.app N128 N130q
        have Ol130 := Ol129.keep K130 (allS g_b129 all0)
        obtain ⟨lq130, X130, N130⟩ : ∃ lq, Stand p l e room_1 (s.setVm s.vm) m #[(.int mr), (.int wr), (.int pr), (.int cr), (.int er)] below meth c T130 lq 3 28 ∧ Fr n0 lq := ⟨_, X130, N130⟩
        refine own_tr (b := T130.setTop (mkF m 81 #[iv mr, iv wr, iv pr, iv cr, iv er, iv 1, iv 1, .unset, rv ba89, iv 7, .unset] [(.ref b129)])) st130 ?_
        refine own_go (b := T130.setTop (mkF m 83 #[iv mr, iv wr, iv pr, iv cr, iv er, iv 1, iv 1, rv b129, rv ba89, iv 7, .unset] [])) (fun t k => XS.astore X130.here hx rfl (hb hby at_81) rfl rfl (l' := #[iv mr, iv wr, iv pr, iv cr, iv er, iv 1, iv 1, rv b129, rv ba89, iv 7, .unset]) rfl k) ?_
        refine own_go (b := T130.setTop (mkF m 155 #[iv mr, iv wr, iv pr, iv cr, iv er, iv 1, iv 1, rv b129, rv ba89, iv 7, .unset] [])) (fun t k => XS.goto X130.here hx rfl (pc0 := 83) (pc' := 155) rfl (hb hby at_83) (by decide) (by decide) k) ?_
        exact J155 T130 T130.heap _ s.vm _ (1 : Int32) (1 : Int32) b129 ([(nar .char (115 : Int32)), (nar .char (105 : Int32)), (nar .char (110 : Int32)), (nar .char (103 : Int32)), (nar .char (108 : Int32)), (nar .char (101 : Int32)), (nar .char (45 : Int32)), (nar .char ((cr &&& (255 : Int32)).toUInt32.toUInt16.toUInt32.toInt32)), (nar .char (114 : Int32)), (nar .char (114 : Int32)), (nar .char (111 : Int32)), (nar .char (114 : Int32))] : List Int32) (rv ba89) (iv 7) (own_mono X130 (by decide) (by decide)) rfl N130 Zs130 Ol130 hS0 ((((Le0.keep K89).wr W128).ext E129).keep K130) hZ hown (own_IBm I0 rfl (by simp)) ⟨t130, _, Es130, Vs130, Cs130, Ks130, hp131, (Nat.le_of_ble_eq_true rfl)⟩ (Or.inr ⟨_, rfl, rfl⟩) (Or.inr ⟨_, rfl, rfl⟩)
      | 8, _, hX91 =>
        replace hX91 : ((pr &&& (2147483647 : Int32)) % (12 : Int32)) = (8 : Int32) := hX91
        rw [hX91]
        refine own_go (b := T89.setTop (mkF m 63 #[iv mr, iv wr, iv pr, iv cr, iv er, iv 1, iv 1, .unset, rv ba89, iv 8, .unset] [(.ref ba89)])) (fun t k => XS.aload X89.here hx rfl (hb hby at_61) rfl rfl k) ?_
        refine own_go (b := T89.setTop (mkF m 65 #[iv mr, iv wr, iv pr, iv cr, iv er, iv 1, iv 1, .unset, rv ba89, iv 8, .unset] [(.int 8), (.ref ba89)])) (fun t k => XS.iload X89.here hx rfl (hb hby at_63) rfl  k) ?_
        refine own_go (b := T89.setTop (mkF m 66 #[iv mr, iv wr, iv pr, iv cr, iv er, iv 1, iv 1, .unset, rv ba89, iv 8, .unset] [(.int cr), (.int 8), (.ref ba89)])) (fun t k => XS.iloadN X89.here hx rfl (hb hby at_65) rfl  k) ?_
        refine own_go (b := T89.setTop (mkF m 69 #[iv mr, iv wr, iv pr, iv cr, iv er, iv 1, iv 1, .unset, rv ba89, iv 8, .unset] [(.int 255), (.int cr), (.int 8), (.ref ba89)])) (fun t k => XS.sipush X89.here hx rfl (hb hby at_66) k) ?_
        refine own_go (b := T89.setTop (mkF m 70 #[iv mr, iv wr, iv pr, iv cr, iv er, iv 1, iv 1, .unset, rv ba89, iv 8, .unset] [(.int (cr &&& (255 : Int32))), (.int 8), (.ref ba89)])) (fun t k => XS.iand X89.here hx rfl (hb hby at_69) rfl k) ?_
        refine own_go (b := T89.setTop (mkF m 71 #[iv mr, iv wr, iv pr, iv cr, iv er, iv 1, iv 1, .unset, rv ba89, iv 8, .unset] [(.int ((cr &&& (255 : Int32)).toUInt32.toUInt16.toUInt32.toInt32)), (.int 8), (.ref ba89)])) (fun t k => XS.i2c X89.here hx rfl (hb hby at_70) rfl k) ?_
        obtain ⟨cl132, Ar132, qc132, Sz132, Ng132, Hs132, Ft132⟩ := id Va89
        have hin132 : ¬ ((8 : Int32) < 0 ∨ cl132.slots.size ≤ ((8 : Int32)).toNatClampNeg) := inb_of Sz132 ⟨by decide, by decide⟩
        obtain ⟨T133, h133, X133, e133, W133, st133⟩ := stC X89 hx hZ rfl Ar132 (j := (8 : Int32)) hin132 (g := (mkF m 71 #[iv mr, iv wr, iv pr, iv cr, iv er, iv 1, iv 1, .unset, rv ba89, iv 8, .unset] [(.int ((cr &&& (255 : Int32)).toUInt32.toUInt16.toUInt32.toInt32)), (.int 8), (.ref ba89)])) rfl rfl (hb hby at_71)
        have V_ba89_133 : Arv Z h133 ba89 kc89 .char (12 : Int32) [(.int (nar .char (115 : Int32))), (.int (nar .char (105 : Int32))), (.int (nar .char (110 : Int32))), (.int (nar .char (103 : Int32))), (.int (nar .char (108 : Int32))), (.int (nar .char (101 : Int32))), (.int (nar .char (45 : Int32))), (.int (nar .char (101 : Int32))), (.int (nar .char ((cr &&& (255 : Int32)).toUInt32.toUInt16.toUInt32.toInt32))), (.int (nar .char (114 : Int32))), (.int (nar .char (111 : Int32))), (.int (nar .char (114 : Int32)))] (.int (0 : Int32)) := Arv.set Ar132 qc132 Sz132 Ng132 Hs132 Ft132 (fits_nar_char _) W133 8 rfl (Nat.le_of_ble_eq_true rfl)
        have Zs133 : n0 ≤ h133.size := Nat.le_trans Zs89 (Keep.of_wr W133).1
        have N133 := Fr.snoc X133 N89 g_ba89
        have Ol133 := Ol89.wr W133 g_ba89
        refine own_go (b := T133.setTop (mkF m 72 #[iv mr, iv wr, iv pr, iv cr, iv er, iv 1, iv 1, .unset, rv ba89, iv 8, .unset] [])) st133 ?_
        obtain ⟨T134, h134, X134, e134, E134, A134, D134, -, st134⟩ := newO X133 hx hZ hown (hw _ (List.mem_of_getElem? (i := 1) rfl)) (hw _ (List.mem_of_getElem? (i := 2) rfl)) (hw _ (List.mem_of_getElem? (i := 3) rfl)) e133 (g := (mkF m 72 #[iv mr, iv wr, iv pr, iv cr, iv er, iv 1, iv 1, .unset, rv ba89, iv 8, .unset] [])) rfl (hb hby at_72) (by decide) (by decide)
        obtain ⟨b134, g134⟩ : ∃ z, z = h133.size := ⟨_, rfl⟩
        rw [← g134] at A134 D134 st134
        have g_b134 : n0 ≤ b134 := Nat.le_trans Zs133 (Nat.le_of_eq g134.symm)
        have Zs134 : n0 ≤ h134.size := Nat.le_trans Zs133 E134.1
        have Ol134 := Ol133.ext E134
        have F_coder_b134 : Fld Z h134 b134 "java/lang/String" "coder" "B" (.int 0) := D134 (Or.inr (hw _ (List.mem_of_getElem? (i := 32) rfl))) (ty := .byte) (by decide)
        have F_value_b134 : Fld Z h134 b134 "java/lang/String" "value" "[B" .null := D134 (Or.inr (hw _ (List.mem_of_getElem? (i := 34) rfl))) (ty := (.array .byte)) (by decide)
        refine own_go (b := T134.setTop (mkF m 75 #[iv mr, iv wr, iv pr, iv cr, iv er, iv 1, iv 1, .unset, rv ba89, iv 8, .unset] [(.ref b134)])) st134 ?_
        refine own_go (b := T134.setTop (mkF m 76 #[iv mr, iv wr, iv pr, iv cr, iv er, iv 1, iv 1, .unset, rv ba89, iv 8, .unset] [(.ref b134), (.ref b134)])) (fun t k => XS.dup X134.here hx rfl (hb hby at_75) rfl rfl k) ?_
        refine own_go (b := T134.setTop (mkF m 78 #[iv mr, iv wr, iv pr, iv cr, iv er, iv 1, iv 1, .unset, rv ba89, iv 8, .unset] [(.ref ba89), (.ref b134), (.ref b134)])) (fun t k => XS.aload X134.here hx rfl (hb hby at_76) rfl rfl k) ?_
        have hp136 : ∀ c ∈ ([(nar .char (115 : Int32)), (nar .char (105 : Int32)), (nar .char (110 : Int32)), (nar .char (103 : Int32)), (nar .char (108 : Int32)), (nar .char (101 : Int32)), (nar .char (45 : Int32)), (nar .char (101 : Int32)), (nar .char ((cr &&& (255 : Int32)).toUInt32.toUInt16.toUInt32.toInt32)), (nar .char (114 : Int32)), (nar .char (111 : Int32)), (nar .char (114 : Int32))] : List Int32), ¬ c < 0 ∧ ¬ (255 : Int32) < c := by
          intro c hc
          simp only [List.mem_cons, List.not_mem_nil, or_false] at hc
          rcases hc with rfl | rfl | rfl | rfl | rfl | rfl | rfl | rfl | rfl | rfl | rfl | rfl
          · exact (by decide +kernel)
          · exact (by decide +kernel)
          · exact (by decide +kernel)
          · exact (by decide +kernel)
          · exact (by decide +kernel)
          · exact (by decide +kernel)
          · exact (by decide +kernel)
          · exact (by decide +kernel)
          · exact own_and255 cr
          · exact (by decide +kernel)
          · exact (by decide +kernel)
          · exact (by decide +kernel)
        obtain ⟨_, _, ⟨T135, L135, k135, n135⟩, -, X135, ⟨Lc135, hQ135, l135, y135, z135⟩, st135⟩ := X134.specialBack hx (y := (⟨"java/lang/String", "<init>", "([C)V"⟩ : MethodName)) rfl hown (mvT hZ (hw _ (List.mem_of_getElem? (i := 9) rfl))) (mvT hZ (hw _ (List.mem_of_getElem? (i := 10) rfl))) (mvT hZ (hw _ (List.mem_of_getElem? (i := 11) rfl))) (by decide) (StrChars.Road.backV (W := 1) hZ hws (kI := 4) (hw _ (List.mem_of_getElem? (i := 2) rfl)) (cs := ([(nar .char (115 : Int32)), (nar .char (105 : Int32)), (nar .char (110 : Int32)), (nar .char (103 : Int32)), (nar .char (108 : Int32)), (nar .char (101 : Int32)), (nar .char (45 : Int32)), (nar .char (101 : Int32)), (nar .char ((cr &&& (255 : Int32)).toUInt32.toUInt16.toUInt32.toInt32)), (nar .char (114 : Int32)), (nar .char (111 : Int32)), (nar .char (114 : Int32))] : List Int32)) (bs := (([(nar .char (115 : Int32)), (nar .char (105 : Int32)), (nar .char (110 : Int32)), (nar .char (103 : Int32)), (nar .char (108 : Int32)), (nar .char (101 : Int32)), (nar .char (45 : Int32)), (nar .char (101 : Int32)), (nar .char ((cr &&& (255 : Int32)).toUInt32.toUInt16.toUInt32.toInt32)), (nar .char (114 : Int32)), (nar .char (111 : Int32)), (nar .char (114 : Int32))] : List Int32)).map (fun c => c.toInt8.toInt32)) (n := 12) g_b134 Zs134 A134 F_value_b134 F_coder_b134 (V_ba89_133.ext E134) (O2.ext Ol134.2) P5 rfl rfl (by decide) (by decide) hp136 rfl (by decide) (by decide)) (g := (mkF m 78 #[iv mr, iv wr, iv pr, iv cr, iv er, iv 1, iv 1, .unset, rv ba89, iv 8, .unset] [(.ref ba89), (.ref b134), (.ref b134)])) rfl (by rw [hml]; rfl) (Steps.refl _) (a := b134) (argsL := [(.ref ba89)]) (rest := [(.ref b134)]) (lenOf pd_13 rfl) rfl (by show 2 * 0 + _ ≤ _; exact Nat.le_of_eq rfl) (hb hby at_78) (fun _ _ => ⟨rfl, e134, (by decide : 2 + 1 ≤ _), (by decide : 16 + 12 ≤ _)⟩)
        dsimp only [Pt.U, Pt.locs, Pt.cells, Pt.slots] at X135 l135 y135 z135 st135 hQ135
        subst l135 y135 z135
        obtain ⟨rfl, N135q, K135, Es135, Cs135, t135, kb135, ua135, ub135, uc135, Vs135, Ks135⟩ := hQ135
        have Zs135 : n0 ≤ T135.heap.size := Nat.le_trans Zs134 K135.1
        have N135 := Fr.app N133 N135q
        have Ol135 := Ol134.keep K135 (allS g_b134 all0)
        obtain ⟨lq135, X135, N135⟩ : ∃ lq, Stand p l e room_1 (s.setVm s.vm) m #[(.int mr), (.int wr), (.int pr), (.int cr), (.int er)] below meth c T135 lq 3 28 ∧ Fr n0 lq := ⟨_, X135, N135⟩
        refine own_tr (b := T135.setTop (mkF m 81 #[iv mr, iv wr, iv pr, iv cr, iv er, iv 1, iv 1, .unset, rv ba89, iv 8, .unset] [(.ref b134)])) st135 ?_
        refine own_go (b := T135.setTop (mkF m 83 #[iv mr, iv wr, iv pr, iv cr, iv er, iv 1, iv 1, rv b134, rv ba89, iv 8, .unset] [])) (fun t k => XS.astore X135.here hx rfl (hb hby at_81) rfl rfl (l' := #[iv mr, iv wr, iv pr, iv cr, iv er, iv 1, iv 1, rv b134, rv ba89, iv 8, .unset]) rfl k) ?_
        refine own_go (b := T135.setTop (mkF m 155 #[iv mr, iv wr, iv pr, iv cr, iv er, iv 1, iv 1, rv b134, rv ba89, iv 8, .unset] [])) (fun t k => XS.goto X135.here hx rfl (pc0 := 83) (pc' := 155) rfl (hb hby at_83) (by decide) (by decide) k) ?_
        exact J155 T135 T135.heap _ s.vm _ (1 : Int32) (1 : Int32) b134 ([(nar .char (115 : Int32)), (nar .char (105 : Int32)), (nar .char (110 : Int32)), (nar .char (103 : Int32)), (nar .char (108 : Int32)), (nar .char (101 : Int32)), (nar .char (45 : Int32)), (nar .char (101 : Int32)), (nar .char ((cr &&& (255 : Int32)).toUInt32.toUInt16.toUInt32.toInt32)), (nar .char (114 : Int32)), (nar .char (111 : Int32)), (nar .char (114 : Int32))] : List Int32) (rv ba89) (iv 8) (own_mono X135 (by decide) (by decide)) rfl N135 Zs135 Ol135 hS0 ((((Le0.keep K89).wr W133).ext E134).keep K135) hZ hown (own_IBm I0 rfl (by simp)) ⟨t135, _, Es135, Vs135, Cs135, Ks135, hp136, (Nat.le_of_ble_eq_true rfl)⟩ (Or.inr ⟨_, rfl, rfl⟩) (Or.inr ⟨_, rfl, rfl⟩)
      | 9, _, hX91 =>
        replace hX91 : ((pr &&& (2147483647 : Int32)) % (12 : Int32)) = (9 : Int32) := hX91
        rw [hX91]
        refine own_go (b := T89.setTop (mkF m 63 #[iv mr, iv wr, iv pr, iv cr, iv er, iv 1, iv 1, .unset, rv ba89, iv 9, .unset] [(.ref ba89)])) (fun t k => XS.aload X89.here hx rfl (hb hby at_61) rfl rfl k) ?_
        refine own_go (b := T89.setTop (mkF m 65 #[iv mr, iv wr, iv pr, iv cr, iv er, iv 1, iv 1, .unset, rv ba89, iv 9, .unset] [(.int 9), (.ref ba89)])) (fun t k => XS.iload X89.here hx rfl (hb hby at_63) rfl  k) ?_
        refine own_go (b := T89.setTop (mkF m 66 #[iv mr, iv wr, iv pr, iv cr, iv er, iv 1, iv 1, .unset, rv ba89, iv 9, .unset] [(.int cr), (.int 9), (.ref ba89)])) (fun t k => XS.iloadN X89.here hx rfl (hb hby at_65) rfl  k) ?_
        refine own_go (b := T89.setTop (mkF m 69 #[iv mr, iv wr, iv pr, iv cr, iv er, iv 1, iv 1, .unset, rv ba89, iv 9, .unset] [(.int 255), (.int cr), (.int 9), (.ref ba89)])) (fun t k => XS.sipush X89.here hx rfl (hb hby at_66) k) ?_
        refine own_go (b := T89.setTop (mkF m 70 #[iv mr, iv wr, iv pr, iv cr, iv er, iv 1, iv 1, .unset, rv ba89, iv 9, .unset] [(.int (cr &&& (255 : Int32))), (.int 9), (.ref ba89)])) (fun t k => XS.iand X89.here hx rfl (hb hby at_69) rfl k) ?_
        refine own_go (b := T89.setTop (mkF m 71 #[iv mr, iv wr, iv pr, iv cr, iv er, iv 1, iv 1, .unset, rv ba89, iv 9, .unset] [(.int ((cr &&& (255 : Int32)).toUInt32.toUInt16.toUInt32.toInt32)), (.int 9), (.ref ba89)])) (fun t k => XS.i2c X89.here hx rfl (hb hby at_70) rfl k) ?_
        obtain ⟨cl137, Ar137, qc137, Sz137, Ng137, Hs137, Ft137⟩ := id Va89
        have hin137 : ¬ ((9 : Int32) < 0 ∨ cl137.slots.size ≤ ((9 : Int32)).toNatClampNeg) := inb_of Sz137 ⟨by decide, by decide⟩
        obtain ⟨T138, h138, X138, e138, W138, st138⟩ := stC X89 hx hZ rfl Ar137 (j := (9 : Int32)) hin137 (g := (mkF m 71 #[iv mr, iv wr, iv pr, iv cr, iv er, iv 1, iv 1, .unset, rv ba89, iv 9, .unset] [(.int ((cr &&& (255 : Int32)).toUInt32.toUInt16.toUInt32.toInt32)), (.int 9), (.ref ba89)])) rfl rfl (hb hby at_71)
        have V_ba89_138 : Arv Z h138 ba89 kc89 .char (12 : Int32) [(.int (nar .char (115 : Int32))), (.int (nar .char (105 : Int32))), (.int (nar .char (110 : Int32))), (.int (nar .char (103 : Int32))), (.int (nar .char (108 : Int32))), (.int (nar .char (101 : Int32))), (.int (nar .char (45 : Int32))), (.int (nar .char (101 : Int32))), (.int (nar .char (114 : Int32))), (.int (nar .char ((cr &&& (255 : Int32)).toUInt32.toUInt16.toUInt32.toInt32))), (.int (nar .char (111 : Int32))), (.int (nar .char (114 : Int32)))] (.int (0 : Int32)) := Arv.set Ar137 qc137 Sz137 Ng137 Hs137 Ft137 (fits_nar_char _) W138 9 rfl (Nat.le_of_ble_eq_true rfl)
        have Zs138 : n0 ≤ h138.size := Nat.le_trans Zs89 (Keep.of_wr W138).1
        have N138 := Fr.snoc X138 N89 g_ba89
        have Ol138 := Ol89.wr W138 g_ba89
        refine own_go (b := T138.setTop (mkF m 72 #[iv mr, iv wr, iv pr, iv cr, iv er, iv 1, iv 1, .unset, rv ba89, iv 9, .unset] [])) st138 ?_
        obtain ⟨T139, h139, X139, e139, E139, A139, D139, -, st139⟩ := newO X138 hx hZ hown (hw _ (List.mem_of_getElem? (i := 1) rfl)) (hw _ (List.mem_of_getElem? (i := 2) rfl)) (hw _ (List.mem_of_getElem? (i := 3) rfl)) e138 (g := (mkF m 72 #[iv mr, iv wr, iv pr, iv cr, iv er, iv 1, iv 1, .unset, rv ba89, iv 9, .unset] [])) rfl (hb hby at_72) (by decide) (by decide)
        obtain ⟨b139, g139⟩ : ∃ z, z = h138.size := ⟨_, rfl⟩
        rw [← g139] at A139 D139 st139
        have g_b139 : n0 ≤ b139 := Nat.le_trans Zs138 (Nat.le_of_eq g139.symm)
        have Zs139 : n0 ≤ h139.size := Nat.le_trans Zs138 E139.1
        have Ol139 := Ol138.ext E139
        have F_coder_b139 : Fld Z h139 b139 "java/lang/String" "coder" "B" (.int 0) := D139 (Or.inr (hw _ (List.mem_of_getElem? (i := 32) rfl))) (ty := .byte) (by decide)
        have F_value_b139 : Fld Z h139 b139 "java/lang/String" "value" "[B" .null := D139 (Or.inr (hw _ (List.mem_of_getElem? (i := 34) rfl))) (ty := (.array .byte)) (by decide)
        refine own_go (b := T139.setTop (mkF m 75 #[iv mr, iv wr, iv pr, iv cr, iv er, iv 1, iv 1, .unset, rv ba89, iv 9, .unset] [(.ref b139)])) st139 ?_
        refine own_go (b := T139.setTop (mkF m 76 #[iv mr, iv wr, iv pr, iv cr, iv er, iv 1, iv 1, .unset, rv ba89, iv 9, .unset] [(.ref b139), (.ref b139)])) (fun t k => XS.dup X139.here hx rfl (hb hby at_75) rfl rfl k) ?_
        refine own_go (b := T139.setTop (mkF m 78 #[iv mr, iv wr, iv pr, iv cr, iv er, iv 1, iv 1, .unset, rv ba89, iv 9, .unset] [(.ref ba89), (.ref b139), (.ref b139)])) (fun t k => XS.aload X139.here hx rfl (hb hby at_76) rfl rfl k) ?_
        have hp141 : ∀ c ∈ ([(nar .char (115 : Int32)), (nar .char (105 : Int32)), (nar .char (110 : Int32)), (nar .char (103 : Int32)), (nar .char (108 : Int32)), (nar .char (101 : Int32)), (nar .char (45 : Int32)), (nar .char (101 : Int32)), (nar .char (114 : Int32)), (nar .char ((cr &&& (255 : Int32)).toUInt32.toUInt16.toUInt32.toInt32)), (nar .char (111 : Int32)), (nar .char (114 : Int32))] : List Int32), ¬ c < 0 ∧ ¬ (255 : Int32) < c := by
          intro c hc
          simp only [List.mem_cons, List.not_mem_nil, or_false] at hc
          rcases hc with rfl | rfl | rfl | rfl | rfl | rfl | rfl | rfl | rfl | rfl | rfl | rfl
          · exact (by decide +kernel)
          · exact (by decide +kernel)
          · exact (by decide +kernel)
          · exact (by decide +kernel)
          · exact (by decide +kernel)
          · exact (by decide +kernel)
          · exact (by decide +kernel)
          · exact (by decide +kernel)
          · exact (by decide +kernel)
          · exact own_and255 cr
          · exact (by decide +kernel)
          · exact (by decide +kernel)
        obtain ⟨_, _, ⟨T140, L140, k140, n140⟩, -, X140, ⟨Lc140, hQ140, l140, y140, z140⟩, st140⟩ := X139.specialBack hx (y := (⟨"java/lang/String", "<init>", "([C)V"⟩ : MethodName)) rfl hown (mvT hZ (hw _ (List.mem_of_getElem? (i := 9) rfl))) (mvT hZ (hw _ (List.mem_of_getElem? (i := 10) rfl))) (mvT hZ (hw _ (List.mem_of_getElem? (i := 11) rfl))) (by decide) (StrChars.Road.backV (W := 1) hZ hws (kI := 4) (hw _ (List.mem_of_getElem? (i := 2) rfl)) (cs := ([(nar .char (115 : Int32)), (nar .char (105 : Int32)), (nar .char (110 : Int32)), (nar .char (103 : Int32)), (nar .char (108 : Int32)), (nar .char (101 : Int32)), (nar .char (45 : Int32)), (nar .char (101 : Int32)), (nar .char (114 : Int32)), (nar .char ((cr &&& (255 : Int32)).toUInt32.toUInt16.toUInt32.toInt32)), (nar .char (111 : Int32)), (nar .char (114 : Int32))] : List Int32)) (bs := (([(nar .char (115 : Int32)), (nar .char (105 : Int32)), (nar .char (110 : Int32)), (nar .char (103 : Int32)), (nar .char (108 : Int32)), (nar .char (101 : Int32)), (nar .char (45 : Int32)), (nar .char (101 : Int32)), (nar .char (114 : Int32)), (nar .char ((cr &&& (255 : Int32)).toUInt32.toUInt16.toUInt32.toInt32)), (nar .char (111 : Int32)), (nar .char (114 : Int32))] : List Int32)).map (fun c => c.toInt8.toInt32)) (n := 12) g_b139 Zs139 A139 F_value_b139 F_coder_b139 (V_ba89_138.ext E139) (O2.ext Ol139.2) P5 rfl rfl (by decide) (by decide) hp141 rfl (by decide) (by decide)) (g := (mkF m 78 #[iv mr, iv wr, iv pr, iv cr, iv er, iv 1, iv 1, .unset, rv ba89, iv 9, .unset] [(.ref ba89), (.ref b139), (.ref b139)])) rfl (by rw [hml]; rfl) (Steps.refl _) (a := b139) (argsL := [(.ref ba89)]) (rest := [(.ref b139)]) (lenOf pd_13 rfl) rfl (by show 2 * 0 + _ ≤ _; exact Nat.le_of_eq rfl) (hb hby at_78) (fun _ _ => ⟨rfl, e139, (by decide : 2 + 1 ≤ _), (by decide : 16 + 12 ≤ _)⟩)
        dsimp only [Pt.U, Pt.locs, Pt.cells, Pt.slots] at X140 l140 y140 z140 st140 hQ140
        subst l140 y140 z140
        obtain ⟨rfl, N140q, K140, Es140, Cs140, t140, kb140, ua140, ub140, uc140, Vs140, Ks140⟩ := hQ140
        have Zs140 : n0 ≤ T140.heap.size := Nat.le_trans Zs139 K140.1
        have N140 := Fr.app N138 N140q
        have Ol140 := Ol139.keep K140 (allS g_b139 all0)
        obtain ⟨lq140, X140, N140⟩ : ∃ lq, Stand p l e room_1 (s.setVm s.vm) m #[(.int mr), (.int wr), (.int pr), (.int cr), (.int er)] below meth c T140 lq 3 28 ∧ Fr n0 lq := ⟨_, X140, N140⟩
        refine own_tr (b := T140.setTop (mkF m 81 #[iv mr, iv wr, iv pr, iv cr, iv er, iv 1, iv 1, .unset, rv ba89, iv 9, .unset] [(.ref b139)])) st140 ?_
        refine own_go (b := T140.setTop (mkF m 83 #[iv mr, iv wr, iv pr, iv cr, iv er, iv 1, iv 1, rv b139, rv ba89, iv 9, .unset] [])) (fun t k => XS.astore X140.here hx rfl (hb hby at_81) rfl rfl (l' := #[iv mr, iv wr, iv pr, iv cr, iv er, iv 1, iv 1, rv b139, rv ba89, iv 9, .unset]) rfl k) ?_
        refine own_go (b := T140.setTop (mkF m 155 #[iv mr, iv wr, iv pr, iv cr, iv er, iv 1, iv 1, rv b139, rv ba89, iv 9, .unset] [])) (fun t k => XS.goto X140.here hx rfl (pc0 := 83) (pc' := 155) rfl (hb hby at_83) (by decide) (by decide) k) ?_
        exact J155 T140 T140.heap _ s.vm _ (1 : Int32) (1 : Int32) b139 ([(nar .char (115 : Int32)), (nar .char (105 : Int32)), (nar .char (110 : Int32)), (nar .char (103 : Int32)), (nar .char (108 : Int32)), (nar .char (101 : Int32)), (nar .char (45 : Int32)), (nar .char (101 : Int32)), (nar .char (114 : Int32)), (nar .char ((cr &&& (255 : Int32)).toUInt32.toUInt16.toUInt32.toInt32)), (nar .char (111 : Int32)), (nar .char (114 : Int32))] : List Int32) (rv ba89) (iv 9) (own_mono X140 (by decide) (by decide)) rfl N140 Zs140 Ol140 hS0 ((((Le0.keep K89).wr W138).ext E139).keep K140) hZ hown (own_IBm I0 rfl (by simp)) ⟨t140, _, Es140, Vs140, Cs140, Ks140, hp141, (Nat.le_of_ble_eq_true rfl)⟩ (Or.inr ⟨_, rfl, rfl⟩) (Or.inr ⟨_, rfl, rfl⟩)
      | 10, _, hX91 =>
        replace hX91 : ((pr &&& (2147483647 : Int32)) % (12 : Int32)) = (10 : Int32) := hX91
        rw [hX91]
        refine own_go (b := T89.setTop (mkF m 63 #[iv mr, iv wr, iv pr, iv cr, iv er, iv 1, iv 1, .unset, rv ba89, iv 10, .unset] [(.ref ba89)])) (fun t k => XS.aload X89.here hx rfl (hb hby at_61) rfl rfl k) ?_
        refine own_go (b := T89.setTop (mkF m 65 #[iv mr, iv wr, iv pr, iv cr, iv er, iv 1, iv 1, .unset, rv ba89, iv 10, .unset] [(.int 10), (.ref ba89)])) (fun t k => XS.iload X89.here hx rfl (hb hby at_63) rfl  k) ?_
        refine own_go (b := T89.setTop (mkF m 66 #[iv mr, iv wr, iv pr, iv cr, iv er, iv 1, iv 1, .unset, rv ba89, iv 10, .unset] [(.int cr), (.int 10), (.ref ba89)])) (fun t k => XS.iloadN X89.here hx rfl (hb hby at_65) rfl  k) ?_
        refine own_go (b := T89.setTop (mkF m 69 #[iv mr, iv wr, iv pr, iv cr, iv er, iv 1, iv 1, .unset, rv ba89, iv 10, .unset] [(.int 255), (.int cr), (.int 10), (.ref ba89)])) (fun t k => XS.sipush X89.here hx rfl (hb hby at_66) k) ?_
        refine own_go (b := T89.setTop (mkF m 70 #[iv mr, iv wr, iv pr, iv cr, iv er, iv 1, iv 1, .unset, rv ba89, iv 10, .unset] [(.int (cr &&& (255 : Int32))), (.int 10), (.ref ba89)])) (fun t k => XS.iand X89.here hx rfl (hb hby at_69) rfl k) ?_
        refine own_go (b := T89.setTop (mkF m 71 #[iv mr, iv wr, iv pr, iv cr, iv er, iv 1, iv 1, .unset, rv ba89, iv 10, .unset] [(.int ((cr &&& (255 : Int32)).toUInt32.toUInt16.toUInt32.toInt32)), (.int 10), (.ref ba89)])) (fun t k => XS.i2c X89.here hx rfl (hb hby at_70) rfl k) ?_
        obtain ⟨cl142, Ar142, qc142, Sz142, Ng142, Hs142, Ft142⟩ := id Va89
        have hin142 : ¬ ((10 : Int32) < 0 ∨ cl142.slots.size ≤ ((10 : Int32)).toNatClampNeg) := inb_of Sz142 ⟨by decide, by decide⟩
        obtain ⟨T143, h143, X143, e143, W143, st143⟩ := stC X89 hx hZ rfl Ar142 (j := (10 : Int32)) hin142 (g := (mkF m 71 #[iv mr, iv wr, iv pr, iv cr, iv er, iv 1, iv 1, .unset, rv ba89, iv 10, .unset] [(.int ((cr &&& (255 : Int32)).toUInt32.toUInt16.toUInt32.toInt32)), (.int 10), (.ref ba89)])) rfl rfl (hb hby at_71)
        have V_ba89_143 : Arv Z h143 ba89 kc89 .char (12 : Int32) [(.int (nar .char (115 : Int32))), (.int (nar .char (105 : Int32))), (.int (nar .char (110 : Int32))), (.int (nar .char (103 : Int32))), (.int (nar .char (108 : Int32))), (.int (nar .char (101 : Int32))), (.int (nar .char (45 : Int32))), (.int (nar .char (101 : Int32))), (.int (nar .char (114 : Int32))), (.int (nar .char (114 : Int32))), (.int (nar .char ((cr &&& (255 : Int32)).toUInt32.toUInt16.toUInt32.toInt32))), (.int (nar .char (114 : Int32)))] (.int (0 : Int32)) := Arv.set Ar142 qc142 Sz142 Ng142 Hs142 Ft142 (fits_nar_char _) W143 10 rfl (Nat.le_of_ble_eq_true rfl)
        have Zs143 : n0 ≤ h143.size := Nat.le_trans Zs89 (Keep.of_wr W143).1
        have N143 := Fr.snoc X143 N89 g_ba89
        have Ol143 := Ol89.wr W143 g_ba89
        refine own_go (b := T143.setTop (mkF m 72 #[iv mr, iv wr, iv pr, iv cr, iv er, iv 1, iv 1, .unset, rv ba89, iv 10, .unset] [])) st143 ?_
        obtain ⟨T144, h144, X144, e144, E144, A144, D144, -, st144⟩ := newO X143 hx hZ hown (hw _ (List.mem_of_getElem? (i := 1) rfl)) (hw _ (List.mem_of_getElem? (i := 2) rfl)) (hw _ (List.mem_of_getElem? (i := 3) rfl)) e143 (g := (mkF m 72 #[iv mr, iv wr, iv pr, iv cr, iv er, iv 1, iv 1, .unset, rv ba89, iv 10, .unset] [])) rfl (hb hby at_72) (by decide) (by decide)
        obtain ⟨b144, g144⟩ : ∃ z, z = h143.size := ⟨_, rfl⟩
        rw [← g144] at A144 D144 st144
        have g_b144 : n0 ≤ b144 := Nat.le_trans Zs143 (Nat.le_of_eq g144.symm)
        have Zs144 : n0 ≤ h144.size := Nat.le_trans Zs143 E144.1
        have Ol144 := Ol143.ext E144
        have F_coder_b144 : Fld Z h144 b144 "java/lang/String" "coder" "B" (.int 0) := D144 (Or.inr (hw _ (List.mem_of_getElem? (i := 32) rfl))) (ty := .byte) (by decide)
        have F_value_b144 : Fld Z h144 b144 "java/lang/String" "value" "[B" .null := D144 (Or.inr (hw _ (List.mem_of_getElem? (i := 34) rfl))) (ty := (.array .byte)) (by decide)
        refine own_go (b := T144.setTop (mkF m 75 #[iv mr, iv wr, iv pr, iv cr, iv er, iv 1, iv 1, .unset, rv ba89, iv 10, .unset] [(.ref b144)])) st144 ?_
        refine own_go (b := T144.setTop (mkF m 76 #[iv mr, iv wr, iv pr, iv cr, iv er, iv 1, iv 1, .unset, rv ba89, iv 10, .unset] [(.ref b144), (.ref b144)])) (fun t k => XS.dup X144.here hx rfl (hb hby at_75) rfl rfl k) ?_
        refine own_go (b := T144.setTop (mkF m 78 #[iv mr, iv wr, iv pr, iv cr, iv er, iv 1, iv 1, .unset, rv ba89, iv 10, .unset] [(.ref ba89), (.ref b144), (.ref b144)])) (fun t k => XS.aload X144.here hx rfl (hb hby at_76) rfl rfl k) ?_
        have hp146 : ∀ c ∈ ([(nar .char (115 : Int32)), (nar .char (105 : Int32)), (nar .char (110 : Int32)), (nar .char (103 : Int32)), (nar .char (108 : Int32)), (nar .char (101 : Int32)), (nar .char (45 : Int32)), (nar .char (101 : Int32)), (nar .char (114 : Int32)), (nar .char (114 : Int32)), (nar .char ((cr &&& (255 : Int32)).toUInt32.toUInt16.toUInt32.toInt32)), (nar .char (114 : Int32))] : List Int32), ¬ c < 0 ∧ ¬ (255 : Int32) < c := by
          intro c hc
          simp only [List.mem_cons, List.not_mem_nil, or_false] at hc
          rcases hc with rfl | rfl | rfl | rfl | rfl | rfl | rfl | rfl | rfl | rfl | rfl | rfl
          · exact (by decide +kernel)
          · exact (by decide +kernel)
          · exact (by decide +kernel)
          · exact (by decide +kernel)
          · exact (by decide +kernel)
          · exact (by decide +kernel)
          · exact (by decide +kernel)
          · exact (by decide +kernel)
          · exact (by decide +kernel)
          · exact (by decide +kernel)
          · exact own_and255 cr
          · exact (by decide +kernel)
        obtain ⟨_, _, ⟨T145, L145, k145, n145⟩, -, X145, ⟨Lc145, hQ145, l145, y145, z145⟩, st145⟩ := X144.specialBack hx (y := (⟨"java/lang/String", "<init>", "([C)V"⟩ : MethodName)) rfl hown (mvT hZ (hw _ (List.mem_of_getElem? (i := 9) rfl))) (mvT hZ (hw _ (List.mem_of_getElem? (i := 10) rfl))) (mvT hZ (hw _ (List.mem_of_getElem? (i := 11) rfl))) (by decide) (StrChars.Road.backV (W := 1) hZ hws (kI := 4) (hw _ (List.mem_of_getElem? (i := 2) rfl)) (cs := ([(nar .char (115 : Int32)), (nar .char (105 : Int32)), (nar .char (110 : Int32)), (nar .char (103 : Int32)), (nar .char (108 : Int32)), (nar .char (101 : Int32)), (nar .char (45 : Int32)), (nar .char (101 : Int32)), (nar .char (114 : Int32)), (nar .char (114 : Int32)), (nar .char ((cr &&& (255 : Int32)).toUInt32.toUInt16.toUInt32.toInt32)), (nar .char (114 : Int32))] : List Int32)) (bs := (([(nar .char (115 : Int32)), (nar .char (105 : Int32)), (nar .char (110 : Int32)), (nar .char (103 : Int32)), (nar .char (108 : Int32)), (nar .char (101 : Int32)), (nar .char (45 : Int32)), (nar .char (101 : Int32)), (nar .char (114 : Int32)), (nar .char (114 : Int32)), (nar .char ((cr &&& (255 : Int32)).toUInt32.toUInt16.toUInt32.toInt32)), (nar .char (114 : Int32))] : List Int32)).map (fun c => c.toInt8.toInt32)) (n := 12) g_b144 Zs144 A144 F_value_b144 F_coder_b144 (V_ba89_143.ext E144) (O2.ext Ol144.2) P5 rfl rfl (by decide) (by decide) hp146 rfl (by decide) (by decide)) (g := (mkF m 78 #[iv mr, iv wr, iv pr, iv cr, iv er, iv 1, iv 1, .unset, rv ba89, iv 10, .unset] [(.ref ba89), (.ref b144), (.ref b144)])) rfl (by rw [hml]; rfl) (Steps.refl _) (a := b144) (argsL := [(.ref ba89)]) (rest := [(.ref b144)]) (lenOf pd_13 rfl) rfl (by show 2 * 0 + _ ≤ _; exact Nat.le_of_eq rfl) (hb hby at_78) (fun _ _ => ⟨rfl, e144, (by decide : 2 + 1 ≤ _), (by decide : 16 + 12 ≤ _)⟩)
        dsimp only [Pt.U, Pt.locs, Pt.cells, Pt.slots] at X145 l145 y145 z145 st145 hQ145
        subst l145 y145 z145
        obtain ⟨rfl, N145q, K145, Es145, Cs145, t145, kb145, ua145, ub145, uc145, Vs145, Ks145⟩ := hQ145
        have Zs145 : n0 ≤ T145.heap.size := Nat.le_trans Zs144 K145.1
        have N145 := Fr.app N143 N145q
        have Ol145 := Ol144.keep K145 (allS g_b144 all0)
        obtain ⟨lq145, X145, N145⟩ : ∃ lq, Stand p l e room_1 (s.setVm s.vm) m #[(.int mr), (.int wr), (.int pr), (.int cr), (.int er)] below meth c T145 lq 3 28 ∧ Fr n0 lq := ⟨_, X145, N145⟩
        refine own_tr (b := T145.setTop (mkF m 81 #[iv mr, iv wr, iv pr, iv cr, iv er, iv 1, iv 1, .unset, rv ba89, iv 10, .unset] [(.ref b144)])) st145 ?_
        refine own_go (b := T145.setTop (mkF m 83 #[iv mr, iv wr, iv pr, iv cr, iv er, iv 1, iv 1, rv b144, rv ba89, iv 10, .unset] [])) (fun t k => XS.astore X145.here hx rfl (hb hby at_81) rfl rfl (l' := #[iv mr, iv wr, iv pr, iv cr, iv er, iv 1, iv 1, rv b144, rv ba89, iv 10, .unset]) rfl k) ?_
        refine own_go (b := T145.setTop (mkF m 155 #[iv mr, iv wr, iv pr, iv cr, iv er, iv 1, iv 1, rv b144, rv ba89, iv 10, .unset] [])) (fun t k => XS.goto X145.here hx rfl (pc0 := 83) (pc' := 155) rfl (hb hby at_83) (by decide) (by decide) k) ?_
        exact J155 T145 T145.heap _ s.vm _ (1 : Int32) (1 : Int32) b144 ([(nar .char (115 : Int32)), (nar .char (105 : Int32)), (nar .char (110 : Int32)), (nar .char (103 : Int32)), (nar .char (108 : Int32)), (nar .char (101 : Int32)), (nar .char (45 : Int32)), (nar .char (101 : Int32)), (nar .char (114 : Int32)), (nar .char (114 : Int32)), (nar .char ((cr &&& (255 : Int32)).toUInt32.toUInt16.toUInt32.toInt32)), (nar .char (114 : Int32))] : List Int32) (rv ba89) (iv 10) (own_mono X145 (by decide) (by decide)) rfl N145 Zs145 Ol145 hS0 ((((Le0.keep K89).wr W143).ext E144).keep K145) hZ hown (own_IBm I0 rfl (by simp)) ⟨t145, _, Es145, Vs145, Cs145, Ks145, hp146, (Nat.le_of_ble_eq_true rfl)⟩ (Or.inr ⟨_, rfl, rfl⟩) (Or.inr ⟨_, rfl, rfl⟩)
      | 11, _, hX91 =>
        replace hX91 : ((pr &&& (2147483647 : Int32)) % (12 : Int32)) = (11 : Int32) := hX91
        rw [hX91]
        refine own_go (b := T89.setTop (mkF m 63 #[iv mr, iv wr, iv pr, iv cr, iv er, iv 1, iv 1, .unset, rv ba89, iv 11, .unset] [(.ref ba89)])) (fun t k => XS.aload X89.here hx rfl (hb hby at_61) rfl rfl k) ?_
        refine own_go (b := T89.setTop (mkF m 65 #[iv mr, iv wr, iv pr, iv cr, iv er, iv 1, iv 1, .unset, rv ba89, iv 11, .unset] [(.int 11), (.ref ba89)])) (fun t k => XS.iload X89.here hx rfl (hb hby at_63) rfl  k) ?_
        refine own_go (b := T89.setTop (mkF m 66 #[iv mr, iv wr, iv pr, iv cr, iv er, iv 1, iv 1, .unset, rv ba89, iv 11, .unset] [(.int cr), (.int 11), (.ref ba89)])) (fun t k => XS.iloadN X89.here hx rfl (hb hby at_65) rfl  k) ?_
        refine own_go (b := T89.setTop (mkF m 69 #[iv mr, iv wr, iv pr, iv cr, iv er, iv 1, iv 1, .unset, rv ba89, iv 11, .unset] [(.int 255), (.int cr), (.int 11), (.ref ba89)])) (fun t k => XS.sipush X89.here hx rfl (hb hby at_66) k) ?_
        refine own_go (b := T89.setTop (mkF m 70 #[iv mr, iv wr, iv pr, iv cr, iv er, iv 1, iv 1, .unset, rv ba89, iv 11, .unset] [(.int (cr &&& (255 : Int32))), (.int 11), (.ref ba89)])) (fun t k => XS.iand X89.here hx rfl (hb hby at_69) rfl k) ?_
        refine own_go (b := T89.setTop (mkF m 71 #[iv mr, iv wr, iv pr, iv cr, iv er, iv 1, iv 1, .unset, rv ba89, iv 11, .unset] [(.int ((cr &&& (255 : Int32)).toUInt32.toUInt16.toUInt32.toInt32)), (.int 11), (.ref ba89)])) (fun t k => XS.i2c X89.here hx rfl (hb hby at_70) rfl k) ?_
        obtain ⟨cl147, Ar147, qc147, Sz147, Ng147, Hs147, Ft147⟩ := id Va89
        have hin147 : ¬ ((11 : Int32) < 0 ∨ cl147.slots.size ≤ ((11 : Int32)).toNatClampNeg) := inb_of Sz147 ⟨by decide, by decide⟩
        obtain ⟨T148, h148, X148, e148, W148, st148⟩ := stC X89 hx hZ rfl Ar147 (j := (11 : Int32)) hin147 (g := (mkF m 71 #[iv mr, iv wr, iv pr, iv cr, iv er, iv 1, iv 1, .unset, rv ba89, iv 11, .unset] [(.int ((cr &&& (255 : Int32)).toUInt32.toUInt16.toUInt32.toInt32)), (.int 11), (.ref ba89)])) rfl rfl (hb hby at_71)
        have V_ba89_148 : Arv Z h148 ba89 kc89 .char (12 : Int32) [(.int (nar .char (115 : Int32))), (.int (nar .char (105 : Int32))), (.int (nar .char (110 : Int32))), (.int (nar .char (103 : Int32))), (.int (nar .char (108 : Int32))), (.int (nar .char (101 : Int32))), (.int (nar .char (45 : Int32))), (.int (nar .char (101 : Int32))), (.int (nar .char (114 : Int32))), (.int (nar .char (114 : Int32))), (.int (nar .char (111 : Int32))), (.int (nar .char ((cr &&& (255 : Int32)).toUInt32.toUInt16.toUInt32.toInt32)))] (.int (0 : Int32)) := Arv.set Ar147 qc147 Sz147 Ng147 Hs147 Ft147 (fits_nar_char _) W148 11 rfl (Nat.le_of_ble_eq_true rfl)
        have Zs148 : n0 ≤ h148.size := Nat.le_trans Zs89 (Keep.of_wr W148).1
        have N148 := Fr.snoc X148 N89 g_ba89
        have Ol148 := Ol89.wr W148 g_ba89
        refine own_go (b := T148.setTop (mkF m 72 #[iv mr, iv wr, iv pr, iv cr, iv er, iv 1, iv 1, .unset, rv ba89, iv 11, .unset] [])) st148 ?_
        obtain ⟨T149, h149, X149, e149, E149, A149, D149, -, st149⟩ := newO X148 hx hZ hown (hw _ (List.mem_of_getElem? (i := 1) rfl)) (hw _ (List.mem_of_getElem? (i := 2) rfl)) (hw _ (List.mem_of_getElem? (i := 3) rfl)) e148 (g := (mkF m 72 #[iv mr, iv wr, iv pr, iv cr, iv er, iv 1, iv 1, .unset, rv ba89, iv 11, .unset] [])) rfl (hb hby at_72) (by decide) (by decide)
        obtain ⟨b149, g149⟩ : ∃ z, z = h148.size := ⟨_, rfl⟩
        rw [← g149] at A149 D149 st149
        have g_b149 : n0 ≤ b149 := Nat.le_trans Zs148 (Nat.le_of_eq g149.symm)
        have Zs149 : n0 ≤ h149.size := Nat.le_trans Zs148 E149.1
        have Ol149 := Ol148.ext E149
        have F_coder_b149 : Fld Z h149 b149 "java/lang/String" "coder" "B" (.int 0) := D149 (Or.inr (hw _ (List.mem_of_getElem? (i := 32) rfl))) (ty := .byte) (by decide)
        have F_value_b149 : Fld Z h149 b149 "java/lang/String" "value" "[B" .null := D149 (Or.inr (hw _ (List.mem_of_getElem? (i := 34) rfl))) (ty := (.array .byte)) (by decide)
        refine own_go (b := T149.setTop (mkF m 75 #[iv mr, iv wr, iv pr, iv cr, iv er, iv 1, iv 1, .unset, rv ba89, iv 11, .unset] [(.ref b149)])) st149 ?_
        refine own_go (b := T149.setTop (mkF m 76 #[iv mr, iv wr, iv pr, iv cr, iv er, iv 1, iv 1, .unset, rv ba89, iv 11, .unset] [(.ref b149), (.ref b149)])) (fun t k => XS.dup X149.here hx rfl (hb hby at_75) rfl rfl k) ?_
        refine own_go (b := T149.setTop (mkF m 78 #[iv mr, iv wr, iv pr, iv cr, iv er, iv 1, iv 1, .unset, rv ba89, iv 11, .unset] [(.ref ba89), (.ref b149), (.ref b149)])) (fun t k => XS.aload X149.here hx rfl (hb hby at_76) rfl rfl k) ?_
        have hp151 : ∀ c ∈ ([(nar .char (115 : Int32)), (nar .char (105 : Int32)), (nar .char (110 : Int32)), (nar .char (103 : Int32)), (nar .char (108 : Int32)), (nar .char (101 : Int32)), (nar .char (45 : Int32)), (nar .char (101 : Int32)), (nar .char (114 : Int32)), (nar .char (114 : Int32)), (nar .char (111 : Int32)), (nar .char ((cr &&& (255 : Int32)).toUInt32.toUInt16.toUInt32.toInt32))] : List Int32), ¬ c < 0 ∧ ¬ (255 : Int32) < c := by
          intro c hc
          simp only [List.mem_cons, List.not_mem_nil, or_false] at hc
          rcases hc with rfl | rfl | rfl | rfl | rfl | rfl | rfl | rfl | rfl | rfl | rfl | rfl
          · exact (by decide +kernel)
          · exact (by decide +kernel)
          · exact (by decide +kernel)
          · exact (by decide +kernel)
          · exact (by decide +kernel)
          · exact (by decide +kernel)
          · exact (by decide +kernel)
          · exact (by decide +kernel)
          · exact (by decide +kernel)
          · exact (by decide +kernel)
          · exact (by decide +kernel)
          · exact own_and255 cr
        obtain ⟨_, _, ⟨T150, L150, k150, n150⟩, -, X150, ⟨Lc150, hQ150, l150, y150, z150⟩, st150⟩ := X149.specialBack hx (y := (⟨"java/lang/String", "<init>", "([C)V"⟩ : MethodName)) rfl hown (mvT hZ (hw _ (List.mem_of_getElem? (i := 9) rfl))) (mvT hZ (hw _ (List.mem_of_getElem? (i := 10) rfl))) (mvT hZ (hw _ (List.mem_of_getElem? (i := 11) rfl))) (by decide) (StrChars.Road.backV (W := 1) hZ hws (kI := 4) (hw _ (List.mem_of_getElem? (i := 2) rfl)) (cs := ([(nar .char (115 : Int32)), (nar .char (105 : Int32)), (nar .char (110 : Int32)), (nar .char (103 : Int32)), (nar .char (108 : Int32)), (nar .char (101 : Int32)), (nar .char (45 : Int32)), (nar .char (101 : Int32)), (nar .char (114 : Int32)), (nar .char (114 : Int32)), (nar .char (111 : Int32)), (nar .char ((cr &&& (255 : Int32)).toUInt32.toUInt16.toUInt32.toInt32))] : List Int32)) (bs := (([(nar .char (115 : Int32)), (nar .char (105 : Int32)), (nar .char (110 : Int32)), (nar .char (103 : Int32)), (nar .char (108 : Int32)), (nar .char (101 : Int32)), (nar .char (45 : Int32)), (nar .char (101 : Int32)), (nar .char (114 : Int32)), (nar .char (114 : Int32)), (nar .char (111 : Int32)), (nar .char ((cr &&& (255 : Int32)).toUInt32.toUInt16.toUInt32.toInt32))] : List Int32)).map (fun c => c.toInt8.toInt32)) (n := 12) g_b149 Zs149 A149 F_value_b149 F_coder_b149 (V_ba89_148.ext E149) (O2.ext Ol149.2) P5 rfl rfl (by decide) (by decide) hp151 rfl (by decide) (by decide)) (g := (mkF m 78 #[iv mr, iv wr, iv pr, iv cr, iv er, iv 1, iv 1, .unset, rv ba89, iv 11, .unset] [(.ref ba89), (.ref b149), (.ref b149)])) rfl (by rw [hml]; rfl) (Steps.refl _) (a := b149) (argsL := [(.ref ba89)]) (rest := [(.ref b149)]) (lenOf pd_13 rfl) rfl (by show 2 * 0 + _ ≤ _; exact Nat.le_of_eq rfl) (hb hby at_78) (fun _ _ => ⟨rfl, e149, (by decide : 2 + 1 ≤ _), (by decide : 16 + 12 ≤ _)⟩)
        dsimp only [Pt.U, Pt.locs, Pt.cells, Pt.slots] at X150 l150 y150 z150 st150 hQ150
        subst l150 y150 z150
        obtain ⟨rfl, N150q, K150, Es150, Cs150, t150, kb150, ua150, ub150, uc150, Vs150, Ks150⟩ := hQ150
        have Zs150 : n0 ≤ T150.heap.size := Nat.le_trans Zs149 K150.1
        have N150 := Fr.app N148 N150q
        have Ol150 := Ol149.keep K150 (allS g_b149 all0)
        obtain ⟨lq150, X150, N150⟩ : ∃ lq, Stand p l e room_1 (s.setVm s.vm) m #[(.int mr), (.int wr), (.int pr), (.int cr), (.int er)] below meth c T150 lq 3 28 ∧ Fr n0 lq := ⟨_, X150, N150⟩
        refine own_tr (b := T150.setTop (mkF m 81 #[iv mr, iv wr, iv pr, iv cr, iv er, iv 1, iv 1, .unset, rv ba89, iv 11, .unset] [(.ref b149)])) st150 ?_
        refine own_go (b := T150.setTop (mkF m 83 #[iv mr, iv wr, iv pr, iv cr, iv er, iv 1, iv 1, rv b149, rv ba89, iv 11, .unset] [])) (fun t k => XS.astore X150.here hx rfl (hb hby at_81) rfl rfl (l' := #[iv mr, iv wr, iv pr, iv cr, iv er, iv 1, iv 1, rv b149, rv ba89, iv 11, .unset]) rfl k) ?_
        refine own_go (b := T150.setTop (mkF m 155 #[iv mr, iv wr, iv pr, iv cr, iv er, iv 1, iv 1, rv b149, rv ba89, iv 11, .unset] [])) (fun t k => XS.goto X150.here hx rfl (pc0 := 83) (pc' := 155) rfl (hb hby at_83) (by decide) (by decide) k) ?_
        exact J155 T150 T150.heap _ s.vm _ (1 : Int32) (1 : Int32) b149 ([(nar .char (115 : Int32)), (nar .char (105 : Int32)), (nar .char (110 : Int32)), (nar .char (103 : Int32)), (nar .char (108 : Int32)), (nar .char (101 : Int32)), (nar .char (45 : Int32)), (nar .char (101 : Int32)), (nar .char (114 : Int32)), (nar .char (114 : Int32)), (nar .char (111 : Int32)), (nar .char ((cr &&& (255 : Int32)).toUInt32.toUInt16.toUInt32.toInt32))] : List Int32) (rv ba89) (iv 11) (own_mono X150 (by decide) (by decide)) rfl N150 Zs150 Ol150 hS0 ((((Le0.keep K89).wr W148).ext E149).keep K150) hZ hown (own_IBm I0 rfl (by simp)) ⟨t150, _, Es150, Vs150, Cs150, Ks150, hp151, (Nat.le_of_ble_eq_true rfl)⟩ (Or.inr ⟨_, rfl, rfl⟩) (Or.inr ⟨_, rfl, rfl⟩)
      | j + 12, h, _ => omega
    | 2, _, hX30 =>
      replace hX30 : ((wr &&& (2147483647 : Int32)) % (3 : Int32)) = (2 : Int32) := hX30
      rw [hX30]
      refine own_go (b := s₁.setTop (mkF m 46 #[iv mr, iv wr, iv pr, iv cr, iv er, iv 1, iv 2, .unset, .unset, .unset, .unset] [(.int 2)])) (fun t k => XS.iload X0.here hx rfl (hb hby at_44) rfl  k) ?_
      obtain ⟨_, _, ⟨T152, L152, k152, n152⟩, -, X152, ⟨Lc152, hQ152, l152, y152, z152⟩, st152⟩ := Jvm.LawKit.callS X0 hx (y := (⟨"com/example/fault/fault/EnvelopeNamedPinLaw", "base", "(I)[C"⟩ : MethodName)) hown (mvT hZ (hw _ (List.mem_of_getElem? (i := 4) rfl))) (mvT hZ (hw _ (List.mem_of_getElem? (i := 5) rfl))) (mvT hZ (hw _ (List.mem_of_getElem? (i := 6) rfl))) (mvT hZ (hw _ (List.mem_of_getElem? (i := 7) rfl))) (by decide) (backOf (W := 0) (rm1_2 l Z a0 hw [] (2 : Int32)  h0 n0 Z0 rfl) hZ (hw _ (List.mem_of_getElem? (i := 7) rfl)) (hw _ (List.mem_of_getElem? (i := 6) rfl)) (by decide) (by decide)) (g := (mkF m 46 #[iv mr, iv wr, iv pr, iv cr, iv er, iv 1, iv 2, .unset, .unset, .unset, .unset] [(.int 2)])) rfl (by rw [hml]; rfl) (argsL := [(.int 2)]) (rest := []) (lenOf pd_12 rfl) rfl (by show 2 * 0 + _ ≤ _; exact Nat.le_of_eq rfl) (hb hby at_46) (fun _ _ => ⟨rfl, e0, (by decide : 0 + 1 ≤ _), (by decide : 0 + 7 ≤ _)⟩)
      dsimp only [Pt.U, Pt.locs, Pt.cells, Pt.slots] at X152 l152 y152 z152 st152 hQ152
      subst l152 y152 z152
      obtain ⟨ba152, kc152, rfl, N152q, K152, g_ba152, sz_ba152, Va152⟩ := hQ152
      have Zs152 : n0 ≤ T152.heap.size := Nat.le_trans Z0 K152.1
      have N152 := Fr.app N0 N152q
      have Ol152 := Od.keep K152 all0
      obtain ⟨lq152, X152, N152⟩ : ∃ lq, Stand p l e room_1 (s.setVm s.vm) m #[(.int mr), (.int wr), (.int pr), (.int cr), (.int er)] below meth c T152 lq 1 7 ∧ Fr n0 lq := ⟨_, X152, N152⟩
      refine own_go (b := T152.setTop (mkF m 49 #[iv mr, iv wr, iv pr, iv cr, iv er, iv 1, iv 2, .unset, .unset, .unset, .unset] [(.ref ba152)])) st152 ?_
      refine own_go (b := T152.setTop (mkF m 51 #[iv mr, iv wr, iv pr, iv cr, iv er, iv 1, iv 2, .unset, rv ba152, .unset, .unset] [])) (fun t k => XS.astore X152.here hx rfl (hb hby at_49) rfl rfl (l' := #[iv mr, iv wr, iv pr, iv cr, iv er, iv 1, iv 2, .unset, rv ba152, .unset, .unset]) rfl k) ?_
      refine own_go (b := T152.setTop (mkF m 52 #[iv mr, iv wr, iv pr, iv cr, iv er, iv 1, iv 2, .unset, rv ba152, .unset, .unset] [(.int pr)])) (fun t k => XS.iloadN X152.here hx rfl (hb hby at_51) rfl  k) ?_
      refine own_go (b := T152.setTop (mkF m 54 #[iv mr, iv wr, iv pr, iv cr, iv er, iv 1, iv 2, .unset, rv ba152, .unset, .unset] [(.int 2147483647), (.int pr)])) (fun t k => X152.ldcInt hx hown (mvT hZ (hw _ (List.mem_of_getElem? (i := 0) rfl))) (g := (mkF m 52 #[iv mr, iv wr, iv pr, iv cr, iv er, iv 1, iv 2, .unset, rv ba152, .unset, .unset] [(.int pr)])) rfl (hb hby at_52) t k) ?_
      refine own_go (b := T152.setTop (mkF m 55 #[iv mr, iv wr, iv pr, iv cr, iv er, iv 1, iv 2, .unset, rv ba152, .unset, .unset] [(.int (pr &&& (2147483647 : Int32)))])) (fun t k => XS.iand X152.here hx rfl (hb hby at_54) rfl k) ?_
      refine own_go (b := T152.setTop (mkF m 57 #[iv mr, iv wr, iv pr, iv cr, iv er, iv 1, iv 2, .unset, rv ba152, .unset, .unset] [(.ref ba152), (.int (pr &&& (2147483647 : Int32)))])) (fun t k => XS.aload X152.here hx rfl (hb hby at_55) rfl rfl k) ?_
      obtain ⟨cl153, Ar153, qc153, Sz153, Ng153, Hs153, Ft153⟩ := id Va152
      refine own_go (b := T152.setTop (mkF m 58 #[iv mr, iv wr, iv pr, iv cr, iv er, iv 1, iv 2, .unset, rv ba152, .unset, .unset] [(.int (cl153.slots.size.toInt32)), (.int (pr &&& (2147483647 : Int32)))])) (fun t k => X152.arraylength hx (own_at rfl Ar153.1) (State.isArrayOf_alike hZ.alike Ar153.2.1) (g := (mkF m 57 #[iv mr, iv wr, iv pr, iv cr, iv er, iv 1, iv 2, .unset, rv ba152, .unset, .unset] [(.ref ba152), (.int (pr &&& (2147483647 : Int32)))])) rfl rfl (hb hby at_57) t k) ?_
      rw [(len_of Sz153 Ng153)]
      refine own_go (b := T152.setTop (mkF m 59 #[iv mr, iv wr, iv pr, iv cr, iv er, iv 1, iv 2, .unset, rv ba152, .unset, .unset] [(.int ((pr &&& (2147483647 : Int32)) % (7 : Int32)))])) (fun t k => iremM X152 hx rfl (hb hby at_58) rfl (by decide) k) ?_
      refine own_go (b := T152.setTop (mkF m 61 #[iv mr, iv wr, iv pr, iv cr, iv er, iv 1, iv 2, .unset, rv ba152, iv ((pr &&& (2147483647 : Int32)) % (7 : Int32)), .unset] [])) (fun t k => XS.istore X152.here hx rfl (hb hby at_59) rfl (l' := #[iv mr, iv wr, iv pr, iv cr, iv er, iv 1, iv 2, .unset, rv ba152, iv ((pr &&& (2147483647 : Int32)) % (7 : Int32)), .unset]) rfl k) ?_
      obtain ⟨js154, hj154, hX154⟩ := own_r7 pr
      match js154, hj154, hX154 with
      | 0, _, hX154 =>
        replace hX154 : ((pr &&& (2147483647 : Int32)) % (7 : Int32)) = (0 : Int32) := hX154
        rw [hX154]
        refine own_go (b := T152.setTop (mkF m 63 #[iv mr, iv wr, iv pr, iv cr, iv er, iv 1, iv 2, .unset, rv ba152, iv 0, .unset] [(.ref ba152)])) (fun t k => XS.aload X152.here hx rfl (hb hby at_61) rfl rfl k) ?_
        refine own_go (b := T152.setTop (mkF m 65 #[iv mr, iv wr, iv pr, iv cr, iv er, iv 1, iv 2, .unset, rv ba152, iv 0, .unset] [(.int 0), (.ref ba152)])) (fun t k => XS.iload X152.here hx rfl (hb hby at_63) rfl  k) ?_
        refine own_go (b := T152.setTop (mkF m 66 #[iv mr, iv wr, iv pr, iv cr, iv er, iv 1, iv 2, .unset, rv ba152, iv 0, .unset] [(.int cr), (.int 0), (.ref ba152)])) (fun t k => XS.iloadN X152.here hx rfl (hb hby at_65) rfl  k) ?_
        refine own_go (b := T152.setTop (mkF m 69 #[iv mr, iv wr, iv pr, iv cr, iv er, iv 1, iv 2, .unset, rv ba152, iv 0, .unset] [(.int 255), (.int cr), (.int 0), (.ref ba152)])) (fun t k => XS.sipush X152.here hx rfl (hb hby at_66) k) ?_
        refine own_go (b := T152.setTop (mkF m 70 #[iv mr, iv wr, iv pr, iv cr, iv er, iv 1, iv 2, .unset, rv ba152, iv 0, .unset] [(.int (cr &&& (255 : Int32))), (.int 0), (.ref ba152)])) (fun t k => XS.iand X152.here hx rfl (hb hby at_69) rfl k) ?_
        refine own_go (b := T152.setTop (mkF m 71 #[iv mr, iv wr, iv pr, iv cr, iv er, iv 1, iv 2, .unset, rv ba152, iv 0, .unset] [(.int ((cr &&& (255 : Int32)).toUInt32.toUInt16.toUInt32.toInt32)), (.int 0), (.ref ba152)])) (fun t k => XS.i2c X152.here hx rfl (hb hby at_70) rfl k) ?_
        obtain ⟨cl155, Ar155, qc155, Sz155, Ng155, Hs155, Ft155⟩ := id Va152
        have hin155 : ¬ ((0 : Int32) < 0 ∨ cl155.slots.size ≤ ((0 : Int32)).toNatClampNeg) := inb_of Sz155 ⟨by decide, by decide⟩
        obtain ⟨T156, h156, X156, e156, W156, st156⟩ := stC X152 hx hZ rfl Ar155 (j := (0 : Int32)) hin155 (g := (mkF m 71 #[iv mr, iv wr, iv pr, iv cr, iv er, iv 1, iv 2, .unset, rv ba152, iv 0, .unset] [(.int ((cr &&& (255 : Int32)).toUInt32.toUInt16.toUInt32.toInt32)), (.int 0), (.ref ba152)])) rfl rfl (hb hby at_71)
        have V_ba152_156 : Arv Z h156 ba152 kc152 .char (7 : Int32) [(.int (nar .char ((cr &&& (255 : Int32)).toUInt32.toUInt16.toUInt32.toInt32))), (.int (nar .char (114 : Int32))), (.int (nar .char (111 : Int32))), (.int (nar .char (98 : Int32))), (.int (nar .char (108 : Int32))), (.int (nar .char (101 : Int32))), (.int (nar .char (109 : Int32)))] (.int (0 : Int32)) := Arv.set Ar155 qc155 Sz155 Ng155 Hs155 Ft155 (fits_nar_char _) W156 0 rfl (Nat.le_of_ble_eq_true rfl)
        have Zs156 : n0 ≤ h156.size := Nat.le_trans Zs152 (Keep.of_wr W156).1
        have N156 := Fr.snoc X156 N152 g_ba152
        have Ol156 := Ol152.wr W156 g_ba152
        refine own_go (b := T156.setTop (mkF m 72 #[iv mr, iv wr, iv pr, iv cr, iv er, iv 1, iv 2, .unset, rv ba152, iv 0, .unset] [])) st156 ?_
        obtain ⟨T157, h157, X157, e157, E157, A157, D157, -, st157⟩ := newO X156 hx hZ hown (hw _ (List.mem_of_getElem? (i := 1) rfl)) (hw _ (List.mem_of_getElem? (i := 2) rfl)) (hw _ (List.mem_of_getElem? (i := 3) rfl)) e156 (g := (mkF m 72 #[iv mr, iv wr, iv pr, iv cr, iv er, iv 1, iv 2, .unset, rv ba152, iv 0, .unset] [])) rfl (hb hby at_72) (by decide) (by decide)
        obtain ⟨b157, g157⟩ : ∃ z, z = h156.size := ⟨_, rfl⟩
        rw [← g157] at A157 D157 st157
        have g_b157 : n0 ≤ b157 := Nat.le_trans Zs156 (Nat.le_of_eq g157.symm)
        have Zs157 : n0 ≤ h157.size := Nat.le_trans Zs156 E157.1
        have Ol157 := Ol156.ext E157
        have F_coder_b157 : Fld Z h157 b157 "java/lang/String" "coder" "B" (.int 0) := D157 (Or.inr (hw _ (List.mem_of_getElem? (i := 32) rfl))) (ty := .byte) (by decide)
        have F_value_b157 : Fld Z h157 b157 "java/lang/String" "value" "[B" .null := D157 (Or.inr (hw _ (List.mem_of_getElem? (i := 34) rfl))) (ty := (.array .byte)) (by decide)
        refine own_go (b := T157.setTop (mkF m 75 #[iv mr, iv wr, iv pr, iv cr, iv er, iv 1, iv 2, .unset, rv ba152, iv 0, .unset] [(.ref b157)])) st157 ?_
        refine own_go (b := T157.setTop (mkF m 76 #[iv mr, iv wr, iv pr, iv cr, iv er, iv 1, iv 2, .unset, rv ba152, iv 0, .unset] [(.ref b157), (.ref b157)])) (fun t k => XS.dup X157.here hx rfl (hb hby at_75) rfl rfl k) ?_
        refine own_go (b := T157.setTop (mkF m 78 #[iv mr, iv wr, iv pr, iv cr, iv er, iv 1, iv 2, .unset, rv ba152, iv 0, .unset] [(.ref ba152), (.ref b157), (.ref b157)])) (fun t k => XS.aload X157.here hx rfl (hb hby at_76) rfl rfl k) ?_
        have hp159 : ∀ c ∈ ([(nar .char ((cr &&& (255 : Int32)).toUInt32.toUInt16.toUInt32.toInt32)), (nar .char (114 : Int32)), (nar .char (111 : Int32)), (nar .char (98 : Int32)), (nar .char (108 : Int32)), (nar .char (101 : Int32)), (nar .char (109 : Int32))] : List Int32), ¬ c < 0 ∧ ¬ (255 : Int32) < c := by
          intro c hc
          simp only [List.mem_cons, List.not_mem_nil, or_false] at hc
          rcases hc with rfl | rfl | rfl | rfl | rfl | rfl | rfl
          · exact own_and255 cr
          · exact (by decide +kernel)
          · exact (by decide +kernel)
          · exact (by decide +kernel)
          · exact (by decide +kernel)
          · exact (by decide +kernel)
          · exact (by decide +kernel)
        obtain ⟨_, _, ⟨T158, L158, k158, n158⟩, -, X158, ⟨Lc158, hQ158, l158, y158, z158⟩, st158⟩ := X157.specialBack hx (y := (⟨"java/lang/String", "<init>", "([C)V"⟩ : MethodName)) rfl hown (mvT hZ (hw _ (List.mem_of_getElem? (i := 9) rfl))) (mvT hZ (hw _ (List.mem_of_getElem? (i := 10) rfl))) (mvT hZ (hw _ (List.mem_of_getElem? (i := 11) rfl))) (by decide) (StrChars.Road.backV (W := 1) hZ hws (kI := 4) (hw _ (List.mem_of_getElem? (i := 2) rfl)) (cs := ([(nar .char ((cr &&& (255 : Int32)).toUInt32.toUInt16.toUInt32.toInt32)), (nar .char (114 : Int32)), (nar .char (111 : Int32)), (nar .char (98 : Int32)), (nar .char (108 : Int32)), (nar .char (101 : Int32)), (nar .char (109 : Int32))] : List Int32)) (bs := (([(nar .char ((cr &&& (255 : Int32)).toUInt32.toUInt16.toUInt32.toInt32)), (nar .char (114 : Int32)), (nar .char (111 : Int32)), (nar .char (98 : Int32)), (nar .char (108 : Int32)), (nar .char (101 : Int32)), (nar .char (109 : Int32))] : List Int32)).map (fun c => c.toInt8.toInt32)) (n := 7) g_b157 Zs157 A157 F_value_b157 F_coder_b157 (V_ba152_156.ext E157) (O2.ext Ol157.2) P5 rfl rfl (by decide) (by decide) hp159 rfl (by decide) (by decide)) (g := (mkF m 78 #[iv mr, iv wr, iv pr, iv cr, iv er, iv 1, iv 2, .unset, rv ba152, iv 0, .unset] [(.ref ba152), (.ref b157), (.ref b157)])) rfl (by rw [hml]; rfl) (Steps.refl _) (a := b157) (argsL := [(.ref ba152)]) (rest := [(.ref b157)]) (lenOf pd_13 rfl) rfl (by show 2 * 0 + _ ≤ _; exact Nat.le_of_eq rfl) (hb hby at_78) (fun _ _ => ⟨rfl, e157, (by decide : 2 + 1 ≤ _), (by decide : 11 + 7 ≤ _)⟩)
        dsimp only [Pt.U, Pt.locs, Pt.cells, Pt.slots] at X158 l158 y158 z158 st158 hQ158
        subst l158 y158 z158
        obtain ⟨rfl, N158q, K158, Es158, Cs158, t158, kb158, ua158, ub158, uc158, Vs158, Ks158⟩ := hQ158
        have Zs158 : n0 ≤ T158.heap.size := Nat.le_trans Zs157 K158.1
        have N158 := Fr.app N156 N158q
        have Ol158 := Ol157.keep K158 (allS g_b157 all0)
        obtain ⟨lq158, X158, N158⟩ : ∃ lq, Stand p l e room_1 (s.setVm s.vm) m #[(.int mr), (.int wr), (.int pr), (.int cr), (.int er)] below meth c T158 lq 3 18 ∧ Fr n0 lq := ⟨_, X158, N158⟩
        refine own_tr (b := T158.setTop (mkF m 81 #[iv mr, iv wr, iv pr, iv cr, iv er, iv 1, iv 2, .unset, rv ba152, iv 0, .unset] [(.ref b157)])) st158 ?_
        refine own_go (b := T158.setTop (mkF m 83 #[iv mr, iv wr, iv pr, iv cr, iv er, iv 1, iv 2, rv b157, rv ba152, iv 0, .unset] [])) (fun t k => XS.astore X158.here hx rfl (hb hby at_81) rfl rfl (l' := #[iv mr, iv wr, iv pr, iv cr, iv er, iv 1, iv 2, rv b157, rv ba152, iv 0, .unset]) rfl k) ?_
        refine own_go (b := T158.setTop (mkF m 155 #[iv mr, iv wr, iv pr, iv cr, iv er, iv 1, iv 2, rv b157, rv ba152, iv 0, .unset] [])) (fun t k => XS.goto X158.here hx rfl (pc0 := 83) (pc' := 155) rfl (hb hby at_83) (by decide) (by decide) k) ?_
        exact J155 T158 T158.heap _ s.vm _ (1 : Int32) (2 : Int32) b157 ([(nar .char ((cr &&& (255 : Int32)).toUInt32.toUInt16.toUInt32.toInt32)), (nar .char (114 : Int32)), (nar .char (111 : Int32)), (nar .char (98 : Int32)), (nar .char (108 : Int32)), (nar .char (101 : Int32)), (nar .char (109 : Int32))] : List Int32) (rv ba152) (iv 0) (own_mono X158 (by decide) (by decide)) rfl N158 Zs158 Ol158 hS0 ((((Le0.keep K152).wr W156).ext E157).keep K158) hZ hown (own_IBm I0 rfl (by simp)) ⟨t158, _, Es158, Vs158, Cs158, Ks158, hp159, (Nat.le_of_ble_eq_true rfl)⟩ (Or.inr ⟨_, rfl, rfl⟩) (Or.inr ⟨_, rfl, rfl⟩)
      | 1, _, hX154 =>
        replace hX154 : ((pr &&& (2147483647 : Int32)) % (7 : Int32)) = (1 : Int32) := hX154
        rw [hX154]
        refine own_go (b := T152.setTop (mkF m 63 #[iv mr, iv wr, iv pr, iv cr, iv er, iv 1, iv 2, .unset, rv ba152, iv 1, .unset] [(.ref ba152)])) (fun t k => XS.aload X152.here hx rfl (hb hby at_61) rfl rfl k) ?_
        refine own_go (b := T152.setTop (mkF m 65 #[iv mr, iv wr, iv pr, iv cr, iv er, iv 1, iv 2, .unset, rv ba152, iv 1, .unset] [(.int 1), (.ref ba152)])) (fun t k => XS.iload X152.here hx rfl (hb hby at_63) rfl  k) ?_
        refine own_go (b := T152.setTop (mkF m 66 #[iv mr, iv wr, iv pr, iv cr, iv er, iv 1, iv 2, .unset, rv ba152, iv 1, .unset] [(.int cr), (.int 1), (.ref ba152)])) (fun t k => XS.iloadN X152.here hx rfl (hb hby at_65) rfl  k) ?_
        refine own_go (b := T152.setTop (mkF m 69 #[iv mr, iv wr, iv pr, iv cr, iv er, iv 1, iv 2, .unset, rv ba152, iv 1, .unset] [(.int 255), (.int cr), (.int 1), (.ref ba152)])) (fun t k => XS.sipush X152.here hx rfl (hb hby at_66) k) ?_
        refine own_go (b := T152.setTop (mkF m 70 #[iv mr, iv wr, iv pr, iv cr, iv er, iv 1, iv 2, .unset, rv ba152, iv 1, .unset] [(.int (cr &&& (255 : Int32))), (.int 1), (.ref ba152)])) (fun t k => XS.iand X152.here hx rfl (hb hby at_69) rfl k) ?_
        refine own_go (b := T152.setTop (mkF m 71 #[iv mr, iv wr, iv pr, iv cr, iv er, iv 1, iv 2, .unset, rv ba152, iv 1, .unset] [(.int ((cr &&& (255 : Int32)).toUInt32.toUInt16.toUInt32.toInt32)), (.int 1), (.ref ba152)])) (fun t k => XS.i2c X152.here hx rfl (hb hby at_70) rfl k) ?_
        obtain ⟨cl160, Ar160, qc160, Sz160, Ng160, Hs160, Ft160⟩ := id Va152
        have hin160 : ¬ ((1 : Int32) < 0 ∨ cl160.slots.size ≤ ((1 : Int32)).toNatClampNeg) := inb_of Sz160 ⟨by decide, by decide⟩
        obtain ⟨T161, h161, X161, e161, W161, st161⟩ := stC X152 hx hZ rfl Ar160 (j := (1 : Int32)) hin160 (g := (mkF m 71 #[iv mr, iv wr, iv pr, iv cr, iv er, iv 1, iv 2, .unset, rv ba152, iv 1, .unset] [(.int ((cr &&& (255 : Int32)).toUInt32.toUInt16.toUInt32.toInt32)), (.int 1), (.ref ba152)])) rfl rfl (hb hby at_71)
        have V_ba152_161 : Arv Z h161 ba152 kc152 .char (7 : Int32) [(.int (nar .char (112 : Int32))), (.int (nar .char ((cr &&& (255 : Int32)).toUInt32.toUInt16.toUInt32.toInt32))), (.int (nar .char (111 : Int32))), (.int (nar .char (98 : Int32))), (.int (nar .char (108 : Int32))), (.int (nar .char (101 : Int32))), (.int (nar .char (109 : Int32)))] (.int (0 : Int32)) := Arv.set Ar160 qc160 Sz160 Ng160 Hs160 Ft160 (fits_nar_char _) W161 1 rfl (Nat.le_of_ble_eq_true rfl)
        have Zs161 : n0 ≤ h161.size := Nat.le_trans Zs152 (Keep.of_wr W161).1
        have N161 := Fr.snoc X161 N152 g_ba152
        have Ol161 := Ol152.wr W161 g_ba152
        refine own_go (b := T161.setTop (mkF m 72 #[iv mr, iv wr, iv pr, iv cr, iv er, iv 1, iv 2, .unset, rv ba152, iv 1, .unset] [])) st161 ?_
        obtain ⟨T162, h162, X162, e162, E162, A162, D162, -, st162⟩ := newO X161 hx hZ hown (hw _ (List.mem_of_getElem? (i := 1) rfl)) (hw _ (List.mem_of_getElem? (i := 2) rfl)) (hw _ (List.mem_of_getElem? (i := 3) rfl)) e161 (g := (mkF m 72 #[iv mr, iv wr, iv pr, iv cr, iv er, iv 1, iv 2, .unset, rv ba152, iv 1, .unset] [])) rfl (hb hby at_72) (by decide) (by decide)
        obtain ⟨b162, g162⟩ : ∃ z, z = h161.size := ⟨_, rfl⟩
        rw [← g162] at A162 D162 st162
        have g_b162 : n0 ≤ b162 := Nat.le_trans Zs161 (Nat.le_of_eq g162.symm)
        have Zs162 : n0 ≤ h162.size := Nat.le_trans Zs161 E162.1
        have Ol162 := Ol161.ext E162
        have F_coder_b162 : Fld Z h162 b162 "java/lang/String" "coder" "B" (.int 0) := D162 (Or.inr (hw _ (List.mem_of_getElem? (i := 32) rfl))) (ty := .byte) (by decide)
        have F_value_b162 : Fld Z h162 b162 "java/lang/String" "value" "[B" .null := D162 (Or.inr (hw _ (List.mem_of_getElem? (i := 34) rfl))) (ty := (.array .byte)) (by decide)
        refine own_go (b := T162.setTop (mkF m 75 #[iv mr, iv wr, iv pr, iv cr, iv er, iv 1, iv 2, .unset, rv ba152, iv 1, .unset] [(.ref b162)])) st162 ?_
        refine own_go (b := T162.setTop (mkF m 76 #[iv mr, iv wr, iv pr, iv cr, iv er, iv 1, iv 2, .unset, rv ba152, iv 1, .unset] [(.ref b162), (.ref b162)])) (fun t k => XS.dup X162.here hx rfl (hb hby at_75) rfl rfl k) ?_
        refine own_go (b := T162.setTop (mkF m 78 #[iv mr, iv wr, iv pr, iv cr, iv er, iv 1, iv 2, .unset, rv ba152, iv 1, .unset] [(.ref ba152), (.ref b162), (.ref b162)])) (fun t k => XS.aload X162.here hx rfl (hb hby at_76) rfl rfl k) ?_
        have hp164 : ∀ c ∈ ([(nar .char (112 : Int32)), (nar .char ((cr &&& (255 : Int32)).toUInt32.toUInt16.toUInt32.toInt32)), (nar .char (111 : Int32)), (nar .char (98 : Int32)), (nar .char (108 : Int32)), (nar .char (101 : Int32)), (nar .char (109 : Int32))] : List Int32), ¬ c < 0 ∧ ¬ (255 : Int32) < c := by
          intro c hc
          simp only [List.mem_cons, List.not_mem_nil, or_false] at hc
          rcases hc with rfl | rfl | rfl | rfl | rfl | rfl | rfl
          · exact (by decide +kernel)
          · exact own_and255 cr
          · exact (by decide +kernel)
          · exact (by decide +kernel)
          · exact (by decide +kernel)
          · exact (by decide +kernel)
          · exact (by decide +kernel)
        obtain ⟨_, _, ⟨T163, L163, k163, n163⟩, -, X163, ⟨Lc163, hQ163, l163, y163, z163⟩, st163⟩ := X162.specialBack hx (y := (⟨"java/lang/String", "<init>", "([C)V"⟩ : MethodName)) rfl hown (mvT hZ (hw _ (List.mem_of_getElem? (i := 9) rfl))) (mvT hZ (hw _ (List.mem_of_getElem? (i := 10) rfl))) (mvT hZ (hw _ (List.mem_of_getElem? (i := 11) rfl))) (by decide) (StrChars.Road.backV (W := 1) hZ hws (kI := 4) (hw _ (List.mem_of_getElem? (i := 2) rfl)) (cs := ([(nar .char (112 : Int32)), (nar .char ((cr &&& (255 : Int32)).toUInt32.toUInt16.toUInt32.toInt32)), (nar .char (111 : Int32)), (nar .char (98 : Int32)), (nar .char (108 : Int32)), (nar .char (101 : Int32)), (nar .char (109 : Int32))] : List Int32)) (bs := (([(nar .char (112 : Int32)), (nar .char ((cr &&& (255 : Int32)).toUInt32.toUInt16.toUInt32.toInt32)), (nar .char (111 : Int32)), (nar .char (98 : Int32)), (nar .char (108 : Int32)), (nar .char (101 : Int32)), (nar .char (109 : Int32))] : List Int32)).map (fun c => c.toInt8.toInt32)) (n := 7) g_b162 Zs162 A162 F_value_b162 F_coder_b162 (V_ba152_161.ext E162) (O2.ext Ol162.2) P5 rfl rfl (by decide) (by decide) hp164 rfl (by decide) (by decide)) (g := (mkF m 78 #[iv mr, iv wr, iv pr, iv cr, iv er, iv 1, iv 2, .unset, rv ba152, iv 1, .unset] [(.ref ba152), (.ref b162), (.ref b162)])) rfl (by rw [hml]; rfl) (Steps.refl _) (a := b162) (argsL := [(.ref ba152)]) (rest := [(.ref b162)]) (lenOf pd_13 rfl) rfl (by show 2 * 0 + _ ≤ _; exact Nat.le_of_eq rfl) (hb hby at_78) (fun _ _ => ⟨rfl, e162, (by decide : 2 + 1 ≤ _), (by decide : 11 + 7 ≤ _)⟩)
        dsimp only [Pt.U, Pt.locs, Pt.cells, Pt.slots] at X163 l163 y163 z163 st163 hQ163
        subst l163 y163 z163
        obtain ⟨rfl, N163q, K163, Es163, Cs163, t163, kb163, ua163, ub163, uc163, Vs163, Ks163⟩ := hQ163
        have Zs163 : n0 ≤ T163.heap.size := Nat.le_trans Zs162 K163.1
        have N163 := Fr.app N161 N163q
        have Ol163 := Ol162.keep K163 (allS g_b162 all0)
        obtain ⟨lq163, X163, N163⟩ : ∃ lq, Stand p l e room_1 (s.setVm s.vm) m #[(.int mr), (.int wr), (.int pr), (.int cr), (.int er)] below meth c T163 lq 3 18 ∧ Fr n0 lq := ⟨_, X163, N163⟩
        refine own_tr (b := T163.setTop (mkF m 81 #[iv mr, iv wr, iv pr, iv cr, iv er, iv 1, iv 2, .unset, rv ba152, iv 1, .unset] [(.ref b162)])) st163 ?_
        refine own_go (b := T163.setTop (mkF m 83 #[iv mr, iv wr, iv pr, iv cr, iv er, iv 1, iv 2, rv b162, rv ba152, iv 1, .unset] [])) (fun t k => XS.astore X163.here hx rfl (hb hby at_81) rfl rfl (l' := #[iv mr, iv wr, iv pr, iv cr, iv er, iv 1, iv 2, rv b162, rv ba152, iv 1, .unset]) rfl k) ?_
        refine own_go (b := T163.setTop (mkF m 155 #[iv mr, iv wr, iv pr, iv cr, iv er, iv 1, iv 2, rv b162, rv ba152, iv 1, .unset] [])) (fun t k => XS.goto X163.here hx rfl (pc0 := 83) (pc' := 155) rfl (hb hby at_83) (by decide) (by decide) k) ?_
        exact J155 T163 T163.heap _ s.vm _ (1 : Int32) (2 : Int32) b162 ([(nar .char (112 : Int32)), (nar .char ((cr &&& (255 : Int32)).toUInt32.toUInt16.toUInt32.toInt32)), (nar .char (111 : Int32)), (nar .char (98 : Int32)), (nar .char (108 : Int32)), (nar .char (101 : Int32)), (nar .char (109 : Int32))] : List Int32) (rv ba152) (iv 1) (own_mono X163 (by decide) (by decide)) rfl N163 Zs163 Ol163 hS0 ((((Le0.keep K152).wr W161).ext E162).keep K163) hZ hown (own_IBm I0 rfl (by simp)) ⟨t163, _, Es163, Vs163, Cs163, Ks163, hp164, (Nat.le_of_ble_eq_true rfl)⟩ (Or.inr ⟨_, rfl, rfl⟩) (Or.inr ⟨_, rfl, rfl⟩)
      | 2, _, hX154 =>
        replace hX154 : ((pr &&& (2147483647 : Int32)) % (7 : Int32)) = (2 : Int32) := hX154
        rw [hX154]
        refine own_go (b := T152.setTop (mkF m 63 #[iv mr, iv wr, iv pr, iv cr, iv er, iv 1, iv 2, .unset, rv ba152, iv 2, .unset] [(.ref ba152)])) (fun t k => XS.aload X152.here hx rfl (hb hby at_61) rfl rfl k) ?_
        refine own_go (b := T152.setTop (mkF m 65 #[iv mr, iv wr, iv pr, iv cr, iv er, iv 1, iv 2, .unset, rv ba152, iv 2, .unset] [(.int 2), (.ref ba152)])) (fun t k => XS.iload X152.here hx rfl (hb hby at_63) rfl  k) ?_
        refine own_go (b := T152.setTop (mkF m 66 #[iv mr, iv wr, iv pr, iv cr, iv er, iv 1, iv 2, .unset, rv ba152, iv 2, .unset] [(.int cr), (.int 2), (.ref ba152)])) (fun t k => XS.iloadN X152.here hx rfl (hb hby at_65) rfl  k) ?_
        refine own_go (b := T152.setTop (mkF m 69 #[iv mr, iv wr, iv pr, iv cr, iv er, iv 1, iv 2, .unset, rv ba152, iv 2, .unset] [(.int 255), (.int cr), (.int 2), (.ref ba152)])) (fun t k => XS.sipush X152.here hx rfl (hb hby at_66) k) ?_
        refine own_go (b := T152.setTop (mkF m 70 #[iv mr, iv wr, iv pr, iv cr, iv er, iv 1, iv 2, .unset, rv ba152, iv 2, .unset] [(.int (cr &&& (255 : Int32))), (.int 2), (.ref ba152)])) (fun t k => XS.iand X152.here hx rfl (hb hby at_69) rfl k) ?_
        refine own_go (b := T152.setTop (mkF m 71 #[iv mr, iv wr, iv pr, iv cr, iv er, iv 1, iv 2, .unset, rv ba152, iv 2, .unset] [(.int ((cr &&& (255 : Int32)).toUInt32.toUInt16.toUInt32.toInt32)), (.int 2), (.ref ba152)])) (fun t k => XS.i2c X152.here hx rfl (hb hby at_70) rfl k) ?_
        obtain ⟨cl165, Ar165, qc165, Sz165, Ng165, Hs165, Ft165⟩ := id Va152
        have hin165 : ¬ ((2 : Int32) < 0 ∨ cl165.slots.size ≤ ((2 : Int32)).toNatClampNeg) := inb_of Sz165 ⟨by decide, by decide⟩
        obtain ⟨T166, h166, X166, e166, W166, st166⟩ := stC X152 hx hZ rfl Ar165 (j := (2 : Int32)) hin165 (g := (mkF m 71 #[iv mr, iv wr, iv pr, iv cr, iv er, iv 1, iv 2, .unset, rv ba152, iv 2, .unset] [(.int ((cr &&& (255 : Int32)).toUInt32.toUInt16.toUInt32.toInt32)), (.int 2), (.ref ba152)])) rfl rfl (hb hby at_71)
        have V_ba152_166 : Arv Z h166 ba152 kc152 .char (7 : Int32) [(.int (nar .char (112 : Int32))), (.int (nar .char (114 : Int32))), (.int (nar .char ((cr &&& (255 : Int32)).toUInt32.toUInt16.toUInt32.toInt32))), (.int (nar .char (98 : Int32))), (.int (nar .char (108 : Int32))), (.int (nar .char (101 : Int32))), (.int (nar .char (109 : Int32)))] (.int (0 : Int32)) := Arv.set Ar165 qc165 Sz165 Ng165 Hs165 Ft165 (fits_nar_char _) W166 2 rfl (Nat.le_of_ble_eq_true rfl)
        have Zs166 : n0 ≤ h166.size := Nat.le_trans Zs152 (Keep.of_wr W166).1
        have N166 := Fr.snoc X166 N152 g_ba152
        have Ol166 := Ol152.wr W166 g_ba152
        refine own_go (b := T166.setTop (mkF m 72 #[iv mr, iv wr, iv pr, iv cr, iv er, iv 1, iv 2, .unset, rv ba152, iv 2, .unset] [])) st166 ?_
        obtain ⟨T167, h167, X167, e167, E167, A167, D167, -, st167⟩ := newO X166 hx hZ hown (hw _ (List.mem_of_getElem? (i := 1) rfl)) (hw _ (List.mem_of_getElem? (i := 2) rfl)) (hw _ (List.mem_of_getElem? (i := 3) rfl)) e166 (g := (mkF m 72 #[iv mr, iv wr, iv pr, iv cr, iv er, iv 1, iv 2, .unset, rv ba152, iv 2, .unset] [])) rfl (hb hby at_72) (by decide) (by decide)
        obtain ⟨b167, g167⟩ : ∃ z, z = h166.size := ⟨_, rfl⟩
        rw [← g167] at A167 D167 st167
        have g_b167 : n0 ≤ b167 := Nat.le_trans Zs166 (Nat.le_of_eq g167.symm)
        have Zs167 : n0 ≤ h167.size := Nat.le_trans Zs166 E167.1
        have Ol167 := Ol166.ext E167
        have F_coder_b167 : Fld Z h167 b167 "java/lang/String" "coder" "B" (.int 0) := D167 (Or.inr (hw _ (List.mem_of_getElem? (i := 32) rfl))) (ty := .byte) (by decide)
        have F_value_b167 : Fld Z h167 b167 "java/lang/String" "value" "[B" .null := D167 (Or.inr (hw _ (List.mem_of_getElem? (i := 34) rfl))) (ty := (.array .byte)) (by decide)
        refine own_go (b := T167.setTop (mkF m 75 #[iv mr, iv wr, iv pr, iv cr, iv er, iv 1, iv 2, .unset, rv ba152, iv 2, .unset] [(.ref b167)])) st167 ?_
        refine own_go (b := T167.setTop (mkF m 76 #[iv mr, iv wr, iv pr, iv cr, iv er, iv 1, iv 2, .unset, rv ba152, iv 2, .unset] [(.ref b167), (.ref b167)])) (fun t k => XS.dup X167.here hx rfl (hb hby at_75) rfl rfl k) ?_
        refine own_go (b := T167.setTop (mkF m 78 #[iv mr, iv wr, iv pr, iv cr, iv er, iv 1, iv 2, .unset, rv ba152, iv 2, .unset] [(.ref ba152), (.ref b167), (.ref b167)])) (fun t k => XS.aload X167.here hx rfl (hb hby at_76) rfl rfl k) ?_
        have hp169 : ∀ c ∈ ([(nar .char (112 : Int32)), (nar .char (114 : Int32)), (nar .char ((cr &&& (255 : Int32)).toUInt32.toUInt16.toUInt32.toInt32)), (nar .char (98 : Int32)), (nar .char (108 : Int32)), (nar .char (101 : Int32)), (nar .char (109 : Int32))] : List Int32), ¬ c < 0 ∧ ¬ (255 : Int32) < c := by
          intro c hc
          simp only [List.mem_cons, List.not_mem_nil, or_false] at hc
          rcases hc with rfl | rfl | rfl | rfl | rfl | rfl | rfl
          · exact (by decide +kernel)
          · exact (by decide +kernel)
          · exact own_and255 cr
          · exact (by decide +kernel)
          · exact (by decide +kernel)
          · exact (by decide +kernel)
          · exact (by decide +kernel)
        obtain ⟨_, _, ⟨T168, L168, k168, n168⟩, -, X168, ⟨Lc168, hQ168, l168, y168, z168⟩, st168⟩ := X167.specialBack hx (y := (⟨"java/lang/String", "<init>", "([C)V"⟩ : MethodName)) rfl hown (mvT hZ (hw _ (List.mem_of_getElem? (i := 9) rfl))) (mvT hZ (hw _ (List.mem_of_getElem? (i := 10) rfl))) (mvT hZ (hw _ (List.mem_of_getElem? (i := 11) rfl))) (by decide) (StrChars.Road.backV (W := 1) hZ hws (kI := 4) (hw _ (List.mem_of_getElem? (i := 2) rfl)) (cs := ([(nar .char (112 : Int32)), (nar .char (114 : Int32)), (nar .char ((cr &&& (255 : Int32)).toUInt32.toUInt16.toUInt32.toInt32)), (nar .char (98 : Int32)), (nar .char (108 : Int32)), (nar .char (101 : Int32)), (nar .char (109 : Int32))] : List Int32)) (bs := (([(nar .char (112 : Int32)), (nar .char (114 : Int32)), (nar .char ((cr &&& (255 : Int32)).toUInt32.toUInt16.toUInt32.toInt32)), (nar .char (98 : Int32)), (nar .char (108 : Int32)), (nar .char (101 : Int32)), (nar .char (109 : Int32))] : List Int32)).map (fun c => c.toInt8.toInt32)) (n := 7) g_b167 Zs167 A167 F_value_b167 F_coder_b167 (V_ba152_166.ext E167) (O2.ext Ol167.2) P5 rfl rfl (by decide) (by decide) hp169 rfl (by decide) (by decide)) (g := (mkF m 78 #[iv mr, iv wr, iv pr, iv cr, iv er, iv 1, iv 2, .unset, rv ba152, iv 2, .unset] [(.ref ba152), (.ref b167), (.ref b167)])) rfl (by rw [hml]; rfl) (Steps.refl _) (a := b167) (argsL := [(.ref ba152)]) (rest := [(.ref b167)]) (lenOf pd_13 rfl) rfl (by show 2 * 0 + _ ≤ _; exact Nat.le_of_eq rfl) (hb hby at_78) (fun _ _ => ⟨rfl, e167, (by decide : 2 + 1 ≤ _), (by decide : 11 + 7 ≤ _)⟩)
        dsimp only [Pt.U, Pt.locs, Pt.cells, Pt.slots] at X168 l168 y168 z168 st168 hQ168
        subst l168 y168 z168
        obtain ⟨rfl, N168q, K168, Es168, Cs168, t168, kb168, ua168, ub168, uc168, Vs168, Ks168⟩ := hQ168
        have Zs168 : n0 ≤ T168.heap.size := Nat.le_trans Zs167 K168.1
        have N168 := Fr.app N166 N168q
        have Ol168 := Ol167.keep K168 (allS g_b167 all0)
        obtain ⟨lq168, X168, N168⟩ : ∃ lq, Stand p l e room_1 (s.setVm s.vm) m #[(.int mr), (.int wr), (.int pr), (.int cr), (.int er)] below meth c T168 lq 3 18 ∧ Fr n0 lq := ⟨_, X168, N168⟩
        refine own_tr (b := T168.setTop (mkF m 81 #[iv mr, iv wr, iv pr, iv cr, iv er, iv 1, iv 2, .unset, rv ba152, iv 2, .unset] [(.ref b167)])) st168 ?_
        refine own_go (b := T168.setTop (mkF m 83 #[iv mr, iv wr, iv pr, iv cr, iv er, iv 1, iv 2, rv b167, rv ba152, iv 2, .unset] [])) (fun t k => XS.astore X168.here hx rfl (hb hby at_81) rfl rfl (l' := #[iv mr, iv wr, iv pr, iv cr, iv er, iv 1, iv 2, rv b167, rv ba152, iv 2, .unset]) rfl k) ?_
        refine own_go (b := T168.setTop (mkF m 155 #[iv mr, iv wr, iv pr, iv cr, iv er, iv 1, iv 2, rv b167, rv ba152, iv 2, .unset] [])) (fun t k => XS.goto X168.here hx rfl (pc0 := 83) (pc' := 155) rfl (hb hby at_83) (by decide) (by decide) k) ?_
        exact J155 T168 T168.heap _ s.vm _ (1 : Int32) (2 : Int32) b167 ([(nar .char (112 : Int32)), (nar .char (114 : Int32)), (nar .char ((cr &&& (255 : Int32)).toUInt32.toUInt16.toUInt32.toInt32)), (nar .char (98 : Int32)), (nar .char (108 : Int32)), (nar .char (101 : Int32)), (nar .char (109 : Int32))] : List Int32) (rv ba152) (iv 2) (own_mono X168 (by decide) (by decide)) rfl N168 Zs168 Ol168 hS0 ((((Le0.keep K152).wr W166).ext E167).keep K168) hZ hown (own_IBm I0 rfl (by simp)) ⟨t168, _, Es168, Vs168, Cs168, Ks168, hp169, (Nat.le_of_ble_eq_true rfl)⟩ (Or.inr ⟨_, rfl, rfl⟩) (Or.inr ⟨_, rfl, rfl⟩)
      | 3, _, hX154 =>
        replace hX154 : ((pr &&& (2147483647 : Int32)) % (7 : Int32)) = (3 : Int32) := hX154
        rw [hX154]
        refine own_go (b := T152.setTop (mkF m 63 #[iv mr, iv wr, iv pr, iv cr, iv er, iv 1, iv 2, .unset, rv ba152, iv 3, .unset] [(.ref ba152)])) (fun t k => XS.aload X152.here hx rfl (hb hby at_61) rfl rfl k) ?_
        refine own_go (b := T152.setTop (mkF m 65 #[iv mr, iv wr, iv pr, iv cr, iv er, iv 1, iv 2, .unset, rv ba152, iv 3, .unset] [(.int 3), (.ref ba152)])) (fun t k => XS.iload X152.here hx rfl (hb hby at_63) rfl  k) ?_
        refine own_go (b := T152.setTop (mkF m 66 #[iv mr, iv wr, iv pr, iv cr, iv er, iv 1, iv 2, .unset, rv ba152, iv 3, .unset] [(.int cr), (.int 3), (.ref ba152)])) (fun t k => XS.iloadN X152.here hx rfl (hb hby at_65) rfl  k) ?_
        refine own_go (b := T152.setTop (mkF m 69 #[iv mr, iv wr, iv pr, iv cr, iv er, iv 1, iv 2, .unset, rv ba152, iv 3, .unset] [(.int 255), (.int cr), (.int 3), (.ref ba152)])) (fun t k => XS.sipush X152.here hx rfl (hb hby at_66) k) ?_
        refine own_go (b := T152.setTop (mkF m 70 #[iv mr, iv wr, iv pr, iv cr, iv er, iv 1, iv 2, .unset, rv ba152, iv 3, .unset] [(.int (cr &&& (255 : Int32))), (.int 3), (.ref ba152)])) (fun t k => XS.iand X152.here hx rfl (hb hby at_69) rfl k) ?_
        refine own_go (b := T152.setTop (mkF m 71 #[iv mr, iv wr, iv pr, iv cr, iv er, iv 1, iv 2, .unset, rv ba152, iv 3, .unset] [(.int ((cr &&& (255 : Int32)).toUInt32.toUInt16.toUInt32.toInt32)), (.int 3), (.ref ba152)])) (fun t k => XS.i2c X152.here hx rfl (hb hby at_70) rfl k) ?_
        obtain ⟨cl170, Ar170, qc170, Sz170, Ng170, Hs170, Ft170⟩ := id Va152
        have hin170 : ¬ ((3 : Int32) < 0 ∨ cl170.slots.size ≤ ((3 : Int32)).toNatClampNeg) := inb_of Sz170 ⟨by decide, by decide⟩
        obtain ⟨T171, h171, X171, e171, W171, st171⟩ := stC X152 hx hZ rfl Ar170 (j := (3 : Int32)) hin170 (g := (mkF m 71 #[iv mr, iv wr, iv pr, iv cr, iv er, iv 1, iv 2, .unset, rv ba152, iv 3, .unset] [(.int ((cr &&& (255 : Int32)).toUInt32.toUInt16.toUInt32.toInt32)), (.int 3), (.ref ba152)])) rfl rfl (hb hby at_71)
        have V_ba152_171 : Arv Z h171 ba152 kc152 .char (7 : Int32) [(.int (nar .char (112 : Int32))), (.int (nar .char (114 : Int32))), (.int (nar .char (111 : Int32))), (.int (nar .char ((cr &&& (255 : Int32)).toUInt32.toUInt16.toUInt32.toInt32))), (.int (nar .char (108 : Int32))), (.int (nar .char (101 : Int32))), (.int (nar .char (109 : Int32)))] (.int (0 : Int32)) := Arv.set Ar170 qc170 Sz170 Ng170 Hs170 Ft170 (fits_nar_char _) W171 3 rfl (Nat.le_of_ble_eq_true rfl)
        have Zs171 : n0 ≤ h171.size := Nat.le_trans Zs152 (Keep.of_wr W171).1
        have N171 := Fr.snoc X171 N152 g_ba152
        have Ol171 := Ol152.wr W171 g_ba152
        refine own_go (b := T171.setTop (mkF m 72 #[iv mr, iv wr, iv pr, iv cr, iv er, iv 1, iv 2, .unset, rv ba152, iv 3, .unset] [])) st171 ?_
        obtain ⟨T172, h172, X172, e172, E172, A172, D172, -, st172⟩ := newO X171 hx hZ hown (hw _ (List.mem_of_getElem? (i := 1) rfl)) (hw _ (List.mem_of_getElem? (i := 2) rfl)) (hw _ (List.mem_of_getElem? (i := 3) rfl)) e171 (g := (mkF m 72 #[iv mr, iv wr, iv pr, iv cr, iv er, iv 1, iv 2, .unset, rv ba152, iv 3, .unset] [])) rfl (hb hby at_72) (by decide) (by decide)
        obtain ⟨b172, g172⟩ : ∃ z, z = h171.size := ⟨_, rfl⟩
        rw [← g172] at A172 D172 st172
        have g_b172 : n0 ≤ b172 := Nat.le_trans Zs171 (Nat.le_of_eq g172.symm)
        have Zs172 : n0 ≤ h172.size := Nat.le_trans Zs171 E172.1
        have Ol172 := Ol171.ext E172
        have F_coder_b172 : Fld Z h172 b172 "java/lang/String" "coder" "B" (.int 0) := D172 (Or.inr (hw _ (List.mem_of_getElem? (i := 32) rfl))) (ty := .byte) (by decide)
        have F_value_b172 : Fld Z h172 b172 "java/lang/String" "value" "[B" .null := D172 (Or.inr (hw _ (List.mem_of_getElem? (i := 34) rfl))) (ty := (.array .byte)) (by decide)
        refine own_go (b := T172.setTop (mkF m 75 #[iv mr, iv wr, iv pr, iv cr, iv er, iv 1, iv 2, .unset, rv ba152, iv 3, .unset] [(.ref b172)])) st172 ?_
        refine own_go (b := T172.setTop (mkF m 76 #[iv mr, iv wr, iv pr, iv cr, iv er, iv 1, iv 2, .unset, rv ba152, iv 3, .unset] [(.ref b172), (.ref b172)])) (fun t k => XS.dup X172.here hx rfl (hb hby at_75) rfl rfl k) ?_
        refine own_go (b := T172.setTop (mkF m 78 #[iv mr, iv wr, iv pr, iv cr, iv er, iv 1, iv 2, .unset, rv ba152, iv 3, .unset] [(.ref ba152), (.ref b172), (.ref b172)])) (fun t k => XS.aload X172.here hx rfl (hb hby at_76) rfl rfl k) ?_
        have hp174 : ∀ c ∈ ([(nar .char (112 : Int32)), (nar .char (114 : Int32)), (nar .char (111 : Int32)), (nar .char ((cr &&& (255 : Int32)).toUInt32.toUInt16.toUInt32.toInt32)), (nar .char (108 : Int32)), (nar .char (101 : Int32)), (nar .char (109 : Int32))] : List Int32), ¬ c < 0 ∧ ¬ (255 : Int32) < c := by
          intro c hc
          simp only [List.mem_cons, List.not_mem_nil, or_false] at hc
          rcases hc with rfl | rfl | rfl | rfl | rfl | rfl | rfl
          · exact (by decide +kernel)
          · exact (by decide +kernel)
          · exact (by decide +kernel)
          · exact own_and255 cr
          · exact (by decide +kernel)
          · exact (by decide +kernel)
          · exact (by decide +kernel)
        obtain ⟨_, _, ⟨T173, L173, k173, n173⟩, -, X173, ⟨Lc173, hQ173, l173, y173, z173⟩, st173⟩ := X172.specialBack hx (y := (⟨"java/lang/String", "<init>", "([C)V"⟩ : MethodName)) rfl hown (mvT hZ (hw _ (List.mem_of_getElem? (i := 9) rfl))) (mvT hZ (hw _ (List.mem_of_getElem? (i := 10) rfl))) (mvT hZ (hw _ (List.mem_of_getElem? (i := 11) rfl))) (by decide) (StrChars.Road.backV (W := 1) hZ hws (kI := 4) (hw _ (List.mem_of_getElem? (i := 2) rfl)) (cs := ([(nar .char (112 : Int32)), (nar .char (114 : Int32)), (nar .char (111 : Int32)), (nar .char ((cr &&& (255 : Int32)).toUInt32.toUInt16.toUInt32.toInt32)), (nar .char (108 : Int32)), (nar .char (101 : Int32)), (nar .char (109 : Int32))] : List Int32)) (bs := (([(nar .char (112 : Int32)), (nar .char (114 : Int32)), (nar .char (111 : Int32)), (nar .char ((cr &&& (255 : Int32)).toUInt32.toUInt16.toUInt32.toInt32)), (nar .char (108 : Int32)), (nar .char (101 : Int32)), (nar .char (109 : Int32))] : List Int32)).map (fun c => c.toInt8.toInt32)) (n := 7) g_b172 Zs172 A172 F_value_b172 F_coder_b172 (V_ba152_171.ext E172) (O2.ext Ol172.2) P5 rfl rfl (by decide) (by decide) hp174 rfl (by decide) (by decide)) (g := (mkF m 78 #[iv mr, iv wr, iv pr, iv cr, iv er, iv 1, iv 2, .unset, rv ba152, iv 3, .unset] [(.ref ba152), (.ref b172), (.ref b172)])) rfl (by rw [hml]; rfl) (Steps.refl _) (a := b172) (argsL := [(.ref ba152)]) (rest := [(.ref b172)]) (lenOf pd_13 rfl) rfl (by show 2 * 0 + _ ≤ _; exact Nat.le_of_eq rfl) (hb hby at_78) (fun _ _ => ⟨rfl, e172, (by decide : 2 + 1 ≤ _), (by decide : 11 + 7 ≤ _)⟩)
        dsimp only [Pt.U, Pt.locs, Pt.cells, Pt.slots] at X173 l173 y173 z173 st173 hQ173
        subst l173 y173 z173
        obtain ⟨rfl, N173q, K173, Es173, Cs173, t173, kb173, ua173, ub173, uc173, Vs173, Ks173⟩ := hQ173
        have Zs173 : n0 ≤ T173.heap.size := Nat.le_trans Zs172 K173.1
        have N173 := Fr.app N171 N173q
        have Ol173 := Ol172.keep K173 (allS g_b172 all0)
        obtain ⟨lq173, X173, N173⟩ : ∃ lq, Stand p l e room_1 (s.setVm s.vm) m #[(.int mr), (.int wr), (.int pr), (.int cr), (.int er)] below meth c T173 lq 3 18 ∧ Fr n0 lq := ⟨_, X173, N173⟩
        refine own_tr (b := T173.setTop (mkF m 81 #[iv mr, iv wr, iv pr, iv cr, iv er, iv 1, iv 2, .unset, rv ba152, iv 3, .unset] [(.ref b172)])) st173 ?_
        refine own_go (b := T173.setTop (mkF m 83 #[iv mr, iv wr, iv pr, iv cr, iv er, iv 1, iv 2, rv b172, rv ba152, iv 3, .unset] [])) (fun t k => XS.astore X173.here hx rfl (hb hby at_81) rfl rfl (l' := #[iv mr, iv wr, iv pr, iv cr, iv er, iv 1, iv 2, rv b172, rv ba152, iv 3, .unset]) rfl k) ?_
        refine own_go (b := T173.setTop (mkF m 155 #[iv mr, iv wr, iv pr, iv cr, iv er, iv 1, iv 2, rv b172, rv ba152, iv 3, .unset] [])) (fun t k => XS.goto X173.here hx rfl (pc0 := 83) (pc' := 155) rfl (hb hby at_83) (by decide) (by decide) k) ?_
        exact J155 T173 T173.heap _ s.vm _ (1 : Int32) (2 : Int32) b172 ([(nar .char (112 : Int32)), (nar .char (114 : Int32)), (nar .char (111 : Int32)), (nar .char ((cr &&& (255 : Int32)).toUInt32.toUInt16.toUInt32.toInt32)), (nar .char (108 : Int32)), (nar .char (101 : Int32)), (nar .char (109 : Int32))] : List Int32) (rv ba152) (iv 3) (own_mono X173 (by decide) (by decide)) rfl N173 Zs173 Ol173 hS0 ((((Le0.keep K152).wr W171).ext E172).keep K173) hZ hown (own_IBm I0 rfl (by simp)) ⟨t173, _, Es173, Vs173, Cs173, Ks173, hp174, (Nat.le_of_ble_eq_true rfl)⟩ (Or.inr ⟨_, rfl, rfl⟩) (Or.inr ⟨_, rfl, rfl⟩)
      | 4, _, hX154 =>
        replace hX154 : ((pr &&& (2147483647 : Int32)) % (7 : Int32)) = (4 : Int32) := hX154
        rw [hX154]
        refine own_go (b := T152.setTop (mkF m 63 #[iv mr, iv wr, iv pr, iv cr, iv er, iv 1, iv 2, .unset, rv ba152, iv 4, .unset] [(.ref ba152)])) (fun t k => XS.aload X152.here hx rfl (hb hby at_61) rfl rfl k) ?_
        refine own_go (b := T152.setTop (mkF m 65 #[iv mr, iv wr, iv pr, iv cr, iv er, iv 1, iv 2, .unset, rv ba152, iv 4, .unset] [(.int 4), (.ref ba152)])) (fun t k => XS.iload X152.here hx rfl (hb hby at_63) rfl  k) ?_
        refine own_go (b := T152.setTop (mkF m 66 #[iv mr, iv wr, iv pr, iv cr, iv er, iv 1, iv 2, .unset, rv ba152, iv 4, .unset] [(.int cr), (.int 4), (.ref ba152)])) (fun t k => XS.iloadN X152.here hx rfl (hb hby at_65) rfl  k) ?_
        refine own_go (b := T152.setTop (mkF m 69 #[iv mr, iv wr, iv pr, iv cr, iv er, iv 1, iv 2, .unset, rv ba152, iv 4, .unset] [(.int 255), (.int cr), (.int 4), (.ref ba152)])) (fun t k => XS.sipush X152.here hx rfl (hb hby at_66) k) ?_
        refine own_go (b := T152.setTop (mkF m 70 #[iv mr, iv wr, iv pr, iv cr, iv er, iv 1, iv 2, .unset, rv ba152, iv 4, .unset] [(.int (cr &&& (255 : Int32))), (.int 4), (.ref ba152)])) (fun t k => XS.iand X152.here hx rfl (hb hby at_69) rfl k) ?_
        refine own_go (b := T152.setTop (mkF m 71 #[iv mr, iv wr, iv pr, iv cr, iv er, iv 1, iv 2, .unset, rv ba152, iv 4, .unset] [(.int ((cr &&& (255 : Int32)).toUInt32.toUInt16.toUInt32.toInt32)), (.int 4), (.ref ba152)])) (fun t k => XS.i2c X152.here hx rfl (hb hby at_70) rfl k) ?_
        obtain ⟨cl175, Ar175, qc175, Sz175, Ng175, Hs175, Ft175⟩ := id Va152
        have hin175 : ¬ ((4 : Int32) < 0 ∨ cl175.slots.size ≤ ((4 : Int32)).toNatClampNeg) := inb_of Sz175 ⟨by decide, by decide⟩
        obtain ⟨T176, h176, X176, e176, W176, st176⟩ := stC X152 hx hZ rfl Ar175 (j := (4 : Int32)) hin175 (g := (mkF m 71 #[iv mr, iv wr, iv pr, iv cr, iv er, iv 1, iv 2, .unset, rv ba152, iv 4, .unset] [(.int ((cr &&& (255 : Int32)).toUInt32.toUInt16.toUInt32.toInt32)), (.int 4), (.ref ba152)])) rfl rfl (hb hby at_71)
        have V_ba152_176 : Arv Z h176 ba152 kc152 .char (7 : Int32) [(.int (nar .char (112 : Int32))), (.int (nar .char (114 : Int32))), (.int (nar .char (111 : Int32))), (.int (nar .char (98 : Int32))), (.int (nar .char ((cr &&& (255 : Int32)).toUInt32.toUInt16.toUInt32.toInt32))), (.int (nar .char (101 : Int32))), (.int (nar .char (109 : Int32)))] (.int (0 : Int32)) := Arv.set Ar175 qc175 Sz175 Ng175 Hs175 Ft175 (fits_nar_char _) W176 4 rfl (Nat.le_of_ble_eq_true rfl)
        have Zs176 : n0 ≤ h176.size := Nat.le_trans Zs152 (Keep.of_wr W176).1
        have N176 := Fr.snoc X176 N152 g_ba152
        have Ol176 := Ol152.wr W176 g_ba152
        refine own_go (b := T176.setTop (mkF m 72 #[iv mr, iv wr, iv pr, iv cr, iv er, iv 1, iv 2, .unset, rv ba152, iv 4, .unset] [])) st176 ?_
        obtain ⟨T177, h177, X177, e177, E177, A177, D177, -, st177⟩ := newO X176 hx hZ hown (hw _ (List.mem_of_getElem? (i := 1) rfl)) (hw _ (List.mem_of_getElem? (i := 2) rfl)) (hw _ (List.mem_of_getElem? (i := 3) rfl)) e176 (g := (mkF m 72 #[iv mr, iv wr, iv pr, iv cr, iv er, iv 1, iv 2, .unset, rv ba152, iv 4, .unset] [])) rfl (hb hby at_72) (by decide) (by decide)
        obtain ⟨b177, g177⟩ : ∃ z, z = h176.size := ⟨_, rfl⟩
        rw [← g177] at A177 D177 st177
        have g_b177 : n0 ≤ b177 := Nat.le_trans Zs176 (Nat.le_of_eq g177.symm)
        have Zs177 : n0 ≤ h177.size := Nat.le_trans Zs176 E177.1
        have Ol177 := Ol176.ext E177
        have F_coder_b177 : Fld Z h177 b177 "java/lang/String" "coder" "B" (.int 0) := D177 (Or.inr (hw _ (List.mem_of_getElem? (i := 32) rfl))) (ty := .byte) (by decide)
        have F_value_b177 : Fld Z h177 b177 "java/lang/String" "value" "[B" .null := D177 (Or.inr (hw _ (List.mem_of_getElem? (i := 34) rfl))) (ty := (.array .byte)) (by decide)
        refine own_go (b := T177.setTop (mkF m 75 #[iv mr, iv wr, iv pr, iv cr, iv er, iv 1, iv 2, .unset, rv ba152, iv 4, .unset] [(.ref b177)])) st177 ?_
        refine own_go (b := T177.setTop (mkF m 76 #[iv mr, iv wr, iv pr, iv cr, iv er, iv 1, iv 2, .unset, rv ba152, iv 4, .unset] [(.ref b177), (.ref b177)])) (fun t k => XS.dup X177.here hx rfl (hb hby at_75) rfl rfl k) ?_
        refine own_go (b := T177.setTop (mkF m 78 #[iv mr, iv wr, iv pr, iv cr, iv er, iv 1, iv 2, .unset, rv ba152, iv 4, .unset] [(.ref ba152), (.ref b177), (.ref b177)])) (fun t k => XS.aload X177.here hx rfl (hb hby at_76) rfl rfl k) ?_
        have hp179 : ∀ c ∈ ([(nar .char (112 : Int32)), (nar .char (114 : Int32)), (nar .char (111 : Int32)), (nar .char (98 : Int32)), (nar .char ((cr &&& (255 : Int32)).toUInt32.toUInt16.toUInt32.toInt32)), (nar .char (101 : Int32)), (nar .char (109 : Int32))] : List Int32), ¬ c < 0 ∧ ¬ (255 : Int32) < c := by
          intro c hc
          simp only [List.mem_cons, List.not_mem_nil, or_false] at hc
          rcases hc with rfl | rfl | rfl | rfl | rfl | rfl | rfl
          · exact (by decide +kernel)
          · exact (by decide +kernel)
          · exact (by decide +kernel)
          · exact (by decide +kernel)
          · exact own_and255 cr
          · exact (by decide +kernel)
          · exact (by decide +kernel)
        obtain ⟨_, _, ⟨T178, L178, k178, n178⟩, -, X178, ⟨Lc178, hQ178, l178, y178, z178⟩, st178⟩ := X177.specialBack hx (y := (⟨"java/lang/String", "<init>", "([C)V"⟩ : MethodName)) rfl hown (mvT hZ (hw _ (List.mem_of_getElem? (i := 9) rfl))) (mvT hZ (hw _ (List.mem_of_getElem? (i := 10) rfl))) (mvT hZ (hw _ (List.mem_of_getElem? (i := 11) rfl))) (by decide) (StrChars.Road.backV (W := 1) hZ hws (kI := 4) (hw _ (List.mem_of_getElem? (i := 2) rfl)) (cs := ([(nar .char (112 : Int32)), (nar .char (114 : Int32)), (nar .char (111 : Int32)), (nar .char (98 : Int32)), (nar .char ((cr &&& (255 : Int32)).toUInt32.toUInt16.toUInt32.toInt32)), (nar .char (101 : Int32)), (nar .char (109 : Int32))] : List Int32)) (bs := (([(nar .char (112 : Int32)), (nar .char (114 : Int32)), (nar .char (111 : Int32)), (nar .char (98 : Int32)), (nar .char ((cr &&& (255 : Int32)).toUInt32.toUInt16.toUInt32.toInt32)), (nar .char (101 : Int32)), (nar .char (109 : Int32))] : List Int32)).map (fun c => c.toInt8.toInt32)) (n := 7) g_b177 Zs177 A177 F_value_b177 F_coder_b177 (V_ba152_176.ext E177) (O2.ext Ol177.2) P5 rfl rfl (by decide) (by decide) hp179 rfl (by decide) (by decide)) (g := (mkF m 78 #[iv mr, iv wr, iv pr, iv cr, iv er, iv 1, iv 2, .unset, rv ba152, iv 4, .unset] [(.ref ba152), (.ref b177), (.ref b177)])) rfl (by rw [hml]; rfl) (Steps.refl _) (a := b177) (argsL := [(.ref ba152)]) (rest := [(.ref b177)]) (lenOf pd_13 rfl) rfl (by show 2 * 0 + _ ≤ _; exact Nat.le_of_eq rfl) (hb hby at_78) (fun _ _ => ⟨rfl, e177, (by decide : 2 + 1 ≤ _), (by decide : 11 + 7 ≤ _)⟩)
        dsimp only [Pt.U, Pt.locs, Pt.cells, Pt.slots] at X178 l178 y178 z178 st178 hQ178
        subst l178 y178 z178
        obtain ⟨rfl, N178q, K178, Es178, Cs178, t178, kb178, ua178, ub178, uc178, Vs178, Ks178⟩ := hQ178
        have Zs178 : n0 ≤ T178.heap.size := Nat.le_trans Zs177 K178.1
        have N178 := Fr.app N176 N178q
        have Ol178 := Ol177.keep K178 (allS g_b177 all0)
        obtain ⟨lq178, X178, N178⟩ : ∃ lq, Stand p l e room_1 (s.setVm s.vm) m #[(.int mr), (.int wr), (.int pr), (.int cr), (.int er)] below meth c T178 lq 3 18 ∧ Fr n0 lq := ⟨_, X178, N178⟩
        refine own_tr (b := T178.setTop (mkF m 81 #[iv mr, iv wr, iv pr, iv cr, iv er, iv 1, iv 2, .unset, rv ba152, iv 4, .unset] [(.ref b177)])) st178 ?_
        refine own_go (b := T178.setTop (mkF m 83 #[iv mr, iv wr, iv pr, iv cr, iv er, iv 1, iv 2, rv b177, rv ba152, iv 4, .unset] [])) (fun t k => XS.astore X178.here hx rfl (hb hby at_81) rfl rfl (l' := #[iv mr, iv wr, iv pr, iv cr, iv er, iv 1, iv 2, rv b177, rv ba152, iv 4, .unset]) rfl k) ?_
        refine own_go (b := T178.setTop (mkF m 155 #[iv mr, iv wr, iv pr, iv cr, iv er, iv 1, iv 2, rv b177, rv ba152, iv 4, .unset] [])) (fun t k => XS.goto X178.here hx rfl (pc0 := 83) (pc' := 155) rfl (hb hby at_83) (by decide) (by decide) k) ?_
        exact J155 T178 T178.heap _ s.vm _ (1 : Int32) (2 : Int32) b177 ([(nar .char (112 : Int32)), (nar .char (114 : Int32)), (nar .char (111 : Int32)), (nar .char (98 : Int32)), (nar .char ((cr &&& (255 : Int32)).toUInt32.toUInt16.toUInt32.toInt32)), (nar .char (101 : Int32)), (nar .char (109 : Int32))] : List Int32) (rv ba152) (iv 4) (own_mono X178 (by decide) (by decide)) rfl N178 Zs178 Ol178 hS0 ((((Le0.keep K152).wr W176).ext E177).keep K178) hZ hown (own_IBm I0 rfl (by simp)) ⟨t178, _, Es178, Vs178, Cs178, Ks178, hp179, (Nat.le_of_ble_eq_true rfl)⟩ (Or.inr ⟨_, rfl, rfl⟩) (Or.inr ⟨_, rfl, rfl⟩)
      | 5, _, hX154 =>
        replace hX154 : ((pr &&& (2147483647 : Int32)) % (7 : Int32)) = (5 : Int32) := hX154
        rw [hX154]
        refine own_go (b := T152.setTop (mkF m 63 #[iv mr, iv wr, iv pr, iv cr, iv er, iv 1, iv 2, .unset, rv ba152, iv 5, .unset] [(.ref ba152)])) (fun t k => XS.aload X152.here hx rfl (hb hby at_61) rfl rfl k) ?_
        refine own_go (b := T152.setTop (mkF m 65 #[iv mr, iv wr, iv pr, iv cr, iv er, iv 1, iv 2, .unset, rv ba152, iv 5, .unset] [(.int 5), (.ref ba152)])) (fun t k => XS.iload X152.here hx rfl (hb hby at_63) rfl  k) ?_
        refine own_go (b := T152.setTop (mkF m 66 #[iv mr, iv wr, iv pr, iv cr, iv er, iv 1, iv 2, .unset, rv ba152, iv 5, .unset] [(.int cr), (.int 5), (.ref ba152)])) (fun t k => XS.iloadN X152.here hx rfl (hb hby at_65) rfl  k) ?_
        refine own_go (b := T152.setTop (mkF m 69 #[iv mr, iv wr, iv pr, iv cr, iv er, iv 1, iv 2, .unset, rv ba152, iv 5, .unset] [(.int 255), (.int cr), (.int 5), (.ref ba152)])) (fun t k => XS.sipush X152.here hx rfl (hb hby at_66) k) ?_
        refine own_go (b := T152.setTop (mkF m 70 #[iv mr, iv wr, iv pr, iv cr, iv er, iv 1, iv 2, .unset, rv ba152, iv 5, .unset] [(.int (cr &&& (255 : Int32))), (.int 5), (.ref ba152)])) (fun t k => XS.iand X152.here hx rfl (hb hby at_69) rfl k) ?_
        refine own_go (b := T152.setTop (mkF m 71 #[iv mr, iv wr, iv pr, iv cr, iv er, iv 1, iv 2, .unset, rv ba152, iv 5, .unset] [(.int ((cr &&& (255 : Int32)).toUInt32.toUInt16.toUInt32.toInt32)), (.int 5), (.ref ba152)])) (fun t k => XS.i2c X152.here hx rfl (hb hby at_70) rfl k) ?_
        obtain ⟨cl180, Ar180, qc180, Sz180, Ng180, Hs180, Ft180⟩ := id Va152
        have hin180 : ¬ ((5 : Int32) < 0 ∨ cl180.slots.size ≤ ((5 : Int32)).toNatClampNeg) := inb_of Sz180 ⟨by decide, by decide⟩
        obtain ⟨T181, h181, X181, e181, W181, st181⟩ := stC X152 hx hZ rfl Ar180 (j := (5 : Int32)) hin180 (g := (mkF m 71 #[iv mr, iv wr, iv pr, iv cr, iv er, iv 1, iv 2, .unset, rv ba152, iv 5, .unset] [(.int ((cr &&& (255 : Int32)).toUInt32.toUInt16.toUInt32.toInt32)), (.int 5), (.ref ba152)])) rfl rfl (hb hby at_71)
        have V_ba152_181 : Arv Z h181 ba152 kc152 .char (7 : Int32) [(.int (nar .char (112 : Int32))), (.int (nar .char (114 : Int32))), (.int (nar .char (111 : Int32))), (.int (nar .char (98 : Int32))), (.int (nar .char (108 : Int32))), (.int (nar .char ((cr &&& (255 : Int32)).toUInt32.toUInt16.toUInt32.toInt32))), (.int (nar .char (109 : Int32)))] (.int (0 : Int32)) := Arv.set Ar180 qc180 Sz180 Ng180 Hs180 Ft180 (fits_nar_char _) W181 5 rfl (Nat.le_of_ble_eq_true rfl)
        have Zs181 : n0 ≤ h181.size := Nat.le_trans Zs152 (Keep.of_wr W181).1
        have N181 := Fr.snoc X181 N152 g_ba152
        have Ol181 := Ol152.wr W181 g_ba152
        refine own_go (b := T181.setTop (mkF m 72 #[iv mr, iv wr, iv pr, iv cr, iv er, iv 1, iv 2, .unset, rv ba152, iv 5, .unset] [])) st181 ?_
        obtain ⟨T182, h182, X182, e182, E182, A182, D182, -, st182⟩ := newO X181 hx hZ hown (hw _ (List.mem_of_getElem? (i := 1) rfl)) (hw _ (List.mem_of_getElem? (i := 2) rfl)) (hw _ (List.mem_of_getElem? (i := 3) rfl)) e181 (g := (mkF m 72 #[iv mr, iv wr, iv pr, iv cr, iv er, iv 1, iv 2, .unset, rv ba152, iv 5, .unset] [])) rfl (hb hby at_72) (by decide) (by decide)
        obtain ⟨b182, g182⟩ : ∃ z, z = h181.size := ⟨_, rfl⟩
        rw [← g182] at A182 D182 st182
        have g_b182 : n0 ≤ b182 := Nat.le_trans Zs181 (Nat.le_of_eq g182.symm)
        have Zs182 : n0 ≤ h182.size := Nat.le_trans Zs181 E182.1
        have Ol182 := Ol181.ext E182
        have F_coder_b182 : Fld Z h182 b182 "java/lang/String" "coder" "B" (.int 0) := D182 (Or.inr (hw _ (List.mem_of_getElem? (i := 32) rfl))) (ty := .byte) (by decide)
        have F_value_b182 : Fld Z h182 b182 "java/lang/String" "value" "[B" .null := D182 (Or.inr (hw _ (List.mem_of_getElem? (i := 34) rfl))) (ty := (.array .byte)) (by decide)
        refine own_go (b := T182.setTop (mkF m 75 #[iv mr, iv wr, iv pr, iv cr, iv er, iv 1, iv 2, .unset, rv ba152, iv 5, .unset] [(.ref b182)])) st182 ?_
        refine own_go (b := T182.setTop (mkF m 76 #[iv mr, iv wr, iv pr, iv cr, iv er, iv 1, iv 2, .unset, rv ba152, iv 5, .unset] [(.ref b182), (.ref b182)])) (fun t k => XS.dup X182.here hx rfl (hb hby at_75) rfl rfl k) ?_
        refine own_go (b := T182.setTop (mkF m 78 #[iv mr, iv wr, iv pr, iv cr, iv er, iv 1, iv 2, .unset, rv ba152, iv 5, .unset] [(.ref ba152), (.ref b182), (.ref b182)])) (fun t k => XS.aload X182.here hx rfl (hb hby at_76) rfl rfl k) ?_
        have hp184 : ∀ c ∈ ([(nar .char (112 : Int32)), (nar .char (114 : Int32)), (nar .char (111 : Int32)), (nar .char (98 : Int32)), (nar .char (108 : Int32)), (nar .char ((cr &&& (255 : Int32)).toUInt32.toUInt16.toUInt32.toInt32)), (nar .char (109 : Int32))] : List Int32), ¬ c < 0 ∧ ¬ (255 : Int32) < c := by
          intro c hc
          simp only [List.mem_cons, List.not_mem_nil, or_false] at hc
          rcases hc with rfl | rfl | rfl | rfl | rfl | rfl | rfl
          · exact (by decide +kernel)
          · exact (by decide +kernel)
          · exact (by decide +kernel)
          · exact (by decide +kernel)
          · exact (by decide +kernel)
          · exact own_and255 cr
          · exact (by decide +kernel)
        obtain ⟨_, _, ⟨T183, L183, k183, n183⟩, -, X183, ⟨Lc183, hQ183, l183, y183, z183⟩, st183⟩ := X182.specialBack hx (y := (⟨"java/lang/String", "<init>", "([C)V"⟩ : MethodName)) rfl hown (mvT hZ (hw _ (List.mem_of_getElem? (i := 9) rfl))) (mvT hZ (hw _ (List.mem_of_getElem? (i := 10) rfl))) (mvT hZ (hw _ (List.mem_of_getElem? (i := 11) rfl))) (by decide) (StrChars.Road.backV (W := 1) hZ hws (kI := 4) (hw _ (List.mem_of_getElem? (i := 2) rfl)) (cs := ([(nar .char (112 : Int32)), (nar .char (114 : Int32)), (nar .char (111 : Int32)), (nar .char (98 : Int32)), (nar .char (108 : Int32)), (nar .char ((cr &&& (255 : Int32)).toUInt32.toUInt16.toUInt32.toInt32)), (nar .char (109 : Int32))] : List Int32)) (bs := (([(nar .char (112 : Int32)), (nar .char (114 : Int32)), (nar .char (111 : Int32)), (nar .char (98 : Int32)), (nar .char (108 : Int32)), (nar .char ((cr &&& (255 : Int32)).toUInt32.toUInt16.toUInt32.toInt32)), (nar .char (109 : Int32))] : List Int32)).map (fun c => c.toInt8.toInt32)) (n := 7) g_b182 Zs182 A182 F_value_b182 F_coder_b182 (V_ba152_181.ext E182) (O2.ext Ol182.2) P5 rfl rfl (by decide) (by decide) hp184 rfl (by decide) (by decide)) (g := (mkF m 78 #[iv mr, iv wr, iv pr, iv cr, iv er, iv 1, iv 2, .unset, rv ba152, iv 5, .unset] [(.ref ba152), (.ref b182), (.ref b182)])) rfl (by rw [hml]; rfl) (Steps.refl _) (a := b182) (argsL := [(.ref ba152)]) (rest := [(.ref b182)]) (lenOf pd_13 rfl) rfl (by show 2 * 0 + _ ≤ _; exact Nat.le_of_eq rfl) (hb hby at_78) (fun _ _ => ⟨rfl, e182, (by decide : 2 + 1 ≤ _), (by decide : 11 + 7 ≤ _)⟩)
        dsimp only [Pt.U, Pt.locs, Pt.cells, Pt.slots] at X183 l183 y183 z183 st183 hQ183
        subst l183 y183 z183
        obtain ⟨rfl, N183q, K183, Es183, Cs183, t183, kb183, ua183, ub183, uc183, Vs183, Ks183⟩ := hQ183
        have Zs183 : n0 ≤ T183.heap.size := Nat.le_trans Zs182 K183.1
        have N183 := Fr.app N181 N183q
        have Ol183 := Ol182.keep K183 (allS g_b182 all0)
        obtain ⟨lq183, X183, N183⟩ : ∃ lq, Stand p l e room_1 (s.setVm s.vm) m #[(.int mr), (.int wr), (.int pr), (.int cr), (.int er)] below meth c T183 lq 3 18 ∧ Fr n0 lq := ⟨_, X183, N183⟩
        refine own_tr (b := T183.setTop (mkF m 81 #[iv mr, iv wr, iv pr, iv cr, iv er, iv 1, iv 2, .unset, rv ba152, iv 5, .unset] [(.ref b182)])) st183 ?_
        refine own_go (b := T183.setTop (mkF m 83 #[iv mr, iv wr, iv pr, iv cr, iv er, iv 1, iv 2, rv b182, rv ba152, iv 5, .unset] [])) (fun t k => XS.astore X183.here hx rfl (hb hby at_81) rfl rfl (l' := #[iv mr, iv wr, iv pr, iv cr, iv er, iv 1, iv 2, rv b182, rv ba152, iv 5, .unset]) rfl k) ?_
        refine own_go (b := T183.setTop (mkF m 155 #[iv mr, iv wr, iv pr, iv cr, iv er, iv 1, iv 2, rv b182, rv ba152, iv 5, .unset] [])) (fun t k => XS.goto X183.here hx rfl (pc0 := 83) (pc' := 155) rfl (hb hby at_83) (by decide) (by decide) k) ?_
        exact J155 T183 T183.heap _ s.vm _ (1 : Int32) (2 : Int32) b182 ([(nar .char (112 : Int32)), (nar .char (114 : Int32)), (nar .char (111 : Int32)), (nar .char (98 : Int32)), (nar .char (108 : Int32)), (nar .char ((cr &&& (255 : Int32)).toUInt32.toUInt16.toUInt32.toInt32)), (nar .char (109 : Int32))] : List Int32) (rv ba152) (iv 5) (own_mono X183 (by decide) (by decide)) rfl N183 Zs183 Ol183 hS0 ((((Le0.keep K152).wr W181).ext E182).keep K183) hZ hown (own_IBm I0 rfl (by simp)) ⟨t183, _, Es183, Vs183, Cs183, Ks183, hp184, (Nat.le_of_ble_eq_true rfl)⟩ (Or.inr ⟨_, rfl, rfl⟩) (Or.inr ⟨_, rfl, rfl⟩)
      | 6, _, hX154 =>
        replace hX154 : ((pr &&& (2147483647 : Int32)) % (7 : Int32)) = (6 : Int32) := hX154
        rw [hX154]
        refine own_go (b := T152.setTop (mkF m 63 #[iv mr, iv wr, iv pr, iv cr, iv er, iv 1, iv 2, .unset, rv ba152, iv 6, .unset] [(.ref ba152)])) (fun t k => XS.aload X152.here hx rfl (hb hby at_61) rfl rfl k) ?_
        refine own_go (b := T152.setTop (mkF m 65 #[iv mr, iv wr, iv pr, iv cr, iv er, iv 1, iv 2, .unset, rv ba152, iv 6, .unset] [(.int 6), (.ref ba152)])) (fun t k => XS.iload X152.here hx rfl (hb hby at_63) rfl  k) ?_
        refine own_go (b := T152.setTop (mkF m 66 #[iv mr, iv wr, iv pr, iv cr, iv er, iv 1, iv 2, .unset, rv ba152, iv 6, .unset] [(.int cr), (.int 6), (.ref ba152)])) (fun t k => XS.iloadN X152.here hx rfl (hb hby at_65) rfl  k) ?_
        refine own_go (b := T152.setTop (mkF m 69 #[iv mr, iv wr, iv pr, iv cr, iv er, iv 1, iv 2, .unset, rv ba152, iv 6, .unset] [(.int 255), (.int cr), (.int 6), (.ref ba152)])) (fun t k => XS.sipush X152.here hx rfl (hb hby at_66) k) ?_
        refine own_go (b := T152.setTop (mkF m 70 #[iv mr, iv wr, iv pr, iv cr, iv er, iv 1, iv 2, .unset, rv ba152, iv 6, .unset] [(.int (cr &&& (255 : Int32))), (.int 6), (.ref ba152)])) (fun t k => XS.iand X152.here hx rfl (hb hby at_69) rfl k) ?_
        refine own_go (b := T152.setTop (mkF m 71 #[iv mr, iv wr, iv pr, iv cr, iv er, iv 1, iv 2, .unset, rv ba152, iv 6, .unset] [(.int ((cr &&& (255 : Int32)).toUInt32.toUInt16.toUInt32.toInt32)), (.int 6), (.ref ba152)])) (fun t k => XS.i2c X152.here hx rfl (hb hby at_70) rfl k) ?_
        obtain ⟨cl185, Ar185, qc185, Sz185, Ng185, Hs185, Ft185⟩ := id Va152
        have hin185 : ¬ ((6 : Int32) < 0 ∨ cl185.slots.size ≤ ((6 : Int32)).toNatClampNeg) := inb_of Sz185 ⟨by decide, by decide⟩
        obtain ⟨T186, h186, X186, e186, W186, st186⟩ := stC X152 hx hZ rfl Ar185 (j := (6 : Int32)) hin185 (g := (mkF m 71 #[iv mr, iv wr, iv pr, iv cr, iv er, iv 1, iv 2, .unset, rv ba152, iv 6, .unset] [(.int ((cr &&& (255 : Int32)).toUInt32.toUInt16.toUInt32.toInt32)), (.int 6), (.ref ba152)])) rfl rfl (hb hby at_71)
        have V_ba152_186 : Arv Z h186 ba152 kc152 .char (7 : Int32) [(.int (nar .char (112 : Int32))), (.int (nar .char (114 : Int32))), (.int (nar .char (111 : Int32))), (.int (nar .char (98 : Int32))), (.int (nar .char (108 : Int32))), (.int (nar .char (101 : Int32))), (.int (nar .char ((cr &&& (255 : Int32)).toUInt32.toUInt16.toUInt32.toInt32)))] (.int (0 : Int32)) := Arv.set Ar185 qc185 Sz185 Ng185 Hs185 Ft185 (fits_nar_char _) W186 6 rfl (Nat.le_of_ble_eq_true rfl)
        have Zs186 : n0 ≤ h186.size := Nat.le_trans Zs152 (Keep.of_wr W186).1
        have N186 := Fr.snoc X186 N152 g_ba152
        have Ol186 := Ol152.wr W186 g_ba152
        refine own_go (b := T186.setTop (mkF m 72 #[iv mr, iv wr, iv pr, iv cr, iv er, iv 1, iv 2, .unset, rv ba152, iv 6, .unset] [])) st186 ?_
        obtain ⟨T187, h187, X187, e187, E187, A187, D187, -, st187⟩ := newO X186 hx hZ hown (hw _ (List.mem_of_getElem? (i := 1) rfl)) (hw _ (List.mem_of_getElem? (i := 2) rfl)) (hw _ (List.mem_of_getElem? (i := 3) rfl)) e186 (g := (mkF m 72 #[iv mr, iv wr, iv pr, iv cr, iv er, iv 1, iv 2, .unset, rv ba152, iv 6, .unset] [])) rfl (hb hby at_72) (by decide) (by decide)
        obtain ⟨b187, g187⟩ : ∃ z, z = h186.size := ⟨_, rfl⟩
        rw [← g187] at A187 D187 st187
        have g_b187 : n0 ≤ b187 := Nat.le_trans Zs186 (Nat.le_of_eq g187.symm)
        have Zs187 : n0 ≤ h187.size := Nat.le_trans Zs186 E187.1
        have Ol187 := Ol186.ext E187
        have F_coder_b187 : Fld Z h187 b187 "java/lang/String" "coder" "B" (.int 0) := D187 (Or.inr (hw _ (List.mem_of_getElem? (i := 32) rfl))) (ty := .byte) (by decide)
        have F_value_b187 : Fld Z h187 b187 "java/lang/String" "value" "[B" .null := D187 (Or.inr (hw _ (List.mem_of_getElem? (i := 34) rfl))) (ty := (.array .byte)) (by decide)
        refine own_go (b := T187.setTop (mkF m 75 #[iv mr, iv wr, iv pr, iv cr, iv er, iv 1, iv 2, .unset, rv ba152, iv 6, .unset] [(.ref b187)])) st187 ?_
        refine own_go (b := T187.setTop (mkF m 76 #[iv mr, iv wr, iv pr, iv cr, iv er, iv 1, iv 2, .unset, rv ba152, iv 6, .unset] [(.ref b187), (.ref b187)])) (fun t k => XS.dup X187.here hx rfl (hb hby at_75) rfl rfl k) ?_
        refine own_go (b := T187.setTop (mkF m 78 #[iv mr, iv wr, iv pr, iv cr, iv er, iv 1, iv 2, .unset, rv ba152, iv 6, .unset] [(.ref ba152), (.ref b187), (.ref b187)])) (fun t k => XS.aload X187.here hx rfl (hb hby at_76) rfl rfl k) ?_
        have hp189 : ∀ c ∈ ([(nar .char (112 : Int32)), (nar .char (114 : Int32)), (nar .char (111 : Int32)), (nar .char (98 : Int32)), (nar .char (108 : Int32)), (nar .char (101 : Int32)), (nar .char ((cr &&& (255 : Int32)).toUInt32.toUInt16.toUInt32.toInt32))] : List Int32), ¬ c < 0 ∧ ¬ (255 : Int32) < c := by
          intro c hc
          simp only [List.mem_cons, List.not_mem_nil, or_false] at hc
          rcases hc with rfl | rfl | rfl | rfl | rfl | rfl | rfl
          · exact (by decide +kernel)
          · exact (by decide +kernel)
          · exact (by decide +kernel)
          · exact (by decide +kernel)
          · exact (by decide +kernel)
          · exact (by decide +kernel)
          · exact own_and255 cr
        obtain ⟨_, _, ⟨T188, L188, k188, n188⟩, -, X188, ⟨Lc188, hQ188, l188, y188, z188⟩, st188⟩ := X187.specialBack hx (y := (⟨"java/lang/String", "<init>", "([C)V"⟩ : MethodName)) rfl hown (mvT hZ (hw _ (List.mem_of_getElem? (i := 9) rfl))) (mvT hZ (hw _ (List.mem_of_getElem? (i := 10) rfl))) (mvT hZ (hw _ (List.mem_of_getElem? (i := 11) rfl))) (by decide) (StrChars.Road.backV (W := 1) hZ hws (kI := 4) (hw _ (List.mem_of_getElem? (i := 2) rfl)) (cs := ([(nar .char (112 : Int32)), (nar .char (114 : Int32)), (nar .char (111 : Int32)), (nar .char (98 : Int32)), (nar .char (108 : Int32)), (nar .char (101 : Int32)), (nar .char ((cr &&& (255 : Int32)).toUInt32.toUInt16.toUInt32.toInt32))] : List Int32)) (bs := (([(nar .char (112 : Int32)), (nar .char (114 : Int32)), (nar .char (111 : Int32)), (nar .char (98 : Int32)), (nar .char (108 : Int32)), (nar .char (101 : Int32)), (nar .char ((cr &&& (255 : Int32)).toUInt32.toUInt16.toUInt32.toInt32))] : List Int32)).map (fun c => c.toInt8.toInt32)) (n := 7) g_b187 Zs187 A187 F_value_b187 F_coder_b187 (V_ba152_186.ext E187) (O2.ext Ol187.2) P5 rfl rfl (by decide) (by decide) hp189 rfl (by decide) (by decide)) (g := (mkF m 78 #[iv mr, iv wr, iv pr, iv cr, iv er, iv 1, iv 2, .unset, rv ba152, iv 6, .unset] [(.ref ba152), (.ref b187), (.ref b187)])) rfl (by rw [hml]; rfl) (Steps.refl _) (a := b187) (argsL := [(.ref ba152)]) (rest := [(.ref b187)]) (lenOf pd_13 rfl) rfl (by show 2 * 0 + _ ≤ _; exact Nat.le_of_eq rfl) (hb hby at_78) (fun _ _ => ⟨rfl, e187, (by decide : 2 + 1 ≤ _), (by decide : 11 + 7 ≤ _)⟩)
        dsimp only [Pt.U, Pt.locs, Pt.cells, Pt.slots] at X188 l188 y188 z188 st188 hQ188
        subst l188 y188 z188
        obtain ⟨rfl, N188q, K188, Es188, Cs188, t188, kb188, ua188, ub188, uc188, Vs188, Ks188⟩ := hQ188
        have Zs188 : n0 ≤ T188.heap.size := Nat.le_trans Zs187 K188.1
        have N188 := Fr.app N186 N188q
        have Ol188 := Ol187.keep K188 (allS g_b187 all0)
        obtain ⟨lq188, X188, N188⟩ : ∃ lq, Stand p l e room_1 (s.setVm s.vm) m #[(.int mr), (.int wr), (.int pr), (.int cr), (.int er)] below meth c T188 lq 3 18 ∧ Fr n0 lq := ⟨_, X188, N188⟩
        refine own_tr (b := T188.setTop (mkF m 81 #[iv mr, iv wr, iv pr, iv cr, iv er, iv 1, iv 2, .unset, rv ba152, iv 6, .unset] [(.ref b187)])) st188 ?_
        refine own_go (b := T188.setTop (mkF m 83 #[iv mr, iv wr, iv pr, iv cr, iv er, iv 1, iv 2, rv b187, rv ba152, iv 6, .unset] [])) (fun t k => XS.astore X188.here hx rfl (hb hby at_81) rfl rfl (l' := #[iv mr, iv wr, iv pr, iv cr, iv er, iv 1, iv 2, rv b187, rv ba152, iv 6, .unset]) rfl k) ?_
        refine own_go (b := T188.setTop (mkF m 155 #[iv mr, iv wr, iv pr, iv cr, iv er, iv 1, iv 2, rv b187, rv ba152, iv 6, .unset] [])) (fun t k => XS.goto X188.here hx rfl (pc0 := 83) (pc' := 155) rfl (hb hby at_83) (by decide) (by decide) k) ?_
        exact J155 T188 T188.heap _ s.vm _ (1 : Int32) (2 : Int32) b187 ([(nar .char (112 : Int32)), (nar .char (114 : Int32)), (nar .char (111 : Int32)), (nar .char (98 : Int32)), (nar .char (108 : Int32)), (nar .char (101 : Int32)), (nar .char ((cr &&& (255 : Int32)).toUInt32.toUInt16.toUInt32.toInt32))] : List Int32) (rv ba152) (iv 6) (own_mono X188 (by decide) (by decide)) rfl N188 Zs188 Ol188 hS0 ((((Le0.keep K152).wr W186).ext E187).keep K188) hZ hown (own_IBm I0 rfl (by simp)) ⟨t188, _, Es188, Vs188, Cs188, Ks188, hp189, (Nat.le_of_ble_eq_true rfl)⟩ (Or.inr ⟨_, rfl, rfl⟩) (Or.inr ⟨_, rfl, rfl⟩)
      | j + 7, h, _ => omega
    | j + 3, h, _ => omega
  | 2, _, hX16 =>
    replace hX16 : ((mr &&& (2147483647 : Int32)) % (5 : Int32)) = (2 : Int32) := hX16
    rw [hX16]
    refine own_go (b := s₁.setTop (mkF m 18 #[iv mr, iv wr, iv pr, iv cr, iv er, iv 2, iv ((wr &&& (2147483647 : Int32)) % (3 : Int32)), .unset, .unset, .unset, .unset] [(.int 2)])) (fun t k => XS.iload X0.here hx rfl (hb hby at_16) rfl  k) ?_
    refine own_go (b := s₁.setTop (mkF m 38 #[iv mr, iv wr, iv pr, iv cr, iv er, iv 2, iv ((wr &&& (2147483647 : Int32)) % (3 : Int32)), .unset, .unset, .unset, .unset] [])) (fun t k => XS.ifYes X0.here hx rfl (pc0 := 18) (pc' := 38) rfl (hb hby at_18) rfl ((if0 _ _).trans (feq (by decide : ¬ ((2 : Int32) = (0 : Int32)))).2) (by decide) (by decide) k) ?_
    refine own_go (b := s₁.setTop (mkF m 40 #[iv mr, iv wr, iv pr, iv cr, iv er, iv 2, iv ((wr &&& (2147483647 : Int32)) % (3 : Int32)), .unset, .unset, .unset, .unset] [(.int 2)])) (fun t k => XS.iload X0.here hx rfl (hb hby at_38) rfl  k) ?_
    refine own_go (b := s₁.setTop (mkF m 41 #[iv mr, iv wr, iv pr, iv cr, iv er, iv 2, iv ((wr &&& (2147483647 : Int32)) % (3 : Int32)), .unset, .unset, .unset, .unset] [(.int 1), (.int 2)])) (fun t k => XS.iconst X0.here hx rfl (hb hby at_40) k) ?_
    refine own_go (b := s₁.setTop (mkF m 86 #[iv mr, iv wr, iv pr, iv cr, iv er, iv 2, iv ((wr &&& (2147483647 : Int32)) % (3 : Int32)), .unset, .unset, .unset, .unset] [])) (fun t k => XS.icmpYes X0.here hx rfl (pc0 := 41) (pc' := 86) rfl (hb hby at_41) rfl (feq (by decide : ¬ ((2 : Int32) = (1 : Int32)))).2 (by decide) (by decide) k) ?_
    refine own_go (b := s₁.setTop (mkF m 88 #[iv mr, iv wr, iv pr, iv cr, iv er, iv 2, iv ((wr &&& (2147483647 : Int32)) % (3 : Int32)), .unset, .unset, .unset, .unset] [(.int 2)])) (fun t k => XS.iload X0.here hx rfl (hb hby at_86) rfl  k) ?_
    refine own_go (b := s₁.setTop (mkF m 89 #[iv mr, iv wr, iv pr, iv cr, iv er, iv 2, iv ((wr &&& (2147483647 : Int32)) % (3 : Int32)), .unset, .unset, .unset, .unset] [(.int 2), (.int 2)])) (fun t k => XS.iconst X0.here hx rfl (hb hby at_88) k) ?_
    refine own_go (b := s₁.setTop (mkF m 92 #[iv mr, iv wr, iv pr, iv cr, iv er, iv 2, iv ((wr &&& (2147483647 : Int32)) % (3 : Int32)), .unset, .unset, .unset, .unset] [])) (fun t k => XS.icmpNo X0.here hx rfl (hb hby at_89) rfl (teq (rfl : (2 : Int32) = (2 : Int32))).2 k) ?_
    obtain ⟨js190, hj190, hX190⟩ := own_r3 wr
    match js190, hj190, hX190 with
    | 0, _, hX190 =>
      replace hX190 : ((wr &&& (2147483647 : Int32)) % (3 : Int32)) = (0 : Int32) := hX190
      rw [hX190]
      obtain ⟨T191, h191, X191, e191, E191, A191, D191, -, st191⟩ := newO X0 hx hZ hown (hw _ (List.mem_of_getElem? (i := 1) rfl)) (hw _ (List.mem_of_getElem? (i := 2) rfl)) (hw _ (List.mem_of_getElem? (i := 3) rfl)) e0 (g := (mkF m 92 #[iv mr, iv wr, iv pr, iv cr, iv er, iv 2, iv 0, .unset, .unset, .unset, .unset] [])) rfl (hb hby at_92) (by decide) (by decide)
      obtain ⟨b191, g191⟩ : ∃ z, z = h0.size := ⟨_, rfl⟩
      rw [← g191] at A191 D191 st191
      have g_b191 : n0 ≤ b191 := Nat.le_trans Z0 (Nat.le_of_eq g191.symm)
      have Zs191 : n0 ≤ h191.size := Nat.le_trans Z0 E191.1
      have Ol191 := Od.ext E191
      have F_coder_b191 : Fld Z h191 b191 "java/lang/String" "coder" "B" (.int 0) := D191 (Or.inr (hw _ (List.mem_of_getElem? (i := 32) rfl))) (ty := .byte) (by decide)
      have F_value_b191 : Fld Z h191 b191 "java/lang/String" "value" "[B" .null := D191 (Or.inr (hw _ (List.mem_of_getElem? (i := 34) rfl))) (ty := (.array .byte)) (by decide)
      refine own_go (b := T191.setTop (mkF m 95 #[iv mr, iv wr, iv pr, iv cr, iv er, iv 2, iv 0, .unset, .unset, .unset, .unset] [(.ref b191)])) st191 ?_
      refine own_go (b := T191.setTop (mkF m 96 #[iv mr, iv wr, iv pr, iv cr, iv er, iv 2, iv 0, .unset, .unset, .unset, .unset] [(.ref b191), (.ref b191)])) (fun t k => XS.dup X191.here hx rfl (hb hby at_95) rfl rfl k) ?_
      refine own_go (b := T191.setTop (mkF m 98 #[iv mr, iv wr, iv pr, iv cr, iv er, iv 2, iv 0, .unset, .unset, .unset, .unset] [(.int 0), (.ref b191), (.ref b191)])) (fun t k => XS.iload X191.here hx rfl (hb hby at_96) rfl  k) ?_
      refine own_go (b := T191.setTop (mkF m 99 #[iv mr, iv wr, iv pr, iv cr, iv er, iv 2, iv 0, .unset, .unset, .unset, .unset] [(.int cr), (.int 0), (.ref b191), (.ref b191)])) (fun t k => XS.iloadN X191.here hx rfl (hb hby at_98) rfl  k) ?_
      refine own_go (b := T191.setTop (mkF m 102 #[iv mr, iv wr, iv pr, iv cr, iv er, iv 2, iv 0, .unset, .unset, .unset, .unset] [(.int 255), (.int cr), (.int 0), (.ref b191), (.ref b191)])) (fun t k => XS.sipush X191.here hx rfl (hb hby at_99) k) ?_
      refine own_go (b := T191.setTop (mkF m 103 #[iv mr, iv wr, iv pr, iv cr, iv er, iv 2, iv 0, .unset, .unset, .unset, .unset] [(.int (cr &&& (255 : Int32))), (.int 0), (.ref b191), (.ref b191)])) (fun t k => XS.iand X191.here hx rfl (hb hby at_102) rfl k) ?_
      refine own_go (b := T191.setTop (mkF m 104 #[iv mr, iv wr, iv pr, iv cr, iv er, iv 2, iv 0, .unset, .unset, .unset, .unset] [(.int ((cr &&& (255 : Int32)).toUInt32.toUInt16.toUInt32.toInt32)), (.int 0), (.ref b191), (.ref b191)])) (fun t k => XS.i2c X191.here hx rfl (hb hby at_103) rfl k) ?_
      obtain ⟨_, _, ⟨T192, L192, k192, n192⟩, -, X192, ⟨Lc192, hQ192, l192, y192, z192⟩, st192⟩ := Jvm.LawKit.callS X191 hx (y := (⟨"com/example/fault/fault/EnvelopeNamedPinLaw", "longer", "(IC)[C"⟩ : MethodName)) hown (mvT hZ (hw _ (List.mem_of_getElem? (i := 113) rfl))) (mvT hZ (hw _ (List.mem_of_getElem? (i := 114) rfl))) (mvT hZ (hw _ (List.mem_of_getElem? (i := 6) rfl))) (mvT hZ (hw _ (List.mem_of_getElem? (i := 115) rfl))) (by decide) (backOf (W := 2) (rm20_0 l Z a0 hw [] (0 : Int32) ((cr &&& (255 : Int32)).toUInt32.toUInt16.toUInt32.toInt32)  h191 n0 Zs191 rfl) hZ (hw _ (List.mem_of_getElem? (i := 115) rfl)) (hw _ (List.mem_of_getElem? (i := 6) rfl)) (by decide) (by decide)) (g := (mkF m 104 #[iv mr, iv wr, iv pr, iv cr, iv er, iv 2, iv 0, .unset, .unset, .unset, .unset] [(.int ((cr &&& (255 : Int32)).toUInt32.toUInt16.toUInt32.toInt32)), (.int 0), (.ref b191), (.ref b191)])) rfl (by rw [hml]; rfl) (argsL := [(.int 0), (.int ((cr &&& (255 : Int32)).toUInt32.toUInt16.toUInt32.toInt32))]) (rest := [(.ref b191), (.ref b191)]) (lenOf pd_14 rfl) rfl (by show 2 * 0 + _ ≤ _; exact Nat.le_of_eq rfl) (hb hby at_104) (fun _ _ => ⟨rfl, e191, (by decide : 1 + 1 ≤ _), (by decide : 4 + 12 ≤ _)⟩)
      dsimp only [Pt.U, Pt.locs, Pt.cells, Pt.slots] at X192 l192 y192 z192 st192 hQ192
      subst l192 y192 z192
      obtain ⟨ba192, kc192, rfl, N192q, K192, g_ba192, sz_ba192, Va192⟩ := hQ192
      have Zs192 : n0 ≤ T192.heap.size := Nat.le_trans Zs191 K192.1
      have N192 := Fr.app N0 N192q
      have Ol192 := Ol191.keep K192 all0
      obtain ⟨lq192, X192, N192⟩ : ∃ lq, Stand p l e room_1 (s.setVm s.vm) m #[(.int mr), (.int wr), (.int pr), (.int cr), (.int er)] below meth c T192 lq 2 16 ∧ Fr n0 lq := ⟨_, X192, N192⟩
      refine own_go (b := T192.setTop (mkF m 107 #[iv mr, iv wr, iv pr, iv cr, iv er, iv 2, iv 0, .unset, .unset, .unset, .unset] [(.ref ba192), (.ref b191), (.ref b191)])) st192 ?_
      have hp194 : ∀ c ∈ ([(nar .char (101 : Int32)), (nar .char (114 : Int32)), (nar .char (114 : Int32)), (nar .char (111 : Int32)), (nar .char (114 : Int32)), (nar .char (115 : Int32)), (nar .char (45 : Int32)), (nar .char (108 : Int32)), (nar .char (105 : Int32)), (nar .char (115 : Int32)), (nar .char (116 : Int32)), (nar .char ((cr &&& (255 : Int32)).toUInt32.toUInt16.toUInt32.toInt32))] : List Int32), ¬ c < 0 ∧ ¬ (255 : Int32) < c := by
        intro c hc
        simp only [List.mem_cons, List.not_mem_nil, or_false] at hc
        rcases hc with rfl | rfl | rfl | rfl | rfl | rfl | rfl | rfl | rfl | rfl | rfl | rfl
        · exact (by decide +kernel)
        · exact (by decide +kernel)
        · exact (by decide +kernel)
        · exact (by decide +kernel)
        · exact (by decide +kernel)
        · exact (by decide +kernel)
        · exact (by decide +kernel)
        · exact (by decide +kernel)
        · exact (by decide +kernel)
        · exact (by decide +kernel)
        · exact (by decide +kernel)
        · exact own_and255 cr
      obtain ⟨_, _, ⟨T193, L193, k193, n193⟩, -, X193, ⟨Lc193, hQ193, l193, y193, z193⟩, st193⟩ := X192.specialBack hx (y := (⟨"java/lang/String", "<init>", "([C)V"⟩ : MethodName)) rfl hown (mvT hZ (hw _ (List.mem_of_getElem? (i := 9) rfl))) (mvT hZ (hw _ (List.mem_of_getElem? (i := 10) rfl))) (mvT hZ (hw _ (List.mem_of_getElem? (i := 11) rfl))) (by decide) (StrChars.Road.backV (W := 1) hZ hws (kI := 4) (hw _ (List.mem_of_getElem? (i := 2) rfl)) (cs := ([(nar .char (101 : Int32)), (nar .char (114 : Int32)), (nar .char (114 : Int32)), (nar .char (111 : Int32)), (nar .char (114 : Int32)), (nar .char (115 : Int32)), (nar .char (45 : Int32)), (nar .char (108 : Int32)), (nar .char (105 : Int32)), (nar .char (115 : Int32)), (nar .char (116 : Int32)), (nar .char ((cr &&& (255 : Int32)).toUInt32.toUInt16.toUInt32.toInt32))] : List Int32)) (bs := (([(nar .char (101 : Int32)), (nar .char (114 : Int32)), (nar .char (114 : Int32)), (nar .char (111 : Int32)), (nar .char (114 : Int32)), (nar .char (115 : Int32)), (nar .char (45 : Int32)), (nar .char (108 : Int32)), (nar .char (105 : Int32)), (nar .char (115 : Int32)), (nar .char (116 : Int32)), (nar .char ((cr &&& (255 : Int32)).toUInt32.toUInt16.toUInt32.toInt32))] : List Int32)).map (fun c => c.toInt8.toInt32)) (n := 12) g_b191 Zs192 (A191.keep K192) (F_value_b191.keep K192 nin0) (F_coder_b191.keep K192 nin0) Va192 (O2.ext Ol192.2) P5 rfl rfl (by decide) (by decide) hp194 rfl (by decide) (by decide)) (g := (mkF m 107 #[iv mr, iv wr, iv pr, iv cr, iv er, iv 2, iv 0, .unset, .unset, .unset, .unset] [(.ref ba192), (.ref b191), (.ref b191)])) rfl (by rw [hml]; rfl) (Steps.refl _) (a := b191) (argsL := [(.ref ba192)]) (rest := [(.ref b191)]) (lenOf pd_13 rfl) rfl (by show 2 * 0 + _ ≤ _; exact Nat.le_of_eq rfl) (hb hby at_107) (fun _ _ => ⟨rfl, rfl, (by decide : 2 + 1 ≤ _), (by decide : 16 + 12 ≤ _)⟩)
      dsimp only [Pt.U, Pt.locs, Pt.cells, Pt.slots] at X193 l193 y193 z193 st193 hQ193
      subst l193 y193 z193
      obtain ⟨rfl, N193q, K193, Es193, Cs193, t193, kb193, ua193, ub193, uc193, Vs193, Ks193⟩ := hQ193
      have Zs193 : n0 ≤ T193.heap.size := Nat.le_trans Zs192 K193.1
      have N193 := Fr.app N192 N193q
      have Ol193 := Ol192.keep K193 (allS g_b191 all0)
      obtain ⟨lq193, X193, N193⟩ : ∃ lq, Stand p l e room_1 (s.setVm s.vm) m #[(.int mr), (.int wr), (.int pr), (.int cr), (.int er)] below meth c T193 lq 3 28 ∧ Fr n0 lq := ⟨_, X193, N193⟩
      refine own_tr (b := T193.setTop (mkF m 110 #[iv mr, iv wr, iv pr, iv cr, iv er, iv 2, iv 0, .unset, .unset, .unset, .unset] [(.ref b191)])) st193 ?_
      refine own_go (b := T193.setTop (mkF m 112 #[iv mr, iv wr, iv pr, iv cr, iv er, iv 2, iv 0, rv b191, .unset, .unset, .unset] [])) (fun t k => XS.astore X193.here hx rfl (hb hby at_110) rfl rfl (l' := #[iv mr, iv wr, iv pr, iv cr, iv er, iv 2, iv 0, rv b191, .unset, .unset, .unset]) rfl k) ?_
      refine own_go (b := T193.setTop (mkF m 155 #[iv mr, iv wr, iv pr, iv cr, iv er, iv 2, iv 0, rv b191, .unset, .unset, .unset] [])) (fun t k => XS.goto X193.here hx rfl (pc0 := 112) (pc' := 155) rfl (hb hby at_112) (by decide) (by decide) k) ?_
      exact J155 T193 T193.heap _ s.vm _ (2 : Int32) (0 : Int32) b191 ([(nar .char (101 : Int32)), (nar .char (114 : Int32)), (nar .char (114 : Int32)), (nar .char (111 : Int32)), (nar .char (114 : Int32)), (nar .char (115 : Int32)), (nar .char (45 : Int32)), (nar .char (108 : Int32)), (nar .char (105 : Int32)), (nar .char (115 : Int32)), (nar .char (116 : Int32)), (nar .char ((cr &&& (255 : Int32)).toUInt32.toUInt16.toUInt32.toInt32))] : List Int32) (.unset) (.unset) (own_mono X193 (by decide) (by decide)) rfl N193 Zs193 Ol193 hS0 (((Le0.ext E191).keep K192).keep K193) hZ hown (own_IBm I0 rfl (by simp)) ⟨t193, _, Es193, Vs193, Cs193, Ks193, hp194, (Nat.le_of_ble_eq_true rfl)⟩ (Or.inl rfl) (Or.inl rfl)
    | 1, _, hX190 =>
      replace hX190 : ((wr &&& (2147483647 : Int32)) % (3 : Int32)) = (1 : Int32) := hX190
      rw [hX190]
      obtain ⟨T195, h195, X195, e195, E195, A195, D195, -, st195⟩ := newO X0 hx hZ hown (hw _ (List.mem_of_getElem? (i := 1) rfl)) (hw _ (List.mem_of_getElem? (i := 2) rfl)) (hw _ (List.mem_of_getElem? (i := 3) rfl)) e0 (g := (mkF m 92 #[iv mr, iv wr, iv pr, iv cr, iv er, iv 2, iv 1, .unset, .unset, .unset, .unset] [])) rfl (hb hby at_92) (by decide) (by decide)
      obtain ⟨b195, g195⟩ : ∃ z, z = h0.size := ⟨_, rfl⟩
      rw [← g195] at A195 D195 st195
      have g_b195 : n0 ≤ b195 := Nat.le_trans Z0 (Nat.le_of_eq g195.symm)
      have Zs195 : n0 ≤ h195.size := Nat.le_trans Z0 E195.1
      have Ol195 := Od.ext E195
      have F_coder_b195 : Fld Z h195 b195 "java/lang/String" "coder" "B" (.int 0) := D195 (Or.inr (hw _ (List.mem_of_getElem? (i := 32) rfl))) (ty := .byte) (by decide)
      have F_value_b195 : Fld Z h195 b195 "java/lang/String" "value" "[B" .null := D195 (Or.inr (hw _ (List.mem_of_getElem? (i := 34) rfl))) (ty := (.array .byte)) (by decide)
      refine own_go (b := T195.setTop (mkF m 95 #[iv mr, iv wr, iv pr, iv cr, iv er, iv 2, iv 1, .unset, .unset, .unset, .unset] [(.ref b195)])) st195 ?_
      refine own_go (b := T195.setTop (mkF m 96 #[iv mr, iv wr, iv pr, iv cr, iv er, iv 2, iv 1, .unset, .unset, .unset, .unset] [(.ref b195), (.ref b195)])) (fun t k => XS.dup X195.here hx rfl (hb hby at_95) rfl rfl k) ?_
      refine own_go (b := T195.setTop (mkF m 98 #[iv mr, iv wr, iv pr, iv cr, iv er, iv 2, iv 1, .unset, .unset, .unset, .unset] [(.int 1), (.ref b195), (.ref b195)])) (fun t k => XS.iload X195.here hx rfl (hb hby at_96) rfl  k) ?_
      refine own_go (b := T195.setTop (mkF m 99 #[iv mr, iv wr, iv pr, iv cr, iv er, iv 2, iv 1, .unset, .unset, .unset, .unset] [(.int cr), (.int 1), (.ref b195), (.ref b195)])) (fun t k => XS.iloadN X195.here hx rfl (hb hby at_98) rfl  k) ?_
      refine own_go (b := T195.setTop (mkF m 102 #[iv mr, iv wr, iv pr, iv cr, iv er, iv 2, iv 1, .unset, .unset, .unset, .unset] [(.int 255), (.int cr), (.int 1), (.ref b195), (.ref b195)])) (fun t k => XS.sipush X195.here hx rfl (hb hby at_99) k) ?_
      refine own_go (b := T195.setTop (mkF m 103 #[iv mr, iv wr, iv pr, iv cr, iv er, iv 2, iv 1, .unset, .unset, .unset, .unset] [(.int (cr &&& (255 : Int32))), (.int 1), (.ref b195), (.ref b195)])) (fun t k => XS.iand X195.here hx rfl (hb hby at_102) rfl k) ?_
      refine own_go (b := T195.setTop (mkF m 104 #[iv mr, iv wr, iv pr, iv cr, iv er, iv 2, iv 1, .unset, .unset, .unset, .unset] [(.int ((cr &&& (255 : Int32)).toUInt32.toUInt16.toUInt32.toInt32)), (.int 1), (.ref b195), (.ref b195)])) (fun t k => XS.i2c X195.here hx rfl (hb hby at_103) rfl k) ?_
      obtain ⟨_, _, ⟨T196, L196, k196, n196⟩, -, X196, ⟨Lc196, hQ196, l196, y196, z196⟩, st196⟩ := Jvm.LawKit.callS X195 hx (y := (⟨"com/example/fault/fault/EnvelopeNamedPinLaw", "longer", "(IC)[C"⟩ : MethodName)) hown (mvT hZ (hw _ (List.mem_of_getElem? (i := 113) rfl))) (mvT hZ (hw _ (List.mem_of_getElem? (i := 114) rfl))) (mvT hZ (hw _ (List.mem_of_getElem? (i := 6) rfl))) (mvT hZ (hw _ (List.mem_of_getElem? (i := 115) rfl))) (by decide) (backOf (W := 2) (rm20_1 l Z a0 hw [] (1 : Int32) ((cr &&& (255 : Int32)).toUInt32.toUInt16.toUInt32.toInt32)  h195 n0 Zs195 rfl) hZ (hw _ (List.mem_of_getElem? (i := 115) rfl)) (hw _ (List.mem_of_getElem? (i := 6) rfl)) (by decide) (by decide)) (g := (mkF m 104 #[iv mr, iv wr, iv pr, iv cr, iv er, iv 2, iv 1, .unset, .unset, .unset, .unset] [(.int ((cr &&& (255 : Int32)).toUInt32.toUInt16.toUInt32.toInt32)), (.int 1), (.ref b195), (.ref b195)])) rfl (by rw [hml]; rfl) (argsL := [(.int 1), (.int ((cr &&& (255 : Int32)).toUInt32.toUInt16.toUInt32.toInt32))]) (rest := [(.ref b195), (.ref b195)]) (lenOf pd_14 rfl) rfl (by show 2 * 0 + _ ≤ _; exact Nat.le_of_eq rfl) (hb hby at_104) (fun _ _ => ⟨rfl, e195, (by decide : 1 + 1 ≤ _), (by decide : 4 + 13 ≤ _)⟩)
      dsimp only [Pt.U, Pt.locs, Pt.cells, Pt.slots] at X196 l196 y196 z196 st196 hQ196
      subst l196 y196 z196
      obtain ⟨ba196, kc196, rfl, N196q, K196, g_ba196, sz_ba196, Va196⟩ := hQ196
      have Zs196 : n0 ≤ T196.heap.size := Nat.le_trans Zs195 K196.1
      have N196 := Fr.app N0 N196q
      have Ol196 := Ol195.keep K196 all0
      obtain ⟨lq196, X196, N196⟩ : ∃ lq, Stand p l e room_1 (s.setVm s.vm) m #[(.int mr), (.int wr), (.int pr), (.int cr), (.int er)] below meth c T196 lq 2 17 ∧ Fr n0 lq := ⟨_, X196, N196⟩
      refine own_go (b := T196.setTop (mkF m 107 #[iv mr, iv wr, iv pr, iv cr, iv er, iv 2, iv 1, .unset, .unset, .unset, .unset] [(.ref ba196), (.ref b195), (.ref b195)])) st196 ?_
      have hp198 : ∀ c ∈ ([(nar .char (115 : Int32)), (nar .char (105 : Int32)), (nar .char (110 : Int32)), (nar .char (103 : Int32)), (nar .char (108 : Int32)), (nar .char (101 : Int32)), (nar .char (45 : Int32)), (nar .char (101 : Int32)), (nar .char (114 : Int32)), (nar .char (114 : Int32)), (nar .char (111 : Int32)), (nar .char (114 : Int32)), (nar .char ((cr &&& (255 : Int32)).toUInt32.toUInt16.toUInt32.toInt32))] : List Int32), ¬ c < 0 ∧ ¬ (255 : Int32) < c := by
        intro c hc
        simp only [List.mem_cons, List.not_mem_nil, or_false] at hc
        rcases hc with rfl | rfl | rfl | rfl | rfl | rfl | rfl | rfl | rfl | rfl | rfl | rfl | rfl
        · exact (by decide +kernel)
        · exact (by decide +kernel)
        · exact (by decide +kernel)
        · exact (by decide +kernel)
        · exact (by decide +kernel)
        · exact (by decide +kernel)
        · exact (by decide +kernel)
        · exact (by decide +kernel)
        · exact (by decide +kernel)
        · exact (by decide +kernel)
        · exact (by decide +kernel)
        · exact (by decide +kernel)
        · exact own_and255 cr
      obtain ⟨_, _, ⟨T197, L197, k197, n197⟩, -, X197, ⟨Lc197, hQ197, l197, y197, z197⟩, st197⟩ := X196.specialBack hx (y := (⟨"java/lang/String", "<init>", "([C)V"⟩ : MethodName)) rfl hown (mvT hZ (hw _ (List.mem_of_getElem? (i := 9) rfl))) (mvT hZ (hw _ (List.mem_of_getElem? (i := 10) rfl))) (mvT hZ (hw _ (List.mem_of_getElem? (i := 11) rfl))) (by decide) (StrChars.Road.backV (W := 1) hZ hws (kI := 4) (hw _ (List.mem_of_getElem? (i := 2) rfl)) (cs := ([(nar .char (115 : Int32)), (nar .char (105 : Int32)), (nar .char (110 : Int32)), (nar .char (103 : Int32)), (nar .char (108 : Int32)), (nar .char (101 : Int32)), (nar .char (45 : Int32)), (nar .char (101 : Int32)), (nar .char (114 : Int32)), (nar .char (114 : Int32)), (nar .char (111 : Int32)), (nar .char (114 : Int32)), (nar .char ((cr &&& (255 : Int32)).toUInt32.toUInt16.toUInt32.toInt32))] : List Int32)) (bs := (([(nar .char (115 : Int32)), (nar .char (105 : Int32)), (nar .char (110 : Int32)), (nar .char (103 : Int32)), (nar .char (108 : Int32)), (nar .char (101 : Int32)), (nar .char (45 : Int32)), (nar .char (101 : Int32)), (nar .char (114 : Int32)), (nar .char (114 : Int32)), (nar .char (111 : Int32)), (nar .char (114 : Int32)), (nar .char ((cr &&& (255 : Int32)).toUInt32.toUInt16.toUInt32.toInt32))] : List Int32)).map (fun c => c.toInt8.toInt32)) (n := 13) g_b195 Zs196 (A195.keep K196) (F_value_b195.keep K196 nin0) (F_coder_b195.keep K196 nin0) Va196 (O2.ext Ol196.2) P5 rfl rfl (by decide) (by decide) hp198 rfl (by decide) (by decide)) (g := (mkF m 107 #[iv mr, iv wr, iv pr, iv cr, iv er, iv 2, iv 1, .unset, .unset, .unset, .unset] [(.ref ba196), (.ref b195), (.ref b195)])) rfl (by rw [hml]; rfl) (Steps.refl _) (a := b195) (argsL := [(.ref ba196)]) (rest := [(.ref b195)]) (lenOf pd_13 rfl) rfl (by show 2 * 0 + _ ≤ _; exact Nat.le_of_eq rfl) (hb hby at_107) (fun _ _ => ⟨rfl, rfl, (by decide : 2 + 1 ≤ _), (by decide : 17 + 13 ≤ _)⟩)
      dsimp only [Pt.U, Pt.locs, Pt.cells, Pt.slots] at X197 l197 y197 z197 st197 hQ197
      subst l197 y197 z197
      obtain ⟨rfl, N197q, K197, Es197, Cs197, t197, kb197, ua197, ub197, uc197, Vs197, Ks197⟩ := hQ197
      have Zs197 : n0 ≤ T197.heap.size := Nat.le_trans Zs196 K197.1
      have N197 := Fr.app N196 N197q
      have Ol197 := Ol196.keep K197 (allS g_b195 all0)
      obtain ⟨lq197, X197, N197⟩ : ∃ lq, Stand p l e room_1 (s.setVm s.vm) m #[(.int mr), (.int wr), (.int pr), (.int cr), (.int er)] below meth c T197 lq 3 30 ∧ Fr n0 lq := ⟨_, X197, N197⟩
      refine own_tr (b := T197.setTop (mkF m 110 #[iv mr, iv wr, iv pr, iv cr, iv er, iv 2, iv 1, .unset, .unset, .unset, .unset] [(.ref b195)])) st197 ?_
      refine own_go (b := T197.setTop (mkF m 112 #[iv mr, iv wr, iv pr, iv cr, iv er, iv 2, iv 1, rv b195, .unset, .unset, .unset] [])) (fun t k => XS.astore X197.here hx rfl (hb hby at_110) rfl rfl (l' := #[iv mr, iv wr, iv pr, iv cr, iv er, iv 2, iv 1, rv b195, .unset, .unset, .unset]) rfl k) ?_
      refine own_go (b := T197.setTop (mkF m 155 #[iv mr, iv wr, iv pr, iv cr, iv er, iv 2, iv 1, rv b195, .unset, .unset, .unset] [])) (fun t k => XS.goto X197.here hx rfl (pc0 := 112) (pc' := 155) rfl (hb hby at_112) (by decide) (by decide) k) ?_
      exact J155 T197 T197.heap _ s.vm _ (2 : Int32) (1 : Int32) b195 ([(nar .char (115 : Int32)), (nar .char (105 : Int32)), (nar .char (110 : Int32)), (nar .char (103 : Int32)), (nar .char (108 : Int32)), (nar .char (101 : Int32)), (nar .char (45 : Int32)), (nar .char (101 : Int32)), (nar .char (114 : Int32)), (nar .char (114 : Int32)), (nar .char (111 : Int32)), (nar .char (114 : Int32)), (nar .char ((cr &&& (255 : Int32)).toUInt32.toUInt16.toUInt32.toInt32))] : List Int32) (.unset) (.unset) (own_mono X197 (by decide) (by decide)) rfl N197 Zs197 Ol197 hS0 (((Le0.ext E195).keep K196).keep K197) hZ hown (own_IBm I0 rfl (by simp)) ⟨t197, _, Es197, Vs197, Cs197, Ks197, hp198, (Nat.le_of_ble_eq_true rfl)⟩ (Or.inl rfl) (Or.inl rfl)
    | 2, _, hX190 =>
      replace hX190 : ((wr &&& (2147483647 : Int32)) % (3 : Int32)) = (2 : Int32) := hX190
      rw [hX190]
      obtain ⟨T199, h199, X199, e199, E199, A199, D199, -, st199⟩ := newO X0 hx hZ hown (hw _ (List.mem_of_getElem? (i := 1) rfl)) (hw _ (List.mem_of_getElem? (i := 2) rfl)) (hw _ (List.mem_of_getElem? (i := 3) rfl)) e0 (g := (mkF m 92 #[iv mr, iv wr, iv pr, iv cr, iv er, iv 2, iv 2, .unset, .unset, .unset, .unset] [])) rfl (hb hby at_92) (by decide) (by decide)
      obtain ⟨b199, g199⟩ : ∃ z, z = h0.size := ⟨_, rfl⟩
      rw [← g199] at A199 D199 st199
      have g_b199 : n0 ≤ b199 := Nat.le_trans Z0 (Nat.le_of_eq g199.symm)
      have Zs199 : n0 ≤ h199.size := Nat.le_trans Z0 E199.1
      have Ol199 := Od.ext E199
      have F_coder_b199 : Fld Z h199 b199 "java/lang/String" "coder" "B" (.int 0) := D199 (Or.inr (hw _ (List.mem_of_getElem? (i := 32) rfl))) (ty := .byte) (by decide)
      have F_value_b199 : Fld Z h199 b199 "java/lang/String" "value" "[B" .null := D199 (Or.inr (hw _ (List.mem_of_getElem? (i := 34) rfl))) (ty := (.array .byte)) (by decide)
      refine own_go (b := T199.setTop (mkF m 95 #[iv mr, iv wr, iv pr, iv cr, iv er, iv 2, iv 2, .unset, .unset, .unset, .unset] [(.ref b199)])) st199 ?_
      refine own_go (b := T199.setTop (mkF m 96 #[iv mr, iv wr, iv pr, iv cr, iv er, iv 2, iv 2, .unset, .unset, .unset, .unset] [(.ref b199), (.ref b199)])) (fun t k => XS.dup X199.here hx rfl (hb hby at_95) rfl rfl k) ?_
      refine own_go (b := T199.setTop (mkF m 98 #[iv mr, iv wr, iv pr, iv cr, iv er, iv 2, iv 2, .unset, .unset, .unset, .unset] [(.int 2), (.ref b199), (.ref b199)])) (fun t k => XS.iload X199.here hx rfl (hb hby at_96) rfl  k) ?_
      refine own_go (b := T199.setTop (mkF m 99 #[iv mr, iv wr, iv pr, iv cr, iv er, iv 2, iv 2, .unset, .unset, .unset, .unset] [(.int cr), (.int 2), (.ref b199), (.ref b199)])) (fun t k => XS.iloadN X199.here hx rfl (hb hby at_98) rfl  k) ?_
      refine own_go (b := T199.setTop (mkF m 102 #[iv mr, iv wr, iv pr, iv cr, iv er, iv 2, iv 2, .unset, .unset, .unset, .unset] [(.int 255), (.int cr), (.int 2), (.ref b199), (.ref b199)])) (fun t k => XS.sipush X199.here hx rfl (hb hby at_99) k) ?_
      refine own_go (b := T199.setTop (mkF m 103 #[iv mr, iv wr, iv pr, iv cr, iv er, iv 2, iv 2, .unset, .unset, .unset, .unset] [(.int (cr &&& (255 : Int32))), (.int 2), (.ref b199), (.ref b199)])) (fun t k => XS.iand X199.here hx rfl (hb hby at_102) rfl k) ?_
      refine own_go (b := T199.setTop (mkF m 104 #[iv mr, iv wr, iv pr, iv cr, iv er, iv 2, iv 2, .unset, .unset, .unset, .unset] [(.int ((cr &&& (255 : Int32)).toUInt32.toUInt16.toUInt32.toInt32)), (.int 2), (.ref b199), (.ref b199)])) (fun t k => XS.i2c X199.here hx rfl (hb hby at_103) rfl k) ?_
      obtain ⟨_, _, ⟨T200, L200, k200, n200⟩, -, X200, ⟨Lc200, hQ200, l200, y200, z200⟩, st200⟩ := Jvm.LawKit.callS X199 hx (y := (⟨"com/example/fault/fault/EnvelopeNamedPinLaw", "longer", "(IC)[C"⟩ : MethodName)) hown (mvT hZ (hw _ (List.mem_of_getElem? (i := 113) rfl))) (mvT hZ (hw _ (List.mem_of_getElem? (i := 114) rfl))) (mvT hZ (hw _ (List.mem_of_getElem? (i := 6) rfl))) (mvT hZ (hw _ (List.mem_of_getElem? (i := 115) rfl))) (by decide) (backOf (W := 2) (rm20_2 l Z a0 hw [] (2 : Int32) ((cr &&& (255 : Int32)).toUInt32.toUInt16.toUInt32.toInt32)  h199 n0 Zs199 rfl) hZ (hw _ (List.mem_of_getElem? (i := 115) rfl)) (hw _ (List.mem_of_getElem? (i := 6) rfl)) (by decide) (by decide)) (g := (mkF m 104 #[iv mr, iv wr, iv pr, iv cr, iv er, iv 2, iv 2, .unset, .unset, .unset, .unset] [(.int ((cr &&& (255 : Int32)).toUInt32.toUInt16.toUInt32.toInt32)), (.int 2), (.ref b199), (.ref b199)])) rfl (by rw [hml]; rfl) (argsL := [(.int 2), (.int ((cr &&& (255 : Int32)).toUInt32.toUInt16.toUInt32.toInt32))]) (rest := [(.ref b199), (.ref b199)]) (lenOf pd_14 rfl) rfl (by show 2 * 0 + _ ≤ _; exact Nat.le_of_eq rfl) (hb hby at_104) (fun _ _ => ⟨rfl, e199, (by decide : 1 + 1 ≤ _), (by decide : 4 + 8 ≤ _)⟩)
      dsimp only [Pt.U, Pt.locs, Pt.cells, Pt.slots] at X200 l200 y200 z200 st200 hQ200
      subst l200 y200 z200
      obtain ⟨ba200, kc200, rfl, N200q, K200, g_ba200, sz_ba200, Va200⟩ := hQ200
      have Zs200 : n0 ≤ T200.heap.size := Nat.le_trans Zs199 K200.1
      have N200 := Fr.app N0 N200q
      have Ol200 := Ol199.keep K200 all0
      obtain ⟨lq200, X200, N200⟩ : ∃ lq, Stand p l e room_1 (s.setVm s.vm) m #[(.int mr), (.int wr), (.int pr), (.int cr), (.int er)] below meth c T200 lq 2 12 ∧ Fr n0 lq := ⟨_, X200, N200⟩
      refine own_go (b := T200.setTop (mkF m 107 #[iv mr, iv wr, iv pr, iv cr, iv er, iv 2, iv 2, .unset, .unset, .unset, .unset] [(.ref ba200), (.ref b199), (.ref b199)])) st200 ?_
      have hp202 : ∀ c ∈ ([(nar .char (112 : Int32)), (nar .char (114 : Int32)), (nar .char (111 : Int32)), (nar .char (98 : Int32)), (nar .char (108 : Int32)), (nar .char (101 : Int32)), (nar .char (109 : Int32)), (nar .char ((cr &&& (255 : Int32)).toUInt32.toUInt16.toUInt32.toInt32))] : List Int32), ¬ c < 0 ∧ ¬ (255 : Int32) < c := by
        intro c hc
        simp only [List.mem_cons, List.not_mem_nil, or_false] at hc
        rcases hc with rfl | rfl | rfl | rfl | rfl | rfl | rfl | rfl
        · exact (by decide +kernel)
        · exact (by decide +kernel)
        · exact (by decide +kernel)
        · exact (by decide +kernel)
        · exact (by decide +kernel)
        · exact (by decide +kernel)
        · exact (by decide +kernel)
        · exact own_and255 cr
      obtain ⟨_, _, ⟨T201, L201, k201, n201⟩, -, X201, ⟨Lc201, hQ201, l201, y201, z201⟩, st201⟩ := X200.specialBack hx (y := (⟨"java/lang/String", "<init>", "([C)V"⟩ : MethodName)) rfl hown (mvT hZ (hw _ (List.mem_of_getElem? (i := 9) rfl))) (mvT hZ (hw _ (List.mem_of_getElem? (i := 10) rfl))) (mvT hZ (hw _ (List.mem_of_getElem? (i := 11) rfl))) (by decide) (StrChars.Road.backV (W := 1) hZ hws (kI := 4) (hw _ (List.mem_of_getElem? (i := 2) rfl)) (cs := ([(nar .char (112 : Int32)), (nar .char (114 : Int32)), (nar .char (111 : Int32)), (nar .char (98 : Int32)), (nar .char (108 : Int32)), (nar .char (101 : Int32)), (nar .char (109 : Int32)), (nar .char ((cr &&& (255 : Int32)).toUInt32.toUInt16.toUInt32.toInt32))] : List Int32)) (bs := (([(nar .char (112 : Int32)), (nar .char (114 : Int32)), (nar .char (111 : Int32)), (nar .char (98 : Int32)), (nar .char (108 : Int32)), (nar .char (101 : Int32)), (nar .char (109 : Int32)), (nar .char ((cr &&& (255 : Int32)).toUInt32.toUInt16.toUInt32.toInt32))] : List Int32)).map (fun c => c.toInt8.toInt32)) (n := 8) g_b199 Zs200 (A199.keep K200) (F_value_b199.keep K200 nin0) (F_coder_b199.keep K200 nin0) Va200 (O2.ext Ol200.2) P5 rfl rfl (by decide) (by decide) hp202 rfl (by decide) (by decide)) (g := (mkF m 107 #[iv mr, iv wr, iv pr, iv cr, iv er, iv 2, iv 2, .unset, .unset, .unset, .unset] [(.ref ba200), (.ref b199), (.ref b199)])) rfl (by rw [hml]; rfl) (Steps.refl _) (a := b199) (argsL := [(.ref ba200)]) (rest := [(.ref b199)]) (lenOf pd_13 rfl) rfl (by show 2 * 0 + _ ≤ _; exact Nat.le_of_eq rfl) (hb hby at_107) (fun _ _ => ⟨rfl, rfl, (by decide : 2 + 1 ≤ _), (by decide : 12 + 8 ≤ _)⟩)
      dsimp only [Pt.U, Pt.locs, Pt.cells, Pt.slots] at X201 l201 y201 z201 st201 hQ201
      subst l201 y201 z201
      obtain ⟨rfl, N201q, K201, Es201, Cs201, t201, kb201, ua201, ub201, uc201, Vs201, Ks201⟩ := hQ201
      have Zs201 : n0 ≤ T201.heap.size := Nat.le_trans Zs200 K201.1
      have N201 := Fr.app N200 N201q
      have Ol201 := Ol200.keep K201 (allS g_b199 all0)
      obtain ⟨lq201, X201, N201⟩ : ∃ lq, Stand p l e room_1 (s.setVm s.vm) m #[(.int mr), (.int wr), (.int pr), (.int cr), (.int er)] below meth c T201 lq 3 20 ∧ Fr n0 lq := ⟨_, X201, N201⟩
      refine own_tr (b := T201.setTop (mkF m 110 #[iv mr, iv wr, iv pr, iv cr, iv er, iv 2, iv 2, .unset, .unset, .unset, .unset] [(.ref b199)])) st201 ?_
      refine own_go (b := T201.setTop (mkF m 112 #[iv mr, iv wr, iv pr, iv cr, iv er, iv 2, iv 2, rv b199, .unset, .unset, .unset] [])) (fun t k => XS.astore X201.here hx rfl (hb hby at_110) rfl rfl (l' := #[iv mr, iv wr, iv pr, iv cr, iv er, iv 2, iv 2, rv b199, .unset, .unset, .unset]) rfl k) ?_
      refine own_go (b := T201.setTop (mkF m 155 #[iv mr, iv wr, iv pr, iv cr, iv er, iv 2, iv 2, rv b199, .unset, .unset, .unset] [])) (fun t k => XS.goto X201.here hx rfl (pc0 := 112) (pc' := 155) rfl (hb hby at_112) (by decide) (by decide) k) ?_
      exact J155 T201 T201.heap _ s.vm _ (2 : Int32) (2 : Int32) b199 ([(nar .char (112 : Int32)), (nar .char (114 : Int32)), (nar .char (111 : Int32)), (nar .char (98 : Int32)), (nar .char (108 : Int32)), (nar .char (101 : Int32)), (nar .char (109 : Int32)), (nar .char ((cr &&& (255 : Int32)).toUInt32.toUInt16.toUInt32.toInt32))] : List Int32) (.unset) (.unset) (own_mono X201 (by decide) (by decide)) rfl N201 Zs201 Ol201 hS0 (((Le0.ext E199).keep K200).keep K201) hZ hown (own_IBm I0 rfl (by simp)) ⟨t201, _, Es201, Vs201, Cs201, Ks201, hp202, (Nat.le_of_ble_eq_true rfl)⟩ (Or.inl rfl) (Or.inl rfl)
    | j + 3, h, _ => omega
  | 3, _, hX16 =>
    replace hX16 : ((mr &&& (2147483647 : Int32)) % (5 : Int32)) = (3 : Int32) := hX16
    rw [hX16]
    refine own_go (b := s₁.setTop (mkF m 18 #[iv mr, iv wr, iv pr, iv cr, iv er, iv 3, iv ((wr &&& (2147483647 : Int32)) % (3 : Int32)), .unset, .unset, .unset, .unset] [(.int 3)])) (fun t k => XS.iload X0.here hx rfl (hb hby at_16) rfl  k) ?_
    refine own_go (b := s₁.setTop (mkF m 38 #[iv mr, iv wr, iv pr, iv cr, iv er, iv 3, iv ((wr &&& (2147483647 : Int32)) % (3 : Int32)), .unset, .unset, .unset, .unset] [])) (fun t k => XS.ifYes X0.here hx rfl (pc0 := 18) (pc' := 38) rfl (hb hby at_18) rfl ((if0 _ _).trans (feq (by decide : ¬ ((3 : Int32) = (0 : Int32)))).2) (by decide) (by decide) k) ?_
    refine own_go (b := s₁.setTop (mkF m 40 #[iv mr, iv wr, iv pr, iv cr, iv er, iv 3, iv ((wr &&& (2147483647 : Int32)) % (3 : Int32)), .unset, .unset, .unset, .unset] [(.int 3)])) (fun t k => XS.iload X0.here hx rfl (hb hby at_38) rfl  k) ?_
    refine own_go (b := s₁.setTop (mkF m 41 #[iv mr, iv wr, iv pr, iv cr, iv er, iv 3, iv ((wr &&& (2147483647 : Int32)) % (3 : Int32)), .unset, .unset, .unset, .unset] [(.int 1), (.int 3)])) (fun t k => XS.iconst X0.here hx rfl (hb hby at_40) k) ?_
    refine own_go (b := s₁.setTop (mkF m 86 #[iv mr, iv wr, iv pr, iv cr, iv er, iv 3, iv ((wr &&& (2147483647 : Int32)) % (3 : Int32)), .unset, .unset, .unset, .unset] [])) (fun t k => XS.icmpYes X0.here hx rfl (pc0 := 41) (pc' := 86) rfl (hb hby at_41) rfl (feq (by decide : ¬ ((3 : Int32) = (1 : Int32)))).2 (by decide) (by decide) k) ?_
    refine own_go (b := s₁.setTop (mkF m 88 #[iv mr, iv wr, iv pr, iv cr, iv er, iv 3, iv ((wr &&& (2147483647 : Int32)) % (3 : Int32)), .unset, .unset, .unset, .unset] [(.int 3)])) (fun t k => XS.iload X0.here hx rfl (hb hby at_86) rfl  k) ?_
    refine own_go (b := s₁.setTop (mkF m 89 #[iv mr, iv wr, iv pr, iv cr, iv er, iv 3, iv ((wr &&& (2147483647 : Int32)) % (3 : Int32)), .unset, .unset, .unset, .unset] [(.int 2), (.int 3)])) (fun t k => XS.iconst X0.here hx rfl (hb hby at_88) k) ?_
    refine own_go (b := s₁.setTop (mkF m 115 #[iv mr, iv wr, iv pr, iv cr, iv er, iv 3, iv ((wr &&& (2147483647 : Int32)) % (3 : Int32)), .unset, .unset, .unset, .unset] [])) (fun t k => XS.icmpYes X0.here hx rfl (pc0 := 89) (pc' := 115) rfl (hb hby at_89) rfl (feq (by decide : ¬ ((3 : Int32) = (2 : Int32)))).2 (by decide) (by decide) k) ?_
    refine own_go (b := s₁.setTop (mkF m 117 #[iv mr, iv wr, iv pr, iv cr, iv er, iv 3, iv ((wr &&& (2147483647 : Int32)) % (3 : Int32)), .unset, .unset, .unset, .unset] [(.int 3)])) (fun t k => XS.iload X0.here hx rfl (hb hby at_115) rfl  k) ?_
    refine own_go (b := s₁.setTop (mkF m 118 #[iv mr, iv wr, iv pr, iv cr, iv er, iv 3, iv ((wr &&& (2147483647 : Int32)) % (3 : Int32)), .unset, .unset, .unset, .unset] [(.int 3), (.int 3)])) (fun t k => XS.iconst X0.here hx rfl (hb hby at_117) k) ?_
    refine own_go (b := s₁.setTop (mkF m 121 #[iv mr, iv wr, iv pr, iv cr, iv er, iv 3, iv ((wr &&& (2147483647 : Int32)) % (3 : Int32)), .unset, .unset, .unset, .unset] [])) (fun t k => XS.icmpNo X0.here hx rfl (hb hby at_118) rfl (teq (rfl : (3 : Int32) = (3 : Int32))).2 k) ?_
    refine own_go (b := s₁.setTop (mkF m 123 #[iv mr, iv wr, iv pr, iv cr, iv er, iv 3, iv ((wr &&& (2147483647 : Int32)) % (3 : Int32)), .unset, .unset, .unset, .unset] [(.int er)])) (fun t k => XS.iload X0.here hx rfl (hb hby at_121) rfl  k) ?_
    refine own_go (b := s₁.setTop (mkF m 125 #[iv mr, iv wr, iv pr, iv cr, iv er, iv 3, iv ((wr &&& (2147483647 : Int32)) % (3 : Int32)), .unset, .unset, .unset, .unset] [(.int 2147483647), (.int er)])) (fun t k => X0.ldcInt hx hown (mvT hZ (hw _ (List.mem_of_getElem? (i := 0) rfl))) (g := (mkF m 123 #[iv mr, iv wr, iv pr, iv cr, iv er, iv 3, iv ((wr &&& (2147483647 : Int32)) % (3 : Int32)), .unset, .unset, .unset, .unset] [(.int er)])) rfl (hb hby at_123) t k) ?_
    refine own_go (b := s₁.setTop (mkF m 126 #[iv mr, iv wr, iv pr, iv cr, iv er, iv 3, iv ((wr &&& (2147483647 : Int32)) % (3 : Int32)), .unset, .unset, .unset, .unset] [(.int (er &&& (2147483647 : Int32)))])) (fun t k => XS.iand X0.here hx rfl (hb hby at_125) rfl k) ?_
    refine own_go (b := s₁.setTop (mkF m 127 #[iv mr, iv wr, iv pr, iv cr, iv er, iv 3, iv ((wr &&& (2147483647 : Int32)) % (3 : Int32)), .unset, .unset, .unset, .unset] [(.int 5), (.int (er &&& (2147483647 : Int32)))])) (fun t k => XS.iconst X0.here hx rfl (hb hby at_126) k) ?_
    refine own_go (b := s₁.setTop (mkF m 128 #[iv mr, iv wr, iv pr, iv cr, iv er, iv 3, iv ((wr &&& (2147483647 : Int32)) % (3 : Int32)), .unset, .unset, .unset, .unset] [(.int ((er &&& (2147483647 : Int32)) % (5 : Int32)))])) (fun t k => iremM X0 hx rfl (hb hby at_127) rfl (by decide) k) ?_
    refine own_go (b := s₁.setTop (mkF m 130 #[iv mr, iv wr, iv pr, iv cr, iv er, iv 3, iv ((wr &&& (2147483647 : Int32)) % (3 : Int32)), .unset, iv ((er &&& (2147483647 : Int32)) % (5 : Int32)), .unset, .unset] [])) (fun t k => XS.istore X0.here hx rfl (hb hby at_128) rfl (l' := #[iv mr, iv wr, iv pr, iv cr, iv er, iv 3, iv ((wr &&& (2147483647 : Int32)) % (3 : Int32)), .unset, iv ((er &&& (2147483647 : Int32)) % (5 : Int32)), .unset, .unset]) rfl k) ?_
    obtain ⟨js203, hj203, hX203⟩ := own_r5 er
    match js203, hj203, hX203 with
    | 0, _, hX203 =>
      replace hX203 : ((er &&& (2147483647 : Int32)) % (5 : Int32)) = (0 : Int32) := hX203
      rw [hX203]
      obtain ⟨T204, h204, X204, e204, E204, A204, D204, -, st204⟩ := newO X0 hx hZ hown (hw _ (List.mem_of_getElem? (i := 1) rfl)) (hw _ (List.mem_of_getElem? (i := 2) rfl)) (hw _ (List.mem_of_getElem? (i := 3) rfl)) e0 (g := (mkF m 130 #[iv mr, iv wr, iv pr, iv cr, iv er, iv 3, iv ((wr &&& (2147483647 : Int32)) % (3 : Int32)), .unset, iv 0, .unset, .unset] [])) rfl (hb hby at_130) (by decide) (by decide)
      obtain ⟨b204, g204⟩ : ∃ z, z = h0.size := ⟨_, rfl⟩
      rw [← g204] at A204 D204 st204
      have g_b204 : n0 ≤ b204 := Nat.le_trans Z0 (Nat.le_of_eq g204.symm)
      have Zs204 : n0 ≤ h204.size := Nat.le_trans Z0 E204.1
      have Ol204 := Od.ext E204
      have F_coder_b204 : Fld Z h204 b204 "java/lang/String" "coder" "B" (.int 0) := D204 (Or.inr (hw _ (List.mem_of_getElem? (i := 32) rfl))) (ty := .byte) (by decide)
      have F_value_b204 : Fld Z h204 b204 "java/lang/String" "value" "[B" .null := D204 (Or.inr (hw _ (List.mem_of_getElem? (i := 34) rfl))) (ty := (.array .byte)) (by decide)
      refine own_go (b := T204.setTop (mkF m 133 #[iv mr, iv wr, iv pr, iv cr, iv er, iv 3, iv ((wr &&& (2147483647 : Int32)) % (3 : Int32)), .unset, iv 0, .unset, .unset] [(.ref b204)])) st204 ?_
      refine own_go (b := T204.setTop (mkF m 134 #[iv mr, iv wr, iv pr, iv cr, iv er, iv 3, iv ((wr &&& (2147483647 : Int32)) % (3 : Int32)), .unset, iv 0, .unset, .unset] [(.ref b204), (.ref b204)])) (fun t k => XS.dup X204.here hx rfl (hb hby at_133) rfl rfl k) ?_
      refine own_go (b := T204.setTop (mkF m 136 #[iv mr, iv wr, iv pr, iv cr, iv er, iv 3, iv ((wr &&& (2147483647 : Int32)) % (3 : Int32)), .unset, iv 0, .unset, .unset] [(.int 0), (.ref b204), (.ref b204)])) (fun t k => XS.iload X204.here hx rfl (hb hby at_134) rfl  k) ?_
      refine own_go (b := T204.setTop (mkF m 137 #[iv mr, iv wr, iv pr, iv cr, iv er, iv 3, iv ((wr &&& (2147483647 : Int32)) % (3 : Int32)), .unset, iv 0, .unset, .unset] [(.int cr), (.int 0), (.ref b204), (.ref b204)])) (fun t k => XS.iloadN X204.here hx rfl (hb hby at_136) rfl  k) ?_
      obtain ⟨_, _, ⟨T205, L205, k205, n205⟩, -, X205, ⟨Lc205, hQ205, l205, y205, z205⟩, st205⟩ := Jvm.LawKit.callS X204 hx (y := (⟨"com/example/fault/fault/EnvelopeNamedPinLaw", "drawn", "(II)[C"⟩ : MethodName)) hown (mvT hZ (hw _ (List.mem_of_getElem? (i := 104) rfl))) (mvT hZ (hw _ (List.mem_of_getElem? (i := 105) rfl))) (mvT hZ (hw _ (List.mem_of_getElem? (i := 6) rfl))) (mvT hZ (hw _ (List.mem_of_getElem? (i := 106) rfl))) (by decide) (backOf (W := 2) (rm18_0 l Z a0 hw [] (0 : Int32) cr  h204 n0 Zs204 rfl) hZ (hw _ (List.mem_of_getElem? (i := 106) rfl)) (hw _ (List.mem_of_getElem? (i := 6) rfl)) (by decide) (by decide)) (g := (mkF m 137 #[iv mr, iv wr, iv pr, iv cr, iv er, iv 3, iv ((wr &&& (2147483647 : Int32)) % (3 : Int32)), .unset, iv 0, .unset, .unset] [(.int cr), (.int 0), (.ref b204), (.ref b204)])) rfl (by rw [hml]; rfl) (argsL := [(.int 0), (.int cr)]) (rest := [(.ref b204), (.ref b204)]) (lenOf pd_15 rfl) rfl (by show 2 * 0 + _ ≤ _; exact Nat.le_of_eq rfl) (hb hby at_137) (fun _ _ => ⟨rfl, e204, (by decide : 1 + 1 ≤ _), (by decide : 4 + 0 ≤ _)⟩)
      dsimp only [Pt.U, Pt.locs, Pt.cells, Pt.slots] at X205 l205 y205 z205 st205 hQ205
      subst l205 y205 z205
      obtain ⟨ba205, kc205, rfl, N205q, K205, g_ba205, sz_ba205, Va205⟩ := hQ205
      have Zs205 : n0 ≤ T205.heap.size := Nat.le_trans Zs204 K205.1
      have N205 := Fr.app N0 N205q
      have Ol205 := Ol204.keep K205 all0
      obtain ⟨lq205, X205, N205⟩ : ∃ lq, Stand p l e room_1 (s.setVm s.vm) m #[(.int mr), (.int wr), (.int pr), (.int cr), (.int er)] below meth c T205 lq 2 4 ∧ Fr n0 lq := ⟨_, X205, N205⟩
      refine own_go (b := T205.setTop (mkF m 140 #[iv mr, iv wr, iv pr, iv cr, iv er, iv 3, iv ((wr &&& (2147483647 : Int32)) % (3 : Int32)), .unset, iv 0, .unset, .unset] [(.ref ba205), (.ref b204), (.ref b204)])) st205 ?_
      obtain ⟨_, _, ⟨T206, L206, k206, n206⟩, -, X206, hSa206, hG206, ⟨Lc206, ⟨hQ206, I206⟩, l206, y206, z206⟩, st206⟩ := X205.specialBackS hx (y := (⟨"java/lang/String", "<init>", "([C)V"⟩ : MethodName)) rfl hown (mvT hZ (hw _ (List.mem_of_getElem? (i := 9) rfl))) (mvT hZ (hw _ (List.mem_of_getElem? (i := 10) rfl))) (mvT hZ (hw _ (List.mem_of_getElem? (i := 11) rfl))) (by decide) (own_backS (W := 1) (rm2 l Z a0 hw [] b204 ba205 kc205 T205.heap n0 Zs205 Ol205 Hc hcw (A204.keep K205) (F_value_b204.keep K205 nin0) (F_coder_b204.keep K205 nin0) g_b204 Va205) hZ (own_IBm (Te := ([] : List String)) I0 rfl (by simp)) (hw _ (List.mem_of_getElem? (i := 11) rfl)) (hw _ (List.mem_of_getElem? (i := 3) rfl)) (by decide) (by decide)) (g := (mkF m 140 #[iv mr, iv wr, iv pr, iv cr, iv er, iv 3, iv ((wr &&& (2147483647 : Int32)) % (3 : Int32)), .unset, iv 0, .unset, .unset] [(.ref ba205), (.ref b204), (.ref b204)])) rfl (by rw [hml]; rfl) (Steps.refl _) (a := b204) (argsL := [(.ref ba205)]) (rest := [(.ref b204)]) (lenOf pd_13 rfl) rfl (by show 2 * 0 + _ ≤ _; exact Nat.le_of_eq rfl) (hb hby at_140) (fun _ _ => ⟨rfl, rfl, (by decide : 2 + 2 ≤ _), (by decide : 4 + 4 ≤ _)⟩)
      dsimp only [Pt.U, Pt.locs, Pt.cells, Pt.slots] at X206 l206 y206 z206 st206 hQ206 hSa206 hG206 I206
      subst l206 y206 z206
      obtain ⟨hS206, hZ, hown⟩ := own_reb hS0 (own_LeT ((Le0.ext E204).keep K205) rfl) hSa206 hG206 hZ hown
      have Le206 : own_Le T206.heap.size T206.heap := Nat.le_refl _
      obtain ⟨rfl, N206q, K206, Sz206⟩ := hQ206
      have Zs206 : n0 ≤ T206.heap.size := Nat.le_trans Zs205 K206.1
      have N206 := Fr.app N205 N206q
      have Ol206 := Ol205.keep K206 (allS g_b204 all0)
      obtain ⟨lq206, X206, N206⟩ : ∃ lq, Stand p l e room_1 (s.setVm T206.vm) m #[(.int mr), (.int wr), (.int pr), (.int cr), (.int er)] below meth c T206 lq 4 8 ∧ Fr n0 lq := ⟨_, X206, N206⟩
      refine own_tr (b := T206.setTop (mkF m 143 #[iv mr, iv wr, iv pr, iv cr, iv er, iv 3, iv ((wr &&& (2147483647 : Int32)) % (3 : Int32)), .unset, iv 0, .unset, .unset] [(.ref b204)])) st206 ?_
      refine own_go (b := T206.setTop (mkF m 145 #[iv mr, iv wr, iv pr, iv cr, iv er, iv 3, iv ((wr &&& (2147483647 : Int32)) % (3 : Int32)), rv b204, iv 0, .unset, .unset] [])) (fun t k => XS.astore X206.here hx rfl (hb hby at_143) rfl rfl (l' := #[iv mr, iv wr, iv pr, iv cr, iv er, iv 3, iv ((wr &&& (2147483647 : Int32)) % (3 : Int32)), rv b204, iv 0, .unset, .unset]) rfl k) ?_
      refine own_go (b := T206.setTop (mkF m 155 #[iv mr, iv wr, iv pr, iv cr, iv er, iv 3, iv ((wr &&& (2147483647 : Int32)) % (3 : Int32)), rv b204, iv 0, .unset, .unset] [])) (fun t k => XS.goto X206.here hx rfl (pc0 := 145) (pc' := 155) rfl (hb hby at_145) (by decide) (by decide) k) ?_
      exact J155 T206 T206.heap _ T206.vm _ (3 : Int32) ((wr &&& (2147483647 : Int32)) % (3 : Int32)) b204 _ (iv 0) (.unset) (own_mono X206 (by decide) (by decide)) rfl N206 Zs206 Ol206 hS206 Le206 hZ hown (own_IBm I206 rfl (by simp)) Sz206 (Or.inr ⟨_, rfl, rfl⟩) (Or.inl rfl)
    | 1, _, hX203 =>
      replace hX203 : ((er &&& (2147483647 : Int32)) % (5 : Int32)) = (1 : Int32) := hX203
      rw [hX203]
      obtain ⟨T207, h207, X207, e207, E207, A207, D207, -, st207⟩ := newO X0 hx hZ hown (hw _ (List.mem_of_getElem? (i := 1) rfl)) (hw _ (List.mem_of_getElem? (i := 2) rfl)) (hw _ (List.mem_of_getElem? (i := 3) rfl)) e0 (g := (mkF m 130 #[iv mr, iv wr, iv pr, iv cr, iv er, iv 3, iv ((wr &&& (2147483647 : Int32)) % (3 : Int32)), .unset, iv 1, .unset, .unset] [])) rfl (hb hby at_130) (by decide) (by decide)
      obtain ⟨b207, g207⟩ : ∃ z, z = h0.size := ⟨_, rfl⟩
      rw [← g207] at A207 D207 st207
      have g_b207 : n0 ≤ b207 := Nat.le_trans Z0 (Nat.le_of_eq g207.symm)
      have Zs207 : n0 ≤ h207.size := Nat.le_trans Z0 E207.1
      have Ol207 := Od.ext E207
      have F_coder_b207 : Fld Z h207 b207 "java/lang/String" "coder" "B" (.int 0) := D207 (Or.inr (hw _ (List.mem_of_getElem? (i := 32) rfl))) (ty := .byte) (by decide)
      have F_value_b207 : Fld Z h207 b207 "java/lang/String" "value" "[B" .null := D207 (Or.inr (hw _ (List.mem_of_getElem? (i := 34) rfl))) (ty := (.array .byte)) (by decide)
      refine own_go (b := T207.setTop (mkF m 133 #[iv mr, iv wr, iv pr, iv cr, iv er, iv 3, iv ((wr &&& (2147483647 : Int32)) % (3 : Int32)), .unset, iv 1, .unset, .unset] [(.ref b207)])) st207 ?_
      refine own_go (b := T207.setTop (mkF m 134 #[iv mr, iv wr, iv pr, iv cr, iv er, iv 3, iv ((wr &&& (2147483647 : Int32)) % (3 : Int32)), .unset, iv 1, .unset, .unset] [(.ref b207), (.ref b207)])) (fun t k => XS.dup X207.here hx rfl (hb hby at_133) rfl rfl k) ?_
      refine own_go (b := T207.setTop (mkF m 136 #[iv mr, iv wr, iv pr, iv cr, iv er, iv 3, iv ((wr &&& (2147483647 : Int32)) % (3 : Int32)), .unset, iv 1, .unset, .unset] [(.int 1), (.ref b207), (.ref b207)])) (fun t k => XS.iload X207.here hx rfl (hb hby at_134) rfl  k) ?_
      refine own_go (b := T207.setTop (mkF m 137 #[iv mr, iv wr, iv pr, iv cr, iv er, iv 3, iv ((wr &&& (2147483647 : Int32)) % (3 : Int32)), .unset, iv 1, .unset, .unset] [(.int cr), (.int 1), (.ref b207), (.ref b207)])) (fun t k => XS.iloadN X207.here hx rfl (hb hby at_136) rfl  k) ?_
      obtain ⟨_, _, ⟨T208, L208, k208, n208⟩, -, X208, ⟨Lc208, hQ208, l208, y208, z208⟩, st208⟩ := Jvm.LawKit.callS X207 hx (y := (⟨"com/example/fault/fault/EnvelopeNamedPinLaw", "drawn", "(II)[C"⟩ : MethodName)) hown (mvT hZ (hw _ (List.mem_of_getElem? (i := 104) rfl))) (mvT hZ (hw _ (List.mem_of_getElem? (i := 105) rfl))) (mvT hZ (hw _ (List.mem_of_getElem? (i := 6) rfl))) (mvT hZ (hw _ (List.mem_of_getElem? (i := 106) rfl))) (by decide) (backOf (W := 2) (rm18_1 l Z a0 hw [] (1 : Int32) cr  h207 n0 Zs207 rfl) hZ (hw _ (List.mem_of_getElem? (i := 106) rfl)) (hw _ (List.mem_of_getElem? (i := 6) rfl)) (by decide) (by decide)) (g := (mkF m 137 #[iv mr, iv wr, iv pr, iv cr, iv er, iv 3, iv ((wr &&& (2147483647 : Int32)) % (3 : Int32)), .unset, iv 1, .unset, .unset] [(.int cr), (.int 1), (.ref b207), (.ref b207)])) rfl (by rw [hml]; rfl) (argsL := [(.int 1), (.int cr)]) (rest := [(.ref b207), (.ref b207)]) (lenOf pd_15 rfl) rfl (by show 2 * 0 + _ ≤ _; exact Nat.le_of_eq rfl) (hb hby at_137) (fun _ _ => ⟨rfl, e207, (by decide : 1 + 1 ≤ _), (by decide : 4 + 1 ≤ _)⟩)
      dsimp only [Pt.U, Pt.locs, Pt.cells, Pt.slots] at X208 l208 y208 z208 st208 hQ208
      subst l208 y208 z208
      obtain ⟨ba208, kc208, rfl, N208q, K208, g_ba208, sz_ba208, Va208⟩ := hQ208
      have Zs208 : n0 ≤ T208.heap.size := Nat.le_trans Zs207 K208.1
      have N208 := Fr.app N0 N208q
      have Ol208 := Ol207.keep K208 all0
      obtain ⟨lq208, X208, N208⟩ : ∃ lq, Stand p l e room_1 (s.setVm s.vm) m #[(.int mr), (.int wr), (.int pr), (.int cr), (.int er)] below meth c T208 lq 2 5 ∧ Fr n0 lq := ⟨_, X208, N208⟩
      refine own_go (b := T208.setTop (mkF m 140 #[iv mr, iv wr, iv pr, iv cr, iv er, iv 3, iv ((wr &&& (2147483647 : Int32)) % (3 : Int32)), .unset, iv 1, .unset, .unset] [(.ref ba208), (.ref b207), (.ref b207)])) st208 ?_
      have hp210 : ∀ c ∈ ([(nar .char ((cr &&& (255 : Int32)).toUInt32.toUInt16.toUInt32.toInt32))] : List Int32), ¬ c < 0 ∧ ¬ (255 : Int32) < c := by
        intro c hc
        simp only [List.mem_cons, List.not_mem_nil, or_false] at hc
        rcases hc with rfl
        · exact own_and255 cr
      obtain ⟨_, _, ⟨T209, L209, k209, n209⟩, -, X209, ⟨Lc209, hQ209, l209, y209, z209⟩, st209⟩ := X208.specialBack hx (y := (⟨"java/lang/String", "<init>", "([C)V"⟩ : MethodName)) rfl hown (mvT hZ (hw _ (List.mem_of_getElem? (i := 9) rfl))) (mvT hZ (hw _ (List.mem_of_getElem? (i := 10) rfl))) (mvT hZ (hw _ (List.mem_of_getElem? (i := 11) rfl))) (by decide) (StrChars.Road.backV (W := 1) hZ hws (kI := 4) (hw _ (List.mem_of_getElem? (i := 2) rfl)) (cs := ([(nar .char ((cr &&& (255 : Int32)).toUInt32.toUInt16.toUInt32.toInt32))] : List Int32)) (bs := (([(nar .char ((cr &&& (255 : Int32)).toUInt32.toUInt16.toUInt32.toInt32))] : List Int32)).map (fun c => c.toInt8.toInt32)) (n := 1) g_b207 Zs208 (A207.keep K208) (F_value_b207.keep K208 nin0) (F_coder_b207.keep K208 nin0) Va208 (O2.ext Ol208.2) P5 rfl rfl (by decide) (by decide) hp210 rfl (by decide) (by decide)) (g := (mkF m 140 #[iv mr, iv wr, iv pr, iv cr, iv er, iv 3, iv ((wr &&& (2147483647 : Int32)) % (3 : Int32)), .unset, iv 1, .unset, .unset] [(.ref ba208), (.ref b207), (.ref b207)])) rfl (by rw [hml]; rfl) (Steps.refl _) (a := b207) (argsL := [(.ref ba208)]) (rest := [(.ref b207)]) (lenOf pd_13 rfl) rfl (by show 2 * 0 + _ ≤ _; exact Nat.le_of_eq rfl) (hb hby at_140) (fun _ _ => ⟨rfl, rfl, (by decide : 2 + 1 ≤ _), (by decide : 5 + 1 ≤ _)⟩)
      dsimp only [Pt.U, Pt.locs, Pt.cells, Pt.slots] at X209 l209 y209 z209 st209 hQ209
      subst l209 y209 z209
      obtain ⟨rfl, N209q, K209, Es209, Cs209, t209, kb209, ua209, ub209, uc209, Vs209, Ks209⟩ := hQ209
      have Zs209 : n0 ≤ T209.heap.size := Nat.le_trans Zs208 K209.1
      have N209 := Fr.app N208 N209q
      have Ol209 := Ol208.keep K209 (allS g_b207 all0)
      obtain ⟨lq209, X209, N209⟩ : ∃ lq, Stand p l e room_1 (s.setVm s.vm) m #[(.int mr), (.int wr), (.int pr), (.int cr), (.int er)] below meth c T209 lq 3 6 ∧ Fr n0 lq := ⟨_, X209, N209⟩
      refine own_tr (b := T209.setTop (mkF m 143 #[iv mr, iv wr, iv pr, iv cr, iv er, iv 3, iv ((wr &&& (2147483647 : Int32)) % (3 : Int32)), .unset, iv 1, .unset, .unset] [(.ref b207)])) st209 ?_
      refine own_go (b := T209.setTop (mkF m 145 #[iv mr, iv wr, iv pr, iv cr, iv er, iv 3, iv ((wr &&& (2147483647 : Int32)) % (3 : Int32)), rv b207, iv 1, .unset, .unset] [])) (fun t k => XS.astore X209.here hx rfl (hb hby at_143) rfl rfl (l' := #[iv mr, iv wr, iv pr, iv cr, iv er, iv 3, iv ((wr &&& (2147483647 : Int32)) % (3 : Int32)), rv b207, iv 1, .unset, .unset]) rfl k) ?_
      refine own_go (b := T209.setTop (mkF m 155 #[iv mr, iv wr, iv pr, iv cr, iv er, iv 3, iv ((wr &&& (2147483647 : Int32)) % (3 : Int32)), rv b207, iv 1, .unset, .unset] [])) (fun t k => XS.goto X209.here hx rfl (pc0 := 145) (pc' := 155) rfl (hb hby at_145) (by decide) (by decide) k) ?_
      exact J155 T209 T209.heap _ s.vm _ (3 : Int32) ((wr &&& (2147483647 : Int32)) % (3 : Int32)) b207 ([(nar .char ((cr &&& (255 : Int32)).toUInt32.toUInt16.toUInt32.toInt32))] : List Int32) (iv 1) (.unset) (own_mono X209 (by decide) (by decide)) rfl N209 Zs209 Ol209 hS0 (((Le0.ext E207).keep K208).keep K209) hZ hown (own_IBm I0 rfl (by simp)) ⟨t209, _, Es209, Vs209, Cs209, Ks209, hp210, (Nat.le_of_ble_eq_true rfl)⟩ (Or.inr ⟨_, rfl, rfl⟩) (Or.inl rfl)
    | 2, _, hX203 =>
      replace hX203 : ((er &&& (2147483647 : Int32)) % (5 : Int32)) = (2 : Int32) := hX203
      rw [hX203]
      obtain ⟨T211, h211, X211, e211, E211, A211, D211, -, st211⟩ := newO X0 hx hZ hown (hw _ (List.mem_of_getElem? (i := 1) rfl)) (hw _ (List.mem_of_getElem? (i := 2) rfl)) (hw _ (List.mem_of_getElem? (i := 3) rfl)) e0 (g := (mkF m 130 #[iv mr, iv wr, iv pr, iv cr, iv er, iv 3, iv ((wr &&& (2147483647 : Int32)) % (3 : Int32)), .unset, iv 2, .unset, .unset] [])) rfl (hb hby at_130) (by decide) (by decide)
      obtain ⟨b211, g211⟩ : ∃ z, z = h0.size := ⟨_, rfl⟩
      rw [← g211] at A211 D211 st211
      have g_b211 : n0 ≤ b211 := Nat.le_trans Z0 (Nat.le_of_eq g211.symm)
      have Zs211 : n0 ≤ h211.size := Nat.le_trans Z0 E211.1
      have Ol211 := Od.ext E211
      have F_coder_b211 : Fld Z h211 b211 "java/lang/String" "coder" "B" (.int 0) := D211 (Or.inr (hw _ (List.mem_of_getElem? (i := 32) rfl))) (ty := .byte) (by decide)
      have F_value_b211 : Fld Z h211 b211 "java/lang/String" "value" "[B" .null := D211 (Or.inr (hw _ (List.mem_of_getElem? (i := 34) rfl))) (ty := (.array .byte)) (by decide)
      refine own_go (b := T211.setTop (mkF m 133 #[iv mr, iv wr, iv pr, iv cr, iv er, iv 3, iv ((wr &&& (2147483647 : Int32)) % (3 : Int32)), .unset, iv 2, .unset, .unset] [(.ref b211)])) st211 ?_
      refine own_go (b := T211.setTop (mkF m 134 #[iv mr, iv wr, iv pr, iv cr, iv er, iv 3, iv ((wr &&& (2147483647 : Int32)) % (3 : Int32)), .unset, iv 2, .unset, .unset] [(.ref b211), (.ref b211)])) (fun t k => XS.dup X211.here hx rfl (hb hby at_133) rfl rfl k) ?_
      refine own_go (b := T211.setTop (mkF m 136 #[iv mr, iv wr, iv pr, iv cr, iv er, iv 3, iv ((wr &&& (2147483647 : Int32)) % (3 : Int32)), .unset, iv 2, .unset, .unset] [(.int 2), (.ref b211), (.ref b211)])) (fun t k => XS.iload X211.here hx rfl (hb hby at_134) rfl  k) ?_
      refine own_go (b := T211.setTop (mkF m 137 #[iv mr, iv wr, iv pr, iv cr, iv er, iv 3, iv ((wr &&& (2147483647 : Int32)) % (3 : Int32)), .unset, iv 2, .unset, .unset] [(.int cr), (.int 2), (.ref b211), (.ref b211)])) (fun t k => XS.iloadN X211.here hx rfl (hb hby at_136) rfl  k) ?_
      obtain ⟨_, _, ⟨T212, L212, k212, n212⟩, -, X212, ⟨Lc212, hQ212, l212, y212, z212⟩, st212⟩ := Jvm.LawKit.callS X211 hx (y := (⟨"com/example/fault/fault/EnvelopeNamedPinLaw", "drawn", "(II)[C"⟩ : MethodName)) hown (mvT hZ (hw _ (List.mem_of_getElem? (i := 104) rfl))) (mvT hZ (hw _ (List.mem_of_getElem? (i := 105) rfl))) (mvT hZ (hw _ (List.mem_of_getElem? (i := 6) rfl))) (mvT hZ (hw _ (List.mem_of_getElem? (i := 106) rfl))) (by decide) (backOf (W := 2) (rm18_2 l Z a0 hw [] (2 : Int32) cr  h211 n0 Zs211 rfl) hZ (hw _ (List.mem_of_getElem? (i := 106) rfl)) (hw _ (List.mem_of_getElem? (i := 6) rfl)) (by decide) (by decide)) (g := (mkF m 137 #[iv mr, iv wr, iv pr, iv cr, iv er, iv 3, iv ((wr &&& (2147483647 : Int32)) % (3 : Int32)), .unset, iv 2, .unset, .unset] [(.int cr), (.int 2), (.ref b211), (.ref b211)])) rfl (by rw [hml]; rfl) (argsL := [(.int 2), (.int cr)]) (rest := [(.ref b211), (.ref b211)]) (lenOf pd_15 rfl) rfl (by show 2 * 0 + _ ≤ _; exact Nat.le_of_eq rfl) (hb hby at_137) (fun _ _ => ⟨rfl, e211, (by decide : 1 + 1 ≤ _), (by decide : 4 + 2 ≤ _)⟩)
      dsimp only [Pt.U, Pt.locs, Pt.cells, Pt.slots] at X212 l212 y212 z212 st212 hQ212
      subst l212 y212 z212
      obtain ⟨ba212, kc212, rfl, N212q, K212, g_ba212, sz_ba212, Va212⟩ := hQ212
      have Zs212 : n0 ≤ T212.heap.size := Nat.le_trans Zs211 K212.1
      have N212 := Fr.app N0 N212q
      have Ol212 := Ol211.keep K212 all0
      obtain ⟨lq212, X212, N212⟩ : ∃ lq, Stand p l e room_1 (s.setVm s.vm) m #[(.int mr), (.int wr), (.int pr), (.int cr), (.int er)] below meth c T212 lq 2 6 ∧ Fr n0 lq := ⟨_, X212, N212⟩
      refine own_go (b := T212.setTop (mkF m 140 #[iv mr, iv wr, iv pr, iv cr, iv er, iv 3, iv ((wr &&& (2147483647 : Int32)) % (3 : Int32)), .unset, iv 2, .unset, .unset] [(.ref ba212), (.ref b211), (.ref b211)])) st212 ?_
      have hp214 : ∀ c ∈ ([(nar .char ((cr &&& (255 : Int32)).toUInt32.toUInt16.toUInt32.toInt32)), (nar .char ((((cr.toUInt32 >>> ((8 : Int32) &&& 31).toUInt32).toInt32) &&& (255 : Int32)).toUInt32.toUInt16.toUInt32.toInt32))] : List Int32), ¬ c < 0 ∧ ¬ (255 : Int32) < c := by
        intro c hc
        simp only [List.mem_cons, List.not_mem_nil, or_false] at hc
        rcases hc with rfl | rfl
        · exact own_and255 cr
        · exact own_and255 ((cr.toUInt32 >>> ((8 : Int32) &&& 31).toUInt32).toInt32)
      obtain ⟨_, _, ⟨T213, L213, k213, n213⟩, -, X213, ⟨Lc213, hQ213, l213, y213, z213⟩, st213⟩ := X212.specialBack hx (y := (⟨"java/lang/String", "<init>", "([C)V"⟩ : MethodName)) rfl hown (mvT hZ (hw _ (List.mem_of_getElem? (i := 9) rfl))) (mvT hZ (hw _ (List.mem_of_getElem? (i := 10) rfl))) (mvT hZ (hw _ (List.mem_of_getElem? (i := 11) rfl))) (by decide) (StrChars.Road.backV (W := 1) hZ hws (kI := 4) (hw _ (List.mem_of_getElem? (i := 2) rfl)) (cs := ([(nar .char ((cr &&& (255 : Int32)).toUInt32.toUInt16.toUInt32.toInt32)), (nar .char ((((cr.toUInt32 >>> ((8 : Int32) &&& 31).toUInt32).toInt32) &&& (255 : Int32)).toUInt32.toUInt16.toUInt32.toInt32))] : List Int32)) (bs := (([(nar .char ((cr &&& (255 : Int32)).toUInt32.toUInt16.toUInt32.toInt32)), (nar .char ((((cr.toUInt32 >>> ((8 : Int32) &&& 31).toUInt32).toInt32) &&& (255 : Int32)).toUInt32.toUInt16.toUInt32.toInt32))] : List Int32)).map (fun c => c.toInt8.toInt32)) (n := 2) g_b211 Zs212 (A211.keep K212) (F_value_b211.keep K212 nin0) (F_coder_b211.keep K212 nin0) Va212 (O2.ext Ol212.2) P5 rfl rfl (by decide) (by decide) hp214 rfl (by decide) (by decide)) (g := (mkF m 140 #[iv mr, iv wr, iv pr, iv cr, iv er, iv 3, iv ((wr &&& (2147483647 : Int32)) % (3 : Int32)), .unset, iv 2, .unset, .unset] [(.ref ba212), (.ref b211), (.ref b211)])) rfl (by rw [hml]; rfl) (Steps.refl _) (a := b211) (argsL := [(.ref ba212)]) (rest := [(.ref b211)]) (lenOf pd_13 rfl) rfl (by show 2 * 0 + _ ≤ _; exact Nat.le_of_eq rfl) (hb hby at_140) (fun _ _ => ⟨rfl, rfl, (by decide : 2 + 1 ≤ _), (by decide : 6 + 2 ≤ _)⟩)
      dsimp only [Pt.U, Pt.locs, Pt.cells, Pt.slots] at X213 l213 y213 z213 st213 hQ213
      subst l213 y213 z213
      obtain ⟨rfl, N213q, K213, Es213, Cs213, t213, kb213, ua213, ub213, uc213, Vs213, Ks213⟩ := hQ213
      have Zs213 : n0 ≤ T213.heap.size := Nat.le_trans Zs212 K213.1
      have N213 := Fr.app N212 N213q
      have Ol213 := Ol212.keep K213 (allS g_b211 all0)
      obtain ⟨lq213, X213, N213⟩ : ∃ lq, Stand p l e room_1 (s.setVm s.vm) m #[(.int mr), (.int wr), (.int pr), (.int cr), (.int er)] below meth c T213 lq 3 8 ∧ Fr n0 lq := ⟨_, X213, N213⟩
      refine own_tr (b := T213.setTop (mkF m 143 #[iv mr, iv wr, iv pr, iv cr, iv er, iv 3, iv ((wr &&& (2147483647 : Int32)) % (3 : Int32)), .unset, iv 2, .unset, .unset] [(.ref b211)])) st213 ?_
      refine own_go (b := T213.setTop (mkF m 145 #[iv mr, iv wr, iv pr, iv cr, iv er, iv 3, iv ((wr &&& (2147483647 : Int32)) % (3 : Int32)), rv b211, iv 2, .unset, .unset] [])) (fun t k => XS.astore X213.here hx rfl (hb hby at_143) rfl rfl (l' := #[iv mr, iv wr, iv pr, iv cr, iv er, iv 3, iv ((wr &&& (2147483647 : Int32)) % (3 : Int32)), rv b211, iv 2, .unset, .unset]) rfl k) ?_
      refine own_go (b := T213.setTop (mkF m 155 #[iv mr, iv wr, iv pr, iv cr, iv er, iv 3, iv ((wr &&& (2147483647 : Int32)) % (3 : Int32)), rv b211, iv 2, .unset, .unset] [])) (fun t k => XS.goto X213.here hx rfl (pc0 := 145) (pc' := 155) rfl (hb hby at_145) (by decide) (by decide) k) ?_
      exact J155 T213 T213.heap _ s.vm _ (3 : Int32) ((wr &&& (2147483647 : Int32)) % (3 : Int32)) b211 ([(nar .char ((cr &&& (255 : Int32)).toUInt32.toUInt16.toUInt32.toInt32)), (nar .char ((((cr.toUInt32 >>> ((8 : Int32) &&& 31).toUInt32).toInt32) &&& (255 : Int32)).toUInt32.toUInt16.toUInt32.toInt32))] : List Int32) (iv 2) (.unset) (own_mono X213 (by decide) (by decide)) rfl N213 Zs213 Ol213 hS0 (((Le0.ext E211).keep K212).keep K213) hZ hown (own_IBm I0 rfl (by simp)) ⟨t213, _, Es213, Vs213, Cs213, Ks213, hp214, (Nat.le_of_ble_eq_true rfl)⟩ (Or.inr ⟨_, rfl, rfl⟩) (Or.inl rfl)
    | 3, _, hX203 =>
      replace hX203 : ((er &&& (2147483647 : Int32)) % (5 : Int32)) = (3 : Int32) := hX203
      rw [hX203]
      obtain ⟨T215, h215, X215, e215, E215, A215, D215, -, st215⟩ := newO X0 hx hZ hown (hw _ (List.mem_of_getElem? (i := 1) rfl)) (hw _ (List.mem_of_getElem? (i := 2) rfl)) (hw _ (List.mem_of_getElem? (i := 3) rfl)) e0 (g := (mkF m 130 #[iv mr, iv wr, iv pr, iv cr, iv er, iv 3, iv ((wr &&& (2147483647 : Int32)) % (3 : Int32)), .unset, iv 3, .unset, .unset] [])) rfl (hb hby at_130) (by decide) (by decide)
      obtain ⟨b215, g215⟩ : ∃ z, z = h0.size := ⟨_, rfl⟩
      rw [← g215] at A215 D215 st215
      have g_b215 : n0 ≤ b215 := Nat.le_trans Z0 (Nat.le_of_eq g215.symm)
      have Zs215 : n0 ≤ h215.size := Nat.le_trans Z0 E215.1
      have Ol215 := Od.ext E215
      have F_coder_b215 : Fld Z h215 b215 "java/lang/String" "coder" "B" (.int 0) := D215 (Or.inr (hw _ (List.mem_of_getElem? (i := 32) rfl))) (ty := .byte) (by decide)
      have F_value_b215 : Fld Z h215 b215 "java/lang/String" "value" "[B" .null := D215 (Or.inr (hw _ (List.mem_of_getElem? (i := 34) rfl))) (ty := (.array .byte)) (by decide)
      refine own_go (b := T215.setTop (mkF m 133 #[iv mr, iv wr, iv pr, iv cr, iv er, iv 3, iv ((wr &&& (2147483647 : Int32)) % (3 : Int32)), .unset, iv 3, .unset, .unset] [(.ref b215)])) st215 ?_
      refine own_go (b := T215.setTop (mkF m 134 #[iv mr, iv wr, iv pr, iv cr, iv er, iv 3, iv ((wr &&& (2147483647 : Int32)) % (3 : Int32)), .unset, iv 3, .unset, .unset] [(.ref b215), (.ref b215)])) (fun t k => XS.dup X215.here hx rfl (hb hby at_133) rfl rfl k) ?_
      refine own_go (b := T215.setTop (mkF m 136 #[iv mr, iv wr, iv pr, iv cr, iv er, iv 3, iv ((wr &&& (2147483647 : Int32)) % (3 : Int32)), .unset, iv 3, .unset, .unset] [(.int 3), (.ref b215), (.ref b215)])) (fun t k => XS.iload X215.here hx rfl (hb hby at_134) rfl  k) ?_
      refine own_go (b := T215.setTop (mkF m 137 #[iv mr, iv wr, iv pr, iv cr, iv er, iv 3, iv ((wr &&& (2147483647 : Int32)) % (3 : Int32)), .unset, iv 3, .unset, .unset] [(.int cr), (.int 3), (.ref b215), (.ref b215)])) (fun t k => XS.iloadN X215.here hx rfl (hb hby at_136) rfl  k) ?_
      obtain ⟨_, _, ⟨T216, L216, k216, n216⟩, -, X216, ⟨Lc216, hQ216, l216, y216, z216⟩, st216⟩ := Jvm.LawKit.callS X215 hx (y := (⟨"com/example/fault/fault/EnvelopeNamedPinLaw", "drawn", "(II)[C"⟩ : MethodName)) hown (mvT hZ (hw _ (List.mem_of_getElem? (i := 104) rfl))) (mvT hZ (hw _ (List.mem_of_getElem? (i := 105) rfl))) (mvT hZ (hw _ (List.mem_of_getElem? (i := 6) rfl))) (mvT hZ (hw _ (List.mem_of_getElem? (i := 106) rfl))) (by decide) (backOf (W := 2) (rm18_3 l Z a0 hw [] (3 : Int32) cr  h215 n0 Zs215 rfl) hZ (hw _ (List.mem_of_getElem? (i := 106) rfl)) (hw _ (List.mem_of_getElem? (i := 6) rfl)) (by decide) (by decide)) (g := (mkF m 137 #[iv mr, iv wr, iv pr, iv cr, iv er, iv 3, iv ((wr &&& (2147483647 : Int32)) % (3 : Int32)), .unset, iv 3, .unset, .unset] [(.int cr), (.int 3), (.ref b215), (.ref b215)])) rfl (by rw [hml]; rfl) (argsL := [(.int 3), (.int cr)]) (rest := [(.ref b215), (.ref b215)]) (lenOf pd_15 rfl) rfl (by show 2 * 0 + _ ≤ _; exact Nat.le_of_eq rfl) (hb hby at_137) (fun _ _ => ⟨rfl, e215, (by decide : 1 + 1 ≤ _), (by decide : 4 + 3 ≤ _)⟩)
      dsimp only [Pt.U, Pt.locs, Pt.cells, Pt.slots] at X216 l216 y216 z216 st216 hQ216
      subst l216 y216 z216
      obtain ⟨ba216, kc216, rfl, N216q, K216, g_ba216, sz_ba216, Va216⟩ := hQ216
      have Zs216 : n0 ≤ T216.heap.size := Nat.le_trans Zs215 K216.1
      have N216 := Fr.app N0 N216q
      have Ol216 := Ol215.keep K216 all0
      obtain ⟨lq216, X216, N216⟩ : ∃ lq, Stand p l e room_1 (s.setVm s.vm) m #[(.int mr), (.int wr), (.int pr), (.int cr), (.int er)] below meth c T216 lq 2 7 ∧ Fr n0 lq := ⟨_, X216, N216⟩
      refine own_go (b := T216.setTop (mkF m 140 #[iv mr, iv wr, iv pr, iv cr, iv er, iv 3, iv ((wr &&& (2147483647 : Int32)) % (3 : Int32)), .unset, iv 3, .unset, .unset] [(.ref ba216), (.ref b215), (.ref b215)])) st216 ?_
      have hp218 : ∀ c ∈ ([(nar .char ((cr &&& (255 : Int32)).toUInt32.toUInt16.toUInt32.toInt32)), (nar .char ((((cr.toUInt32 >>> ((8 : Int32) &&& 31).toUInt32).toInt32) &&& (255 : Int32)).toUInt32.toUInt16.toUInt32.toInt32)), (nar .char ((((cr.toUInt32 >>> ((16 : Int32) &&& 31).toUInt32).toInt32) &&& (255 : Int32)).toUInt32.toUInt16.toUInt32.toInt32))] : List Int32), ¬ c < 0 ∧ ¬ (255 : Int32) < c := by
        intro c hc
        simp only [List.mem_cons, List.not_mem_nil, or_false] at hc
        rcases hc with rfl | rfl | rfl
        · exact own_and255 cr
        · exact own_and255 ((cr.toUInt32 >>> ((8 : Int32) &&& 31).toUInt32).toInt32)
        · exact own_and255 ((cr.toUInt32 >>> ((16 : Int32) &&& 31).toUInt32).toInt32)
      obtain ⟨_, _, ⟨T217, L217, k217, n217⟩, -, X217, ⟨Lc217, hQ217, l217, y217, z217⟩, st217⟩ := X216.specialBack hx (y := (⟨"java/lang/String", "<init>", "([C)V"⟩ : MethodName)) rfl hown (mvT hZ (hw _ (List.mem_of_getElem? (i := 9) rfl))) (mvT hZ (hw _ (List.mem_of_getElem? (i := 10) rfl))) (mvT hZ (hw _ (List.mem_of_getElem? (i := 11) rfl))) (by decide) (StrChars.Road.backV (W := 1) hZ hws (kI := 4) (hw _ (List.mem_of_getElem? (i := 2) rfl)) (cs := ([(nar .char ((cr &&& (255 : Int32)).toUInt32.toUInt16.toUInt32.toInt32)), (nar .char ((((cr.toUInt32 >>> ((8 : Int32) &&& 31).toUInt32).toInt32) &&& (255 : Int32)).toUInt32.toUInt16.toUInt32.toInt32)), (nar .char ((((cr.toUInt32 >>> ((16 : Int32) &&& 31).toUInt32).toInt32) &&& (255 : Int32)).toUInt32.toUInt16.toUInt32.toInt32))] : List Int32)) (bs := (([(nar .char ((cr &&& (255 : Int32)).toUInt32.toUInt16.toUInt32.toInt32)), (nar .char ((((cr.toUInt32 >>> ((8 : Int32) &&& 31).toUInt32).toInt32) &&& (255 : Int32)).toUInt32.toUInt16.toUInt32.toInt32)), (nar .char ((((cr.toUInt32 >>> ((16 : Int32) &&& 31).toUInt32).toInt32) &&& (255 : Int32)).toUInt32.toUInt16.toUInt32.toInt32))] : List Int32)).map (fun c => c.toInt8.toInt32)) (n := 3) g_b215 Zs216 (A215.keep K216) (F_value_b215.keep K216 nin0) (F_coder_b215.keep K216 nin0) Va216 (O2.ext Ol216.2) P5 rfl rfl (by decide) (by decide) hp218 rfl (by decide) (by decide)) (g := (mkF m 140 #[iv mr, iv wr, iv pr, iv cr, iv er, iv 3, iv ((wr &&& (2147483647 : Int32)) % (3 : Int32)), .unset, iv 3, .unset, .unset] [(.ref ba216), (.ref b215), (.ref b215)])) rfl (by rw [hml]; rfl) (Steps.refl _) (a := b215) (argsL := [(.ref ba216)]) (rest := [(.ref b215)]) (lenOf pd_13 rfl) rfl (by show 2 * 0 + _ ≤ _; exact Nat.le_of_eq rfl) (hb hby at_140) (fun _ _ => ⟨rfl, rfl, (by decide : 2 + 1 ≤ _), (by decide : 7 + 3 ≤ _)⟩)
      dsimp only [Pt.U, Pt.locs, Pt.cells, Pt.slots] at X217 l217 y217 z217 st217 hQ217
      subst l217 y217 z217
      obtain ⟨rfl, N217q, K217, Es217, Cs217, t217, kb217, ua217, ub217, uc217, Vs217, Ks217⟩ := hQ217
      have Zs217 : n0 ≤ T217.heap.size := Nat.le_trans Zs216 K217.1
      have N217 := Fr.app N216 N217q
      have Ol217 := Ol216.keep K217 (allS g_b215 all0)
      obtain ⟨lq217, X217, N217⟩ : ∃ lq, Stand p l e room_1 (s.setVm s.vm) m #[(.int mr), (.int wr), (.int pr), (.int cr), (.int er)] below meth c T217 lq 3 10 ∧ Fr n0 lq := ⟨_, X217, N217⟩
      refine own_tr (b := T217.setTop (mkF m 143 #[iv mr, iv wr, iv pr, iv cr, iv er, iv 3, iv ((wr &&& (2147483647 : Int32)) % (3 : Int32)), .unset, iv 3, .unset, .unset] [(.ref b215)])) st217 ?_
      refine own_go (b := T217.setTop (mkF m 145 #[iv mr, iv wr, iv pr, iv cr, iv er, iv 3, iv ((wr &&& (2147483647 : Int32)) % (3 : Int32)), rv b215, iv 3, .unset, .unset] [])) (fun t k => XS.astore X217.here hx rfl (hb hby at_143) rfl rfl (l' := #[iv mr, iv wr, iv pr, iv cr, iv er, iv 3, iv ((wr &&& (2147483647 : Int32)) % (3 : Int32)), rv b215, iv 3, .unset, .unset]) rfl k) ?_
      refine own_go (b := T217.setTop (mkF m 155 #[iv mr, iv wr, iv pr, iv cr, iv er, iv 3, iv ((wr &&& (2147483647 : Int32)) % (3 : Int32)), rv b215, iv 3, .unset, .unset] [])) (fun t k => XS.goto X217.here hx rfl (pc0 := 145) (pc' := 155) rfl (hb hby at_145) (by decide) (by decide) k) ?_
      exact J155 T217 T217.heap _ s.vm _ (3 : Int32) ((wr &&& (2147483647 : Int32)) % (3 : Int32)) b215 ([(nar .char ((cr &&& (255 : Int32)).toUInt32.toUInt16.toUInt32.toInt32)), (nar .char ((((cr.toUInt32 >>> ((8 : Int32) &&& 31).toUInt32).toInt32) &&& (255 : Int32)).toUInt32.toUInt16.toUInt32.toInt32)), (nar .char ((((cr.toUInt32 >>> ((16 : Int32) &&& 31).toUInt32).toInt32) &&& (255 : Int32)).toUInt32.toUInt16.toUInt32.toInt32))] : List Int32) (iv 3) (.unset) (own_mono X217 (by decide) (by decide)) rfl N217 Zs217 Ol217 hS0 (((Le0.ext E215).keep K216).keep K217) hZ hown (own_IBm I0 rfl (by simp)) ⟨t217, _, Es217, Vs217, Cs217, Ks217, hp218, (Nat.le_of_ble_eq_true rfl)⟩ (Or.inr ⟨_, rfl, rfl⟩) (Or.inl rfl)
    | 4, _, hX203 =>
      replace hX203 : ((er &&& (2147483647 : Int32)) % (5 : Int32)) = (4 : Int32) := hX203
      rw [hX203]
      obtain ⟨T219, h219, X219, e219, E219, A219, D219, -, st219⟩ := newO X0 hx hZ hown (hw _ (List.mem_of_getElem? (i := 1) rfl)) (hw _ (List.mem_of_getElem? (i := 2) rfl)) (hw _ (List.mem_of_getElem? (i := 3) rfl)) e0 (g := (mkF m 130 #[iv mr, iv wr, iv pr, iv cr, iv er, iv 3, iv ((wr &&& (2147483647 : Int32)) % (3 : Int32)), .unset, iv 4, .unset, .unset] [])) rfl (hb hby at_130) (by decide) (by decide)
      obtain ⟨b219, g219⟩ : ∃ z, z = h0.size := ⟨_, rfl⟩
      rw [← g219] at A219 D219 st219
      have g_b219 : n0 ≤ b219 := Nat.le_trans Z0 (Nat.le_of_eq g219.symm)
      have Zs219 : n0 ≤ h219.size := Nat.le_trans Z0 E219.1
      have Ol219 := Od.ext E219
      have F_coder_b219 : Fld Z h219 b219 "java/lang/String" "coder" "B" (.int 0) := D219 (Or.inr (hw _ (List.mem_of_getElem? (i := 32) rfl))) (ty := .byte) (by decide)
      have F_value_b219 : Fld Z h219 b219 "java/lang/String" "value" "[B" .null := D219 (Or.inr (hw _ (List.mem_of_getElem? (i := 34) rfl))) (ty := (.array .byte)) (by decide)
      refine own_go (b := T219.setTop (mkF m 133 #[iv mr, iv wr, iv pr, iv cr, iv er, iv 3, iv ((wr &&& (2147483647 : Int32)) % (3 : Int32)), .unset, iv 4, .unset, .unset] [(.ref b219)])) st219 ?_
      refine own_go (b := T219.setTop (mkF m 134 #[iv mr, iv wr, iv pr, iv cr, iv er, iv 3, iv ((wr &&& (2147483647 : Int32)) % (3 : Int32)), .unset, iv 4, .unset, .unset] [(.ref b219), (.ref b219)])) (fun t k => XS.dup X219.here hx rfl (hb hby at_133) rfl rfl k) ?_
      refine own_go (b := T219.setTop (mkF m 136 #[iv mr, iv wr, iv pr, iv cr, iv er, iv 3, iv ((wr &&& (2147483647 : Int32)) % (3 : Int32)), .unset, iv 4, .unset, .unset] [(.int 4), (.ref b219), (.ref b219)])) (fun t k => XS.iload X219.here hx rfl (hb hby at_134) rfl  k) ?_
      refine own_go (b := T219.setTop (mkF m 137 #[iv mr, iv wr, iv pr, iv cr, iv er, iv 3, iv ((wr &&& (2147483647 : Int32)) % (3 : Int32)), .unset, iv 4, .unset, .unset] [(.int cr), (.int 4), (.ref b219), (.ref b219)])) (fun t k => XS.iloadN X219.here hx rfl (hb hby at_136) rfl  k) ?_
      obtain ⟨_, _, ⟨T220, L220, k220, n220⟩, -, X220, ⟨Lc220, hQ220, l220, y220, z220⟩, st220⟩ := Jvm.LawKit.callS X219 hx (y := (⟨"com/example/fault/fault/EnvelopeNamedPinLaw", "drawn", "(II)[C"⟩ : MethodName)) hown (mvT hZ (hw _ (List.mem_of_getElem? (i := 104) rfl))) (mvT hZ (hw _ (List.mem_of_getElem? (i := 105) rfl))) (mvT hZ (hw _ (List.mem_of_getElem? (i := 6) rfl))) (mvT hZ (hw _ (List.mem_of_getElem? (i := 106) rfl))) (by decide) (backOf (W := 2) (rm18_4 l Z a0 hw [] (4 : Int32) cr  h219 n0 Zs219 rfl) hZ (hw _ (List.mem_of_getElem? (i := 106) rfl)) (hw _ (List.mem_of_getElem? (i := 6) rfl)) (by decide) (by decide)) (g := (mkF m 137 #[iv mr, iv wr, iv pr, iv cr, iv er, iv 3, iv ((wr &&& (2147483647 : Int32)) % (3 : Int32)), .unset, iv 4, .unset, .unset] [(.int cr), (.int 4), (.ref b219), (.ref b219)])) rfl (by rw [hml]; rfl) (argsL := [(.int 4), (.int cr)]) (rest := [(.ref b219), (.ref b219)]) (lenOf pd_15 rfl) rfl (by show 2 * 0 + _ ≤ _; exact Nat.le_of_eq rfl) (hb hby at_137) (fun _ _ => ⟨rfl, e219, (by decide : 1 + 1 ≤ _), (by decide : 4 + 4 ≤ _)⟩)
      dsimp only [Pt.U, Pt.locs, Pt.cells, Pt.slots] at X220 l220 y220 z220 st220 hQ220
      subst l220 y220 z220
      obtain ⟨ba220, kc220, rfl, N220q, K220, g_ba220, sz_ba220, Va220⟩ := hQ220
      have Zs220 : n0 ≤ T220.heap.size := Nat.le_trans Zs219 K220.1
      have N220 := Fr.app N0 N220q
      have Ol220 := Ol219.keep K220 all0
      obtain ⟨lq220, X220, N220⟩ : ∃ lq, Stand p l e room_1 (s.setVm s.vm) m #[(.int mr), (.int wr), (.int pr), (.int cr), (.int er)] below meth c T220 lq 2 8 ∧ Fr n0 lq := ⟨_, X220, N220⟩
      refine own_go (b := T220.setTop (mkF m 140 #[iv mr, iv wr, iv pr, iv cr, iv er, iv 3, iv ((wr &&& (2147483647 : Int32)) % (3 : Int32)), .unset, iv 4, .unset, .unset] [(.ref ba220), (.ref b219), (.ref b219)])) st220 ?_
      have hp222 : ∀ c ∈ ([(nar .char ((cr &&& (255 : Int32)).toUInt32.toUInt16.toUInt32.toInt32)), (nar .char ((((cr.toUInt32 >>> ((8 : Int32) &&& 31).toUInt32).toInt32) &&& (255 : Int32)).toUInt32.toUInt16.toUInt32.toInt32)), (nar .char ((((cr.toUInt32 >>> ((16 : Int32) &&& 31).toUInt32).toInt32) &&& (255 : Int32)).toUInt32.toUInt16.toUInt32.toInt32)), (nar .char ((((cr.toUInt32 >>> ((24 : Int32) &&& 31).toUInt32).toInt32) &&& (255 : Int32)).toUInt32.toUInt16.toUInt32.toInt32))] : List Int32), ¬ c < 0 ∧ ¬ (255 : Int32) < c := by
        intro c hc
        simp only [List.mem_cons, List.not_mem_nil, or_false] at hc
        rcases hc with rfl | rfl | rfl | rfl
        · exact own_and255 cr
        · exact own_and255 ((cr.toUInt32 >>> ((8 : Int32) &&& 31).toUInt32).toInt32)
        · exact own_and255 ((cr.toUInt32 >>> ((16 : Int32) &&& 31).toUInt32).toInt32)
        · exact own_and255 ((cr.toUInt32 >>> ((24 : Int32) &&& 31).toUInt32).toInt32)
      obtain ⟨_, _, ⟨T221, L221, k221, n221⟩, -, X221, ⟨Lc221, hQ221, l221, y221, z221⟩, st221⟩ := X220.specialBack hx (y := (⟨"java/lang/String", "<init>", "([C)V"⟩ : MethodName)) rfl hown (mvT hZ (hw _ (List.mem_of_getElem? (i := 9) rfl))) (mvT hZ (hw _ (List.mem_of_getElem? (i := 10) rfl))) (mvT hZ (hw _ (List.mem_of_getElem? (i := 11) rfl))) (by decide) (StrChars.Road.backV (W := 1) hZ hws (kI := 4) (hw _ (List.mem_of_getElem? (i := 2) rfl)) (cs := ([(nar .char ((cr &&& (255 : Int32)).toUInt32.toUInt16.toUInt32.toInt32)), (nar .char ((((cr.toUInt32 >>> ((8 : Int32) &&& 31).toUInt32).toInt32) &&& (255 : Int32)).toUInt32.toUInt16.toUInt32.toInt32)), (nar .char ((((cr.toUInt32 >>> ((16 : Int32) &&& 31).toUInt32).toInt32) &&& (255 : Int32)).toUInt32.toUInt16.toUInt32.toInt32)), (nar .char ((((cr.toUInt32 >>> ((24 : Int32) &&& 31).toUInt32).toInt32) &&& (255 : Int32)).toUInt32.toUInt16.toUInt32.toInt32))] : List Int32)) (bs := (([(nar .char ((cr &&& (255 : Int32)).toUInt32.toUInt16.toUInt32.toInt32)), (nar .char ((((cr.toUInt32 >>> ((8 : Int32) &&& 31).toUInt32).toInt32) &&& (255 : Int32)).toUInt32.toUInt16.toUInt32.toInt32)), (nar .char ((((cr.toUInt32 >>> ((16 : Int32) &&& 31).toUInt32).toInt32) &&& (255 : Int32)).toUInt32.toUInt16.toUInt32.toInt32)), (nar .char ((((cr.toUInt32 >>> ((24 : Int32) &&& 31).toUInt32).toInt32) &&& (255 : Int32)).toUInt32.toUInt16.toUInt32.toInt32))] : List Int32)).map (fun c => c.toInt8.toInt32)) (n := 4) g_b219 Zs220 (A219.keep K220) (F_value_b219.keep K220 nin0) (F_coder_b219.keep K220 nin0) Va220 (O2.ext Ol220.2) P5 rfl rfl (by decide) (by decide) hp222 rfl (by decide) (by decide)) (g := (mkF m 140 #[iv mr, iv wr, iv pr, iv cr, iv er, iv 3, iv ((wr &&& (2147483647 : Int32)) % (3 : Int32)), .unset, iv 4, .unset, .unset] [(.ref ba220), (.ref b219), (.ref b219)])) rfl (by rw [hml]; rfl) (Steps.refl _) (a := b219) (argsL := [(.ref ba220)]) (rest := [(.ref b219)]) (lenOf pd_13 rfl) rfl (by show 2 * 0 + _ ≤ _; exact Nat.le_of_eq rfl) (hb hby at_140) (fun _ _ => ⟨rfl, rfl, (by decide : 2 + 1 ≤ _), (by decide : 8 + 4 ≤ _)⟩)
      dsimp only [Pt.U, Pt.locs, Pt.cells, Pt.slots] at X221 l221 y221 z221 st221 hQ221
      subst l221 y221 z221
      obtain ⟨rfl, N221q, K221, Es221, Cs221, t221, kb221, ua221, ub221, uc221, Vs221, Ks221⟩ := hQ221
      have Zs221 : n0 ≤ T221.heap.size := Nat.le_trans Zs220 K221.1
      have N221 := Fr.app N220 N221q
      have Ol221 := Ol220.keep K221 (allS g_b219 all0)
      obtain ⟨lq221, X221, N221⟩ : ∃ lq, Stand p l e room_1 (s.setVm s.vm) m #[(.int mr), (.int wr), (.int pr), (.int cr), (.int er)] below meth c T221 lq 3 12 ∧ Fr n0 lq := ⟨_, X221, N221⟩
      refine own_tr (b := T221.setTop (mkF m 143 #[iv mr, iv wr, iv pr, iv cr, iv er, iv 3, iv ((wr &&& (2147483647 : Int32)) % (3 : Int32)), .unset, iv 4, .unset, .unset] [(.ref b219)])) st221 ?_
      refine own_go (b := T221.setTop (mkF m 145 #[iv mr, iv wr, iv pr, iv cr, iv er, iv 3, iv ((wr &&& (2147483647 : Int32)) % (3 : Int32)), rv b219, iv 4, .unset, .unset] [])) (fun t k => XS.astore X221.here hx rfl (hb hby at_143) rfl rfl (l' := #[iv mr, iv wr, iv pr, iv cr, iv er, iv 3, iv ((wr &&& (2147483647 : Int32)) % (3 : Int32)), rv b219, iv 4, .unset, .unset]) rfl k) ?_
      refine own_go (b := T221.setTop (mkF m 155 #[iv mr, iv wr, iv pr, iv cr, iv er, iv 3, iv ((wr &&& (2147483647 : Int32)) % (3 : Int32)), rv b219, iv 4, .unset, .unset] [])) (fun t k => XS.goto X221.here hx rfl (pc0 := 145) (pc' := 155) rfl (hb hby at_145) (by decide) (by decide) k) ?_
      exact J155 T221 T221.heap _ s.vm _ (3 : Int32) ((wr &&& (2147483647 : Int32)) % (3 : Int32)) b219 ([(nar .char ((cr &&& (255 : Int32)).toUInt32.toUInt16.toUInt32.toInt32)), (nar .char ((((cr.toUInt32 >>> ((8 : Int32) &&& 31).toUInt32).toInt32) &&& (255 : Int32)).toUInt32.toUInt16.toUInt32.toInt32)), (nar .char ((((cr.toUInt32 >>> ((16 : Int32) &&& 31).toUInt32).toInt32) &&& (255 : Int32)).toUInt32.toUInt16.toUInt32.toInt32)), (nar .char ((((cr.toUInt32 >>> ((24 : Int32) &&& 31).toUInt32).toInt32) &&& (255 : Int32)).toUInt32.toUInt16.toUInt32.toInt32))] : List Int32) (iv 4) (.unset) (own_mono X221 (by decide) (by decide)) rfl N221 Zs221 Ol221 hS0 (((Le0.ext E219).keep K220).keep K221) hZ hown (own_IBm I0 rfl (by simp)) ⟨t221, _, Es221, Vs221, Cs221, Ks221, hp222, (Nat.le_of_ble_eq_true rfl)⟩ (Or.inr ⟨_, rfl, rfl⟩) (Or.inl rfl)
    | j + 5, h, _ => omega
  | 4, _, hX16 =>
    replace hX16 : ((mr &&& (2147483647 : Int32)) % (5 : Int32)) = (4 : Int32) := hX16
    rw [hX16]
    refine own_go (b := s₁.setTop (mkF m 18 #[iv mr, iv wr, iv pr, iv cr, iv er, iv 4, iv ((wr &&& (2147483647 : Int32)) % (3 : Int32)), .unset, .unset, .unset, .unset] [(.int 4)])) (fun t k => XS.iload X0.here hx rfl (hb hby at_16) rfl  k) ?_
    refine own_go (b := s₁.setTop (mkF m 38 #[iv mr, iv wr, iv pr, iv cr, iv er, iv 4, iv ((wr &&& (2147483647 : Int32)) % (3 : Int32)), .unset, .unset, .unset, .unset] [])) (fun t k => XS.ifYes X0.here hx rfl (pc0 := 18) (pc' := 38) rfl (hb hby at_18) rfl ((if0 _ _).trans (feq (by decide : ¬ ((4 : Int32) = (0 : Int32)))).2) (by decide) (by decide) k) ?_
    refine own_go (b := s₁.setTop (mkF m 40 #[iv mr, iv wr, iv pr, iv cr, iv er, iv 4, iv ((wr &&& (2147483647 : Int32)) % (3 : Int32)), .unset, .unset, .unset, .unset] [(.int 4)])) (fun t k => XS.iload X0.here hx rfl (hb hby at_38) rfl  k) ?_
    refine own_go (b := s₁.setTop (mkF m 41 #[iv mr, iv wr, iv pr, iv cr, iv er, iv 4, iv ((wr &&& (2147483647 : Int32)) % (3 : Int32)), .unset, .unset, .unset, .unset] [(.int 1), (.int 4)])) (fun t k => XS.iconst X0.here hx rfl (hb hby at_40) k) ?_
    refine own_go (b := s₁.setTop (mkF m 86 #[iv mr, iv wr, iv pr, iv cr, iv er, iv 4, iv ((wr &&& (2147483647 : Int32)) % (3 : Int32)), .unset, .unset, .unset, .unset] [])) (fun t k => XS.icmpYes X0.here hx rfl (pc0 := 41) (pc' := 86) rfl (hb hby at_41) rfl (feq (by decide : ¬ ((4 : Int32) = (1 : Int32)))).2 (by decide) (by decide) k) ?_
    refine own_go (b := s₁.setTop (mkF m 88 #[iv mr, iv wr, iv pr, iv cr, iv er, iv 4, iv ((wr &&& (2147483647 : Int32)) % (3 : Int32)), .unset, .unset, .unset, .unset] [(.int 4)])) (fun t k => XS.iload X0.here hx rfl (hb hby at_86) rfl  k) ?_
    refine own_go (b := s₁.setTop (mkF m 89 #[iv mr, iv wr, iv pr, iv cr, iv er, iv 4, iv ((wr &&& (2147483647 : Int32)) % (3 : Int32)), .unset, .unset, .unset, .unset] [(.int 2), (.int 4)])) (fun t k => XS.iconst X0.here hx rfl (hb hby at_88) k) ?_
    refine own_go (b := s₁.setTop (mkF m 115 #[iv mr, iv wr, iv pr, iv cr, iv er, iv 4, iv ((wr &&& (2147483647 : Int32)) % (3 : Int32)), .unset, .unset, .unset, .unset] [])) (fun t k => XS.icmpYes X0.here hx rfl (pc0 := 89) (pc' := 115) rfl (hb hby at_89) rfl (feq (by decide : ¬ ((4 : Int32) = (2 : Int32)))).2 (by decide) (by decide) k) ?_
    refine own_go (b := s₁.setTop (mkF m 117 #[iv mr, iv wr, iv pr, iv cr, iv er, iv 4, iv ((wr &&& (2147483647 : Int32)) % (3 : Int32)), .unset, .unset, .unset, .unset] [(.int 4)])) (fun t k => XS.iload X0.here hx rfl (hb hby at_115) rfl  k) ?_
    refine own_go (b := s₁.setTop (mkF m 118 #[iv mr, iv wr, iv pr, iv cr, iv er, iv 4, iv ((wr &&& (2147483647 : Int32)) % (3 : Int32)), .unset, .unset, .unset, .unset] [(.int 3), (.int 4)])) (fun t k => XS.iconst X0.here hx rfl (hb hby at_117) k) ?_
    refine own_go (b := s₁.setTop (mkF m 148 #[iv mr, iv wr, iv pr, iv cr, iv er, iv 4, iv ((wr &&& (2147483647 : Int32)) % (3 : Int32)), .unset, .unset, .unset, .unset] [])) (fun t k => XS.icmpYes X0.here hx rfl (pc0 := 118) (pc' := 148) rfl (hb hby at_118) rfl (feq (by decide : ¬ ((4 : Int32) = (3 : Int32)))).2 (by decide) (by decide) k) ?_
    refine own_go (b := s₁.setTop (mkF m 150 #[iv mr, iv wr, iv pr, iv cr, iv er, iv 4, iv ((wr &&& (2147483647 : Int32)) % (3 : Int32)), .unset, .unset, .unset, .unset] [(.int ((wr &&& (2147483647 : Int32)) % (3 : Int32)))])) (fun t k => XS.iload X0.here hx rfl (hb hby at_148) rfl  k) ?_
    obtain ⟨_, _, ⟨T223, L223, k223, n223⟩, -, X223, hSa223, hG223, ⟨Lc223, ⟨hQ223, I223⟩, l223, y223, z223⟩, st223⟩ := callSS X0 hx (y := (⟨"com/example/fault/fault/EnvelopeNamedPinLaw", "constName", "(I)Ljava/lang/String;"⟩ : MethodName)) hown (mvT hZ (hw _ (List.mem_of_getElem? (i := 119) rfl))) (mvT hZ (hw _ (List.mem_of_getElem? (i := 120) rfl))) (mvT hZ (hw _ (List.mem_of_getElem? (i := 6) rfl))) (mvT hZ (hw _ (List.mem_of_getElem? (i := 121) rfl))) (by decide) (own_backS (W := 0) (rm21 l Z a0 hw [] ((wr &&& (2147483647 : Int32)) % (3 : Int32))  h0 n0 Z0 Od Hc hcw) hZ (own_IBm (Te := ([] : List String)) I0 rfl (by simp)) (hw _ (List.mem_of_getElem? (i := 121) rfl)) (hw _ (List.mem_of_getElem? (i := 6) rfl)) (by decide) (by decide)) (g := (mkF m 150 #[iv mr, iv wr, iv pr, iv cr, iv er, iv 4, iv ((wr &&& (2147483647 : Int32)) % (3 : Int32)), .unset, .unset, .unset, .unset] [(.int ((wr &&& (2147483647 : Int32)) % (3 : Int32)))])) rfl (by rw [hml]; rfl) (argsL := [(.int ((wr &&& (2147483647 : Int32)) % (3 : Int32)))]) (rest := []) (lenOf pd_16 rfl) rfl (by show 2 * 0 + _ ≤ _; exact Nat.le_of_eq rfl) (hb hby at_150) (fun _ _ => ⟨rfl, e0, (by decide : 0 + 2 ≤ _), (by decide : 0 + 52 ≤ _)⟩)
    dsimp only [Pt.U, Pt.locs, Pt.cells, Pt.slots] at X223 l223 y223 z223 st223 hQ223 hSa223 hG223 I223
    subst l223 y223 z223
    obtain ⟨hS223, hZ, hown⟩ := own_reb hS0 (own_LeT Le0 e0) hSa223 hG223 hZ hown
    have Le223 : own_Le T223.heap.size T223.heap := Nat.le_refl _
    obtain ⟨xc223, rfl, N223q, K223, Sz223⟩ := hQ223
    have Zs223 : n0 ≤ T223.heap.size := Nat.le_trans Z0 K223.1
    have N223 := Fr.app N0 N223q
    have Ol223 := Od.keep K223 all0
    obtain ⟨lq223, X223, N223⟩ : ∃ lq, Stand p l e room_1 (s.setVm T223.vm) m #[(.int mr), (.int wr), (.int pr), (.int cr), (.int er)] below meth c T223 lq 2 52 ∧ Fr n0 lq := ⟨_, X223, N223⟩
    refine own_tr (b := T223.setTop (mkF m 153 #[iv mr, iv wr, iv pr, iv cr, iv er, iv 4, iv ((wr &&& (2147483647 : Int32)) % (3 : Int32)), .unset, .unset, .unset, .unset] [(.ref xc223)])) st223 ?_
    refine own_go (b := T223.setTop (mkF m 155 #[iv mr, iv wr, iv pr, iv cr, iv er, iv 4, iv ((wr &&& (2147483647 : Int32)) % (3 : Int32)), rv xc223, .unset, .unset, .unset] [])) (fun t k => XS.astore X223.here hx rfl (hb hby at_153) rfl rfl (l' := #[iv mr, iv wr, iv pr, iv cr, iv er, iv 4, iv ((wr &&& (2147483647 : Int32)) % (3 : Int32)), rv xc223, .unset, .unset, .unset]) rfl k) ?_
    exact J155 T223 T223.heap _ T223.vm _ (4 : Int32) ((wr &&& (2147483647 : Int32)) % (3 : Int32)) xc223 _ (.unset) (.unset) (own_mono X223 (by decide) (by decide)) rfl N223 Zs223 Ol223 hS223 Le223 hZ hown (own_IBm I223 rfl (by simp)) Sz223 (Or.inl rfl) (Or.inl rfl)
  | j + 5, h, _ => omega
theorem own_elemI {s : State} {t : Term} {x : Addr} {cl : Cell} {k v : Int32} {args : Array Value} (ht : t.eval args s none [] s = some (.ref x)) (hc : s.heap[x]? = some cl) (h : (Cond.eq (.elem t (.int k)) (.int v)).value args s none s [] = some true) : cl.slots[k.toNatClampNeg]? = some (.int v) := by
  have e := own_ev (u := t) h
  exact (elem_in e ht (Term.int_eval k) hc).2
theorem own_fldN {s : State} {t : Term} {C n d : String} {x : Addr} {args : Array Value} (ht : t.eval args s none [] s = some (.ref x)) (h : (Cond.eq (.field t C n d) .null).value args s none s [] = some true) : Fld s s.heap x C n d .null := by
  refine Fld.start ((fld_at ht).symm.trans ?_)
  simp only [Cond.value, Term.eval] at h ⊢
  split at h <;> simp_all
set_option maxRecDepth 65536 in
set_option maxHeartbeats 40000000 in
theorem comes_1 {Post : Tables → Env → Array Value → State → Outcome → State → Prop} (hpost : ∀ tb e args s v u, (limb_1_1.after args s (.returned v) u = true ∧ limb_1_2.after args s (.returned v) u = true ∧ True) → ReturnedEndW s (.returned v) u (Jvm.fieldLocs frame_1_writes args s ++ Jvm.arrayLocs frame_1_arrays args s ++ Jvm.staticLocs frame_1_statics s) 32 7360 → Post tb e args s (.returned v) u) :
    ArmFor flags0 classFile x code maxLocals ret World_1 tables_1 room_1 Calls_1 rest_1 Pre_1 Post := by
  intro l hfl _ _ p e ha hc hk s m args below hf hA hF happ hP
  obtain ⟨hcalls, hrest, hpre⟩ := hP
  obtain ⟨-, -, -, hnamed, -, -, -, hat⟩ := (Spec.applies_iff hf).mp happ
  obtain ⟨hg, hn⟩ := and_e (Cond.before_iff.mp (show (Jvm.Cond.and given_1 narrow_1).before args s = true from hpre))
  obtain ⟨g1, g2⟩ := and_e hg
  obtain ⟨g3, g4⟩ := and_e g2
  obtain ⟨g5, g6⟩ := and_e g4
  obtain ⟨g7, g8⟩ := and_e g6
  obtain ⟨g9, g10⟩ := and_e g8
  obtain ⟨g11, g12⟩ := and_e hn
  obtain ⟨g13, g14⟩ := and_e g12
  obtain ⟨g15, g16⟩ := and_e g14
  obtain ⟨g17, g18⟩ := and_e g16
  obtain ⟨g19, g20⟩ := and_e g18
  obtain ⟨g21, g22⟩ := and_e g20
  obtain ⟨g23, g24⟩ := and_e g22
  obtain ⟨g25, g26⟩ := and_e g24
  obtain ⟨g27, g28⟩ := and_e g26
  obtain ⟨g29, g30⟩ := and_e g28
  obtain ⟨g31, g32⟩ := and_e g30
  obtain ⟨g33, g34⟩ := and_e g32
  obtain ⟨g35, g36⟩ := and_e g34
  obtain ⟨g37, g38⟩ := and_e g36
  obtain ⟨g39, g40⟩ := and_e g38
  obtain ⟨g41, g42⟩ := and_e g40
  obtain ⟨g43, g44⟩ := and_e g42
  obtain ⟨g45, g46⟩ := and_e g44
  obtain ⟨g47, g48⟩ := and_e g46
  obtain ⟨g49, g50⟩ := and_e g48
  obtain ⟨g51, g52⟩ := and_e g50
  obtain ⟨g53, g54⟩ := and_e g52
  obtain ⟨g55, g56⟩ := and_e g54
  obtain ⟨g57, g58⟩ := and_e g56
  obtain ⟨g59, g60⟩ := and_e g58
  obtain ⟨g61, g62⟩ := and_e g60
  obtain ⟨g63, g64⟩ := and_e g62
  obtain ⟨g65, g66⟩ := and_e g64
  obtain ⟨g67, g68⟩ := and_e g66
  obtain ⟨g69, g70⟩ := and_e g68
  obtain ⟨g71, g72⟩ := and_e g70
  obtain ⟨g73, g74⟩ := and_e g72
  obtain ⟨g75, g76⟩ := and_e g74
  obtain ⟨g77, g78⟩ := and_e g76
  obtain ⟨g79, g80⟩ := and_e g78
  obtain ⟨g81, g82⟩ := and_e g80
  obtain ⟨g83, g84⟩ := and_e g82
  obtain ⟨g85, g86⟩ := and_e g84
  obtain ⟨g87, g88⟩ := and_e g86
  obtain ⟨g89, g90⟩ := and_e g88
  obtain ⟨g91, g92⟩ := and_e g90
  obtain ⟨g93, g94⟩ := and_e g92
  obtain ⟨g95, g96⟩ := and_e g94
  obtain ⟨g97, g98⟩ := and_e g96
  obtain ⟨g99, g100⟩ := and_e g98
  obtain ⟨g101, g102⟩ := and_e g100
  obtain ⟨g103, g104⟩ := and_e g102
  obtain ⟨g105, g106⟩ := and_e g104
  obtain ⟨g107, g108⟩ := and_e g106
  obtain ⟨g109, g110⟩ := and_e g108
  obtain ⟨w0, w1, w2, w3, w4, rfl⟩ : ∃ w0 w1 w2 w3 w4 : Value, args = #[w0, w1, w2, w3, w4] := by
    have hs : args.size = 5 := by simpa [Cond.value, given_1] using g1
    obtain ⟨L⟩ := args
    match L, hs with
    | [w0, w1, w2, w3, w4], _ => exact ⟨w0, w1, w2, w3, w4, rfl⟩
  have hw := fun d (hd : d ∈ tables_1) => atoms_spec (ws := Jvm.Cond.code x code maxLocals ret :: tables_1) hat d (List.mem_cons_of_mem _ hd)
  have hfit : Fit s := fun {y c} hc i hi => by
    obtain ⟨ha, rfl⟩ := Array.getElem?_eq_some_iff.mp hc
    have q := List.all_eq_true.mp ((Array.all_eq_true_iff_forall_mem.mp hF) _ (Array.getElem_mem ha)) i (List.mem_range.mpr hi)
    simpa [Array.getElem?_eq_getElem hi] using q
  obtain ⟨hsets, hown0⟩ := atoms_of _ (rest_1_c_eq ▸ (show rest_1_c.before _ s = true from hrest))
  have hr0 := Cond.before_iff.mp hown0
  obtain ⟨i0, ei0⟩ := is_v g3
  obtain rfl : w0 = (.int i0) := Option.some.inj ei0
  obtain ⟨i1, ei1⟩ := is_v g5
  obtain rfl : w1 = (.int i1) := Option.some.inj ei1
  obtain ⟨i2, ei2⟩ := is_v g7
  obtain rfl : w2 = (.int i2) := Option.some.inj ei2
  obtain ⟨i3, ei3⟩ := is_v g9
  obtain rfl : w3 = (.int i3) := Option.some.inj ei3
  obtain ⟨i4, ei4⟩ := is_v g10
  obtain rfl : w4 = (.int i4) := Option.some.inj ei4
  obtain ⟨G1, eG⟩ := is_v (Cond.before_iff.mp (hsets _ (List.mem_of_getElem? (i := 1) rfl)))
  have O2 := Sta.start eG (Or.inl (hsets _ (List.mem_of_getElem? (i := 0) rfl)))
  have P5 : ¬ (G1 = (0 : Int32)) := gotF (Cond.eq_ints eG (Term.int_eval (0))) (not_v (Cond.before_iff.mp (hsets _ (List.mem_of_getElem? (i := 2) rfl))))
  have hem := Cond.before_iff.mp (hsets _ (List.mem_of_getElem? (i := 11) rfl))
  obtain ⟨em, evm⟩ := exa_v hem
  have Sm := Sta.start evm (Or.inl (hsets _ (List.mem_of_getElem? (i := 10) rfl)))
  have Em := Exa.start evm hem
  have Fm := own_fldN evm (Cond.before_iff.mp (hsets _ (List.mem_of_getElem? (i := 12) rfl)))
  obtain ⟨a__VALUES, ev__VALUES⟩ := exa_v g13
  have S__VALUES := Sta.start ev__VALUES (Or.inr ⟨(hw _ (List.mem_of_getElem? (i := 53) rfl)), (hw _ (List.mem_of_getElem? (i := 59) rfl))⟩)
  have E__VALUES := Exa.start ev__VALUES g13
  obtain ⟨a_ERRORS_LIST, ev_ERRORS_LIST⟩ := exa_v g17
  have S_ERRORS_LIST := Sta.start ev_ERRORS_LIST (Or.inr ⟨(hw _ (List.mem_of_getElem? (i := 53) rfl)), (hw _ (List.mem_of_getElem? (i := 67) rfl))⟩)
  have E_ERRORS_LIST := Exa.start ev_ERRORS_LIST g17
  obtain ⟨a_SINGLE_ERROR, ev_SINGLE_ERROR⟩ := exa_v g21
  have S_SINGLE_ERROR := Sta.start ev_SINGLE_ERROR (Or.inr ⟨(hw _ (List.mem_of_getElem? (i := 53) rfl)), (hw _ (List.mem_of_getElem? (i := 68) rfl))⟩)
  have E_SINGLE_ERROR := Exa.start ev_SINGLE_ERROR g21
  obtain ⟨a_PROBLEM, ev_PROBLEM⟩ := exa_v g25
  have S_PROBLEM := Sta.start ev_PROBLEM (Or.inr ⟨(hw _ (List.mem_of_getElem? (i := 53) rfl)), (hw _ (List.mem_of_getElem? (i := 69) rfl))⟩)
  have E_PROBLEM := Exa.start ev_PROBLEM g25
  obtain ⟨cl_V, Ar_V⟩ := Arr.start ev__VALUES g11
  have len_V := own_len ev__VALUES Ar_V.1 g15
  have el_V0 := own_elem ev__VALUES Ar_V.1 ev_ERRORS_LIST g19
  have el_V1 := own_elem ev__VALUES Ar_V.1 ev_SINGLE_ERROR g23
  have el_V2 := own_elem ev__VALUES Ar_V.1 ev_PROBLEM g27
  have Vz : Arv s s.heap a__VALUES cl_V.cls (.object "com/example/fault/fault/Envelope") (3 : Int32) [.ref a_ERRORS_LIST, .ref a_SINGLE_ERROR, .ref a_PROBLEM] .null := Arv.start hfit Ar_V len_V.2 len_V.1 (by decide) rfl ⟨el_V0, el_V1, el_V2, trivial⟩
  obtain ⟨nm0, evn0⟩ := exa_v g29
  have Fc0 := Fld.start ((fld_at ev_ERRORS_LIST).symm.trans evn0)
  have En0 := Exa.start evn0 g29
  have Cd0 := own_fld evn0 g31
  obtain ⟨bt0, evb0⟩ := arr_v g33
  have Fv0 := Fld.start ((fld_at evn0).symm.trans evb0)
  obtain ⟨cb0, Ab0⟩ := Arr.start evb0 g33
  have lb0 := own_len evb0 Ab0.1 g35
  have eb0_0 := own_elemI evb0 Ab0.1 g53
  have eb0_1 := own_elemI evb0 Ab0.1 g55
  have eb0_2 := own_elemI evb0 Ab0.1 g57
  have eb0_3 := own_elemI evb0 Ab0.1 g59
  have eb0_4 := own_elemI evb0 Ab0.1 g61
  have eb0_5 := own_elemI evb0 Ab0.1 g63
  have eb0_6 := own_elemI evb0 Ab0.1 g65
  have eb0_7 := own_elemI evb0 Ab0.1 g67
  have eb0_8 := own_elemI evb0 Ab0.1 g69
  have eb0_9 := own_elemI evb0 Ab0.1 g71
  have eb0_10 := own_elemI evb0 Ab0.1 g73
  have Vb0 : Arv s s.heap bt0 cb0.cls .byte (11 : Int32) [.int 101, .int 114, .int 114, .int 111, .int 114, .int 115, .int 45, .int 108, .int 105, .int 115, .int 116] (.int 0) := Arv.start hfit Ab0 lb0.2 lb0.1 (by decide) rfl ⟨eb0_0, eb0_1, eb0_2, eb0_3, eb0_4, eb0_5, eb0_6, eb0_7, eb0_8, eb0_9, eb0_10, trivial⟩
  have qb0 : ((own_n0.map fun c => c.toInt8.toInt32).map Value.int) = [.int 101, .int 114, .int 114, .int 111, .int 114, .int 115, .int 45, .int 108, .int 105, .int 115, .int 116] := by decide +kernel
  have Sn0 : own_St s s.heap nm0 own_n0 := ⟨bt0, _, En0, Fv0, Cd0, by rw [qb0]; exact Vb0, by decide +kernel, by decide⟩
  obtain ⟨nm1, evn1⟩ := exa_v g37
  have Fc1 := Fld.start ((fld_at ev_SINGLE_ERROR).symm.trans evn1)
  have En1 := Exa.start evn1 g37
  have Cd1 := own_fld evn1 g39
  obtain ⟨bt1, evb1⟩ := arr_v g41
  have Fv1 := Fld.start ((fld_at evn1).symm.trans evb1)
  obtain ⟨cb1, Ab1⟩ := Arr.start evb1 g41
  have lb1 := own_len evb1 Ab1.1 g43
  have eb1_0 := own_elemI evb1 Ab1.1 g75
  have eb1_1 := own_elemI evb1 Ab1.1 g77
  have eb1_2 := own_elemI evb1 Ab1.1 g79
  have eb1_3 := own_elemI evb1 Ab1.1 g81
  have eb1_4 := own_elemI evb1 Ab1.1 g83
  have eb1_5 := own_elemI evb1 Ab1.1 g85
  have eb1_6 := own_elemI evb1 Ab1.1 g87
  have eb1_7 := own_elemI evb1 Ab1.1 g89
  have eb1_8 := own_elemI evb1 Ab1.1 g91
  have eb1_9 := own_elemI evb1 Ab1.1 g93
  have eb1_10 := own_elemI evb1 Ab1.1 g95
  have eb1_11 := own_elemI evb1 Ab1.1 g97
  have Vb1 : Arv s s.heap bt1 cb1.cls .byte (12 : Int32) [.int 115, .int 105, .int 110, .int 103, .int 108, .int 101, .int 45, .int 101, .int 114, .int 114, .int 111, .int 114] (.int 0) := Arv.start hfit Ab1 lb1.2 lb1.1 (by decide) rfl ⟨eb1_0, eb1_1, eb1_2, eb1_3, eb1_4, eb1_5, eb1_6, eb1_7, eb1_8, eb1_9, eb1_10, eb1_11, trivial⟩
  have qb1 : ((own_n1.map fun c => c.toInt8.toInt32).map Value.int) = [.int 115, .int 105, .int 110, .int 103, .int 108, .int 101, .int 45, .int 101, .int 114, .int 114, .int 111, .int 114] := by decide +kernel
  have Sn1 : own_St s s.heap nm1 own_n1 := ⟨bt1, _, En1, Fv1, Cd1, by rw [qb1]; exact Vb1, by decide +kernel, by decide⟩
  obtain ⟨nm2, evn2⟩ := exa_v g45
  have Fc2 := Fld.start ((fld_at ev_PROBLEM).symm.trans evn2)
  have En2 := Exa.start evn2 g45
  have Cd2 := own_fld evn2 g47
  obtain ⟨bt2, evb2⟩ := arr_v g49
  have Fv2 := Fld.start ((fld_at evn2).symm.trans evb2)
  obtain ⟨cb2, Ab2⟩ := Arr.start evb2 g49
  have lb2 := own_len evb2 Ab2.1 g51
  have eb2_0 := own_elemI evb2 Ab2.1 g99
  have eb2_1 := own_elemI evb2 Ab2.1 g101
  have eb2_2 := own_elemI evb2 Ab2.1 g103
  have eb2_3 := own_elemI evb2 Ab2.1 g105
  have eb2_4 := own_elemI evb2 Ab2.1 g107
  have eb2_5 := own_elemI evb2 Ab2.1 g109
  have eb2_6 := own_elemI evb2 Ab2.1 g110
  have Vb2 : Arv s s.heap bt2 cb2.cls .byte (7 : Int32) [.int 112, .int 114, .int 111, .int 98, .int 108, .int 101, .int 109] (.int 0) := Arv.start hfit Ab2 lb2.2 lb2.1 (by decide) rfl ⟨eb2_0, eb2_1, eb2_2, eb2_3, eb2_4, eb2_5, eb2_6, trivial⟩
  have qb2 : ((own_n2.map fun c => c.toInt8.toInt32).map Value.int) = [.int 112, .int 114, .int 111, .int 98, .int 108, .int 101, .int 109] := by decide +kernel
  have Sn2 : own_St s s.heap nm2 own_n2 := ⟨bt2, _, En2, Fv2, Cd2, by rw [qb2]; exact Vb2, by decide +kernel, by decide⟩
  obtain ⟨n, o, h1, h2, h3, _, L, rfl, ⟨rfl, N⟩, -, hq⟩ := rm0 l s _ hw tables_1 i0 i1 i2 i3 i4 G1 a_ERRORS_LIST a_SINGLE_ERROR a_PROBLEM a__VALUES cl_V.cls em nm0 nm1 nm2 s.heap s.heap.size (Nat.le_refl _) (Old.start s) hcalls.1 (hsets _ (List.mem_of_getElem? (i := 2) rfl)) O2 P5 S__VALUES E__VALUES Vz Sm Em Fm Fc0 Fc1 Fc2 Sn0 Sn1 Sn2 S_ERRORS_LIST S_SINGLE_ERROR S_PROBLEM p e ha hc hk s m _ below hf ((Spec.applies_iff_loose hf).mp happ).1 ⟨rfl, State.Warmed39.refl s, rfl, IB.start⟩ trivial
  refine ⟨n, _, h1, h2, h3, hpost _ _ _ _ _ _ ⟨Cond.after_iff.mpr rfl, Cond.after_iff.mpr (eq_i res_at (Term.int_eval (1)) rfl), trivial⟩ ⟨hq.1, hq.2.1, hq.2.2.1, (hq.2.2.2.sift fun y hy => Or.inr (N y hy)).mono (by decide) (by decide)⟩⟩
theorem main_1_1 : Claimed_1_1 := comes_1 fun _ _ _ _ _ _ h hF => ⟨h.1, hF⟩
theorem main_1_2 : Claimed_1_2 := comes_1 fun _ _ _ _ _ _ h hF => ⟨h.2.1, hF⟩
end Jvm.Pilot.@@N@@
namespace Jvm.Pilot.@@N@@
open Jvm Jvm.ClassFile Sem Op Lib Jvm.Free Jvm.Stand Jvm.Pilot.@@N@@.Jvm.D
/-! MADE BY PROGRAM (witnessworld.py) out of the Statement's table words and the real class files: 24 classes; the members and pool entries that the words name. The judged class is class 1, her method 6. -/
namespace start1
open Jvm.ClassFile
def u (s : String) : CpInfo := .utf8 (stringToUtf16 s)
/-- a pool by its gaps: so many unusable entries, then the entry; so many at the end -/
def gap : Nat → List CpInfo → List CpInfo
  | 0, r => r
  | n + 1, r => .unusable :: gap n r
def poolList (es : List (Nat × CpInfo)) (last : Nat) : List CpInfo := es.foldr (fun e r => gap e.1 (e.2 :: r)) (gap last [])
def pool (es : List (Nat × CpInfo)) (last : Nat) : Array CpInfo := ⟨poolList es last⟩
def fileOf (pool : Array CpInfo) (this : Nat) (attrs : Array Attribute := #[]) (ms : Array MethodInfo := #[]) (fl : Nat := 33) (sup : Nat := 0) (ifs : Array Nat := #[]) (fds : Array FieldInfo := #[]) : ClassFile where
  minorVersion := 0
  majorVersion := 65
  constantPool := pool
  accessFlags := fl
  thisClass := this
  superClass := sup
  interfaces := ifs
  fields := fds
  methods := ms
  attributes := attrs
def plain (name : String) (sup : Option ClassId) : Class where
  name := name
  kind := .ordinary
  loader := none
  accessFlags := 33
  super := sup
  interfaces := #[]
  cf := none
  fields := #[]
  methods := #[]
  instanceTypes := #[]
  staticTypes := #[]
  resolved := #[]
  callSites := []
  init := .initialized
  statics := none
  mirror := none

def pool0 : Array CpInfo := pool [(5, u "<init>"), (0, u "()V"), (1, .class_ 10), (1, u "java/lang/Object"), (85, u "clone"), (0, u "()Ljava/lang/Object;")] 26

def k0c0 : Code := { maxStack := 0, maxLocals := 1, code := object_method_1_code, exceptionTable := #[], attributes := #[] }
def k0m0 : Method := { name := "<init>", desc := "()V", sig := { parameters := [], returnType := none }, accessFlags := 1, code := some k0c0 }
def k0m1 : Method := { name := "clone", desc := "()Ljava/lang/Object;", sig := { parameters := [], returnType := some (.object "java/lang/Object") }, accessFlags := 260, code := none }
/-- java/lang/Object -/
def k0 : Class := { plain "java/lang/Object" none with
  accessFlags := 33
  interfaces := #[]
  cf := some (fileOf pool0 8 #[] #[{ accessFlags := 1, nameIndex := 5, descriptorIndex := 6, attributes := #[] }, { accessFlags := 260, nameIndex := 96, descriptorIndex := 97, attributes := #[] }] 33 0 #[] #[])
  fields := #[]
  methods := #[k0m0, k0m1]
  instanceTypes := #[]
  staticTypes := #[]
  resolved := Array.replicate 124 none
  statics := none }

def pool1 : Array CpInfo := pool [(2, .class_ 4), (1, u "java/lang/Object"), (0, u "<init>"), (0, u "()V"), (0, .string 8), (0, u "ERRORS_LIST"), (0, .string 10), (0, u "SINGLE_ERROR"), (0, .string 12), (0, u "PROBLEM"), (0, .string 14), (0, u "errors-list"), (0, .methodref 16 17), (0, .class_ 18), (0, .nameAndType 19 20), (0, u "java/lang/String"), (0, u "equals"), (0, u "(Ljava/lang/Object;)Z"), (0, .string 22), (0, u "single-error"), (0, .string 24), (0, u "problem"), (0, .integer 2147483647), (0, .methodref 27 28), (0, .class_ 29), (0, .nameAndType 30 31), (0, u "com/example/fault/fault/EnvelopeNamedPinLaw"), (0, u "base"), (0, u "(I)[C"), (0, .methodref 16 33), (0, .nameAndType 5 34), (0, u "([C)V"), (0, .methodref 27 36), (0, .nameAndType 37 38), (0, u "longer"), (0, u "(IC)[C"), (0, .methodref 27 40), (0, .nameAndType 41 42), (0, u "drawn"), (0, u "(II)[C"), (0, .methodref 27 44), (0, .nameAndType 45 46), (0, u "constName"), (0, u "(I)Ljava/lang/String;"), (0, .methodref 27 48), (0, .nameAndType 49 50), (0, u "expected"), (0, u "(Ljava/lang/String;)I"), (0, .methodref 52 53), (0, .class_ 54), (0, .nameAndType 55 56), (0, u "com/example/fault/fault/Envelope"), (0, u "named"), (0, u "(Ljava/lang/String;)Ljava/util/Optional;"), (0, .methodref 58 59), (0, .class_ 60), (0, .nameAndType 61 62), (0, u "java/util/Optional"), (0, u "isPresent"), (0, u "()Z"), (0, .fieldref 52 64), (0, .nameAndType 8 65), (0, u "Lcom/example/fault/fault/Envelope;"), (0, .fieldref 52 67), (0, .nameAndType 10 65), (0, .fieldref 52 69), (0, .nameAndType 12 65), (0, .methodref 58 71), (0, .nameAndType 72 73), (0, u "get"), (0, u "()Ljava/lang/Object;"), (5, u "law"), (0, u "(IIIII)Z")] 2

def k1m0 : Method := { name := "<init>", desc := "()V", sig := { parameters := [], returnType := none }, accessFlags := 1, code := none }
def k1c1 : Code := { maxStack := 4, maxLocals := 1, code := method_2_code, exceptionTable := #[], attributes := #[] }
def k1m1 : Method := { name := "base", desc := "(I)[C", sig := { parameters := [.int], returnType := some (.array .char) }, accessFlags := 10, code := some k1c1 }
def k1c2 : Code := { maxStack := 4, maxLocals := 2, code := method_3_code, exceptionTable := #[], attributes := #[] }
def k1m2 : Method := { name := "longer", desc := "(IC)[C", sig := { parameters := [.int, .char], returnType := some (.array .char) }, accessFlags := 10, code := some k1c2 }
def k1c3 : Code := { maxStack := 2, maxLocals := 1, code := method_4_code, exceptionTable := #[], attributes := #[] }
def k1m3 : Method := { name := "constName", desc := "(I)Ljava/lang/String;", sig := { parameters := [.int], returnType := some (.object "java/lang/String") }, accessFlags := 10, code := some k1c3 }
def k1c4 : Code := { maxStack := 4, maxLocals := 3, code := method_5_code, exceptionTable := #[], attributes := #[] }
def k1m4 : Method := { name := "drawn", desc := "(II)[C", sig := { parameters := [.int, .int], returnType := some (.array .char) }, accessFlags := 10, code := some k1c4 }
def k1c5 : Code := { maxStack := 2, maxLocals := 1, code := method_6_code, exceptionTable := #[], attributes := #[] }
def k1m5 : Method := { name := "expected", desc := "(Ljava/lang/String;)I", sig := { parameters := [(.object "java/lang/String")], returnType := some .int }, accessFlags := 10, code := some k1c5 }
def k1c6 : Code := { maxStack := 5, maxLocals := 11, code := code, exceptionTable := #[], attributes := #[] }
def k1m6 : Method := { name := "law", desc := "(IIIII)Z", sig := { parameters := [.int, .int, .int, .int, .int], returnType := some .boolean }, accessFlags := 9, code := some k1c6 }
/-- com/example/fault/fault/EnvelopeNamedPinLaw -/
def k1 : Class := { plain "com/example/fault/fault/EnvelopeNamedPinLaw" (some 0) with
  accessFlags := 49
  interfaces := #[]
  cf := some (fileOf pool1 27 #[] #[{ accessFlags := 1, nameIndex := 5, descriptorIndex := 6, attributes := #[] }, { accessFlags := 10, nameIndex := 30, descriptorIndex := 31, attributes := #[] }, { accessFlags := 10, nameIndex := 37, descriptorIndex := 38, attributes := #[] }, { accessFlags := 10, nameIndex := 45, descriptorIndex := 46, attributes := #[] }, { accessFlags := 10, nameIndex := 41, descriptorIndex := 42, attributes := #[] }, { accessFlags := 10, nameIndex := 49, descriptorIndex := 50, attributes := #[] }, { accessFlags := 9, nameIndex := 79, descriptorIndex := 80, attributes := #[] }] 49 2 #[] #[])
  fields := #[]
  methods := #[k1m0, k1m1, k1m2, k1m3, k1m4, k1m5, k1m6]
  instanceTypes := #[]
  staticTypes := #[]
  resolved := Array.replicate 83 none
  statics := none }

def pool2 : Array CpInfo := pool [(1, .class_ 2), (0, u "java/io/Serializable"), (0, .class_ 4), (0, u "java/lang/Object")] 2

/-- java/io/Serializable -/
def k2 : Class := { plain "java/io/Serializable" (some 0) with
  accessFlags := 1537
  interfaces := #[]
  cf := some (fileOf pool2 1 #[] #[] 1537 3 #[] #[])
  fields := #[]
  methods := #[]
  instanceTypes := #[]
  staticTypes := #[]
  resolved := Array.replicate 7 none
  statics := none }

def pool3 : Array CpInfo := pool [(1, .class_ 2), (0, u "java/lang/Comparable"), (0, .class_ 4), (0, u "java/lang/Object")] 7

/-- java/lang/Comparable -/
def k3 : Class := { plain "java/lang/Comparable" (some 0) with
  accessFlags := 1537
  interfaces := #[]
  cf := some (fileOf pool3 1 #[] #[] 1537 3 #[] #[])
  fields := #[]
  methods := #[]
  instanceTypes := #[]
  staticTypes := #[]
  resolved := Array.replicate 12 none
  statics := none }

def pool4 : Array CpInfo := pool [(2, .class_ 4), (1, u "java/lang/CharSequence"), (42, .class_ 48), (0, u "java/lang/CharSequence$1CodePointIterator"), (10, .class_ 60), (0, u "java/lang/CharSequence$1CharIterator"), (5, .class_ 67), (0, u "java/lang/Object")] 63

/-- java/lang/CharSequence -/
def k4 : Class := { plain "java/lang/CharSequence" (some 0) with
  accessFlags := 1537
  interfaces := #[]
  cf := some (fileOf pool4 2 #[.nestMembers #[47, 59]] #[] 1537 66 #[] #[])
  fields := #[]
  methods := #[]
  instanceTypes := #[]
  staticTypes := #[]
  resolved := Array.replicate 131 none
  statics := none }

def pool5 : Array CpInfo := pool [(1, .class_ 2), (0, u "java/lang/constant/Constable"), (0, .class_ 4), (0, u "java/lang/Object")] 6

/-- java/lang/constant/Constable -/
def k5 : Class := { plain "java/lang/constant/Constable" (some 0) with
  accessFlags := 1537
  interfaces := #[]
  cf := some (fileOf pool5 1 #[] #[] 1537 3 #[] #[])
  fields := #[]
  methods := #[]
  instanceTypes := #[]
  staticTypes := #[]
  resolved := Array.replicate 11 none
  statics := none }

def pool6 : Array CpInfo := pool [(1, .class_ 2), (0, u "java/lang/constant/ConstantDesc"), (0, .class_ 4), (0, u "java/lang/Object")] 32

/-- java/lang/constant/ConstantDesc -/
def k6 : Class := { plain "java/lang/constant/ConstantDesc" (some 0) with
  accessFlags := 1537
  interfaces := #[]
  cf := some (fileOf pool6 1 #[] #[] 1537 3 #[] #[])
  fields := #[]
  methods := #[]
  instanceTypes := #[]
  staticTypes := #[]
  resolved := Array.replicate 37 none
  statics := none }

def pool7 : Array CpInfo := pool [(1, .methodref 2 3), (0, .class_ 4), (0, .nameAndType 5 6), (0, u "java/lang/Object"), (0, u "<init>"), (0, u "()V"), (0, .string 8), (0, u ""), (0, .fieldref 10 11), (0, .class_ 12), (0, .nameAndType 13 14), (0, u "java/lang/String"), (0, u "value"), (0, u "[B"), (0, .fieldref 10 16), (0, .nameAndType 17 18), (0, u "coder"), (0, u "B"), (2, u "hash"), (0, u "I"), (2, u "hashIsZero"), (0, u "Z"), (0, .methodref 10 28), (0, .nameAndType 5 29), (0, u "([CIILjava/lang/Void;)V"), (8, .fieldref 10 39), (0, .nameAndType 40 26), (0, u "COMPACT_STRINGS"), (1, .class_ 44), (1, u "java/lang/StringUTF16"), (0, u "compress"), (1, .methodref 42 48), (0, .nameAndType 49 50), (0, u "coderFromArrayLen"), (0, u "([BI)B"), (56, .class_ 109), (1, u "java/lang/StringLatin1"), (67, .methodref 42 178), (0, .nameAndType 45 179), (0, u "([CII)[B"), (361, .methodref 107 542), (0, .nameAndType 543 544), (0, u "equals"), (0, u "([B[B)Z"), (28, u "(Ljava/lang/Object;)Z"), (1, .class_ 576), (0, u "java/lang/CharSequence"), (22, u "CASE_INSENSITIVE_ORDER"), (0, u "Ljava/util/Comparator;"), (409, u "([C)V"), (90, u "serialPersistentFields"), (0, u "[Ljava/io/ObjectStreamField;"), (0, .class_ 1104), (0, u "java/lang/String$CaseInsensitiveComparator"), (1, .class_ 1107), (0, u "java/io/Serializable"), (0, .class_ 1109), (0, u "java/lang/Comparable"), (0, .class_ 1111), (0, u "java/lang/constant/Constable"), (0, .class_ 1113), (0, u "java/lang/constant/ConstantDesc"), (2, u "serialVersionUID"), (0, u "J"), (3, u "REPL"), (0, u "C"), (2, u "LATIN1"), (1, u "UTF16")] 323

def k7m0 : Method := { name := "<init>", desc := "()V", sig := { parameters := [], returnType := none }, accessFlags := 1, code := none }
def k7c1 : Code := { maxStack := 5, maxLocals := 2, code := jdk_42_method_3_code, exceptionTable := #[], attributes := #[] }
def k7m1 : Method := { name := "<init>", desc := "([C)V", sig := { parameters := [(.array .char)], returnType := none }, accessFlags := 1, code := some k7c1 }
def k7c2 : Code := { maxStack := 2, maxLocals := 3, code := jdk_42_method_66_code, exceptionTable := #[], attributes := #[] }
def k7m2 : Method := { name := "equals", desc := "(Ljava/lang/Object;)Z", sig := { parameters := [(.object "java/lang/Object")], returnType := some .boolean }, accessFlags := 1, code := some k7c2 }
def k7c3 : Code := { maxStack := 4, maxLocals := 6, code := jdk_42_method_149_code, exceptionTable := #[], attributes := #[] }
def k7m3 : Method := { name := "<init>", desc := "([CIILjava/lang/Void;)V", sig := { parameters := [(.array .char), .int, .int, (.object "java/lang/Void")], returnType := none }, accessFlags := 2, code := some k7c3 }
/-- java/lang/String -/
def k7 : Class := { plain "java/lang/String" (some 0) with
  accessFlags := 49
  interfaces := #[2, 3, 4, 5, 6]
  cf := some (fileOf pool7 10 #[.nestMembers #[1103]] #[{ accessFlags := 1, nameIndex := 5, descriptorIndex := 6, attributes := #[] }, { accessFlags := 1, nameIndex := 5, descriptorIndex := 1010, attributes := #[] }, { accessFlags := 1, nameIndex := 543, descriptorIndex := 573, attributes := #[] }, { accessFlags := 2, nameIndex := 5, descriptorIndex := 29, attributes := #[] }] 49 2 #[1106, 1108, 575, 1110, 1112] #[{ accessFlags := 18, nameIndex := 13, descriptorIndex := 14, attributes := #[] }, { accessFlags := 18, nameIndex := 17, descriptorIndex := 18, attributes := #[] }, { accessFlags := 2, nameIndex := 21, descriptorIndex := 22, attributes := #[] }, { accessFlags := 2, nameIndex := 25, descriptorIndex := 26, attributes := #[] }, { accessFlags := 26, nameIndex := 1116, descriptorIndex := 1117, attributes := #[] }, { accessFlags := 24, nameIndex := 40, descriptorIndex := 26, attributes := #[] }, { accessFlags := 26, nameIndex := 1101, descriptorIndex := 1102, attributes := #[] }, { accessFlags := 26, nameIndex := 1121, descriptorIndex := 1122, attributes := #[] }, { accessFlags := 25, nameIndex := 599, descriptorIndex := 600, attributes := #[] }, { accessFlags := 24, nameIndex := 1125, descriptorIndex := 18, attributes := #[] }, { accessFlags := 24, nameIndex := 1127, descriptorIndex := 18, attributes := #[] }])
  fields := #[{ name := "value", type := (.array .byte), accessFlags := 18, slot := 0, constantValue := 0 }, { name := "coder", type := .byte, accessFlags := 18, slot := 1, constantValue := 0 }, { name := "hash", type := .int, accessFlags := 2, slot := 2, constantValue := 0 }, { name := "hashIsZero", type := .boolean, accessFlags := 2, slot := 3, constantValue := 0 }, { name := "serialVersionUID", type := .long, accessFlags := 26, slot := 0, constantValue := 0 }, { name := "COMPACT_STRINGS", type := .boolean, accessFlags := 24, slot := 1, constantValue := 0 }, { name := "serialPersistentFields", type := (.array (.object "java/io/ObjectStreamField")), accessFlags := 26, slot := 2, constantValue := 0 }, { name := "REPL", type := .char, accessFlags := 26, slot := 3, constantValue := 0 }, { name := "CASE_INSENSITIVE_ORDER", type := (.object "java/util/Comparator"), accessFlags := 25, slot := 4, constantValue := 0 }, { name := "LATIN1", type := .byte, accessFlags := 24, slot := 5, constantValue := 0 }, { name := "UTF16", type := .byte, accessFlags := 24, slot := 6, constantValue := 0 }]
  methods := #[k7m0, k7m1, k7m2, k7m3]
  instanceTypes := #[(.array .byte), .byte, .int, .boolean]
  staticTypes := #[.long, .boolean, (.array (.object "java/io/ObjectStreamField")), .char, (.object "java/util/Comparator"), .byte, .byte]
  resolved := Array.replicate 1451 none
  statics := some 0 }

def pool8 : Array CpInfo := pool [(6, .class_ 8), (1, u "java/lang/Object"), (0, u "<init>"), (0, u "()V"), (1, .class_ 14), (1, u "java/lang/StringUTF16"), (31, u "$assertionsDisabled"), (0, u "Z"), (13, u "HI_BYTE_SHIFT"), (0, u "I"), (2, u "LO_BYTE_SHIFT"), (49, .methodref 12 116), (0, .nameAndType 117 118), (0, u "compress"), (0, u "([CI[BII)I"), (3, u "([CII)[B"), (138, u "coderFromArrayLen"), (0, u "([BI)B"), (106, .class_ 371), (1, u "java/lang/StringUTF16$LinesSpliterator"), (58, u "MAX_LENGTH"), (196, .class_ 628), (0, u "java/lang/StringUTF16$CodePointsSpliterator"), (0, .class_ 630), (0, u "java/lang/StringUTF16$CharsSpliterator")] 4

def k8m0 : Method := { name := "<init>", desc := "()V", sig := { parameters := [], returnType := none }, accessFlags := 0, code := none }
def k8c1 : Code := { maxStack := 2, maxLocals := 2, code := jdk_52_method_15_code, exceptionTable := #[], attributes := #[] }
def k8m1 : Method := { name := "coderFromArrayLen", desc := "([BI)B", sig := { parameters := [(.array .byte), .int], returnType := some .byte }, accessFlags := 8, code := some k8c1 }
def k8c2 : Code := { maxStack := 5, maxLocals := 6, code := jdk_52_method_16_code, exceptionTable := #[], attributes := #[] }
def k8m2 : Method := { name := "compress", desc := "([CII)[B", sig := { parameters := [(.array .char), .int, .int], returnType := some (.array .byte) }, accessFlags := 9, code := some k8c2 }
def k8c3 : Code := { maxStack := 3, maxLocals := 7, code := jdk_52_method_21_code, exceptionTable := #[], attributes := #[] }
def k8m3 : Method := { name := "compress", desc := "([CI[BII)I", sig := { parameters := [(.array .char), .int, (.array .byte), .int, .int], returnType := some .int }, accessFlags := 9, code := some k8c3 }
/-- java/lang/StringUTF16 -/
def k8 : Class := { plain "java/lang/StringUTF16" (some 0) with
  accessFlags := 48
  interfaces := #[]
  cf := some (fileOf pool8 12 #[.nestMembers #[627, 629, 369]] #[{ accessFlags := 0, nameIndex := 9, descriptorIndex := 10, attributes := #[] }, { accessFlags := 8, nameIndex := 261, descriptorIndex := 262, attributes := #[] }, { accessFlags := 9, nameIndex := 117, descriptorIndex := 122, attributes := #[] }, { accessFlags := 9, nameIndex := 117, descriptorIndex := 118, attributes := #[] }] 48 6 #[] #[{ accessFlags := 26, nameIndex := 61, descriptorIndex := 62, attributes := #[] }, { accessFlags := 26, nameIndex := 65, descriptorIndex := 62, attributes := #[] }, { accessFlags := 24, nameIndex := 430, descriptorIndex := 62, attributes := #[] }, { accessFlags := 4120, nameIndex := 46, descriptorIndex := 47, attributes := #[] }])
  fields := #[{ name := "HI_BYTE_SHIFT", type := .int, accessFlags := 26, slot := 0, constantValue := 0 }, { name := "LO_BYTE_SHIFT", type := .int, accessFlags := 26, slot := 1, constantValue := 0 }, { name := "MAX_LENGTH", type := .int, accessFlags := 24, slot := 2, constantValue := 0 }, { name := "$assertionsDisabled", type := .boolean, accessFlags := 4120, slot := 3, constantValue := 0 }]
  methods := #[k8m0, k8m1, k8m2, k8m3]
  instanceTypes := #[]
  staticTypes := #[.int, .int, .int, .boolean]
  resolved := Array.replicate 635 none
  statics := none }

def pool9 : Array CpInfo := pool [(4, .class_ 6), (1, u "java/lang/Object"), (0, u "<init>"), (0, u "()V"), (5, .class_ 16), (1, u "java/lang/StringLatin1"), (104, u "$assertionsDisabled"), (0, u "Z"), (98, .class_ 223), (1, u "java/lang/StringLatin1$LinesSpliterator"), (57, u "equals"), (0, u "([B[B)Z"), (107, .class_ 391), (0, u "java/lang/StringLatin1$CharsSpliterator")] 3

def k9m0 : Method := { name := "<init>", desc := "()V", sig := { parameters := [], returnType := none }, accessFlags := 0, code := none }
def k9c1 : Code := { maxStack := 3, maxLocals := 3, code := jdk_43_method_13_code, exceptionTable := #[], attributes := #[] }
def k9m1 : Method := { name := "equals", desc := "([B[B)Z", sig := { parameters := [(.array .byte), (.array .byte)], returnType := some .boolean }, accessFlags := 9, code := some k9c1 }
/-- java/lang/StringLatin1 -/
def k9 : Class := { plain "java/lang/StringLatin1" (some 0) with
  accessFlags := 48
  interfaces := #[]
  cf := some (fileOf pool9 14 #[.nestMembers #[390, 221]] #[{ accessFlags := 0, nameIndex := 7, descriptorIndex := 8, attributes := #[] }, { accessFlags := 9, nameIndex := 281, descriptorIndex := 282, attributes := #[] }] 48 4 #[] #[{ accessFlags := 4120, nameIndex := 121, descriptorIndex := 122, attributes := #[] }])
  fields := #[{ name := "$assertionsDisabled", type := .boolean, accessFlags := 4120, slot := 0, constantValue := 0 }]
  methods := #[k9m0, k9m1]
  instanceTypes := #[]
  staticTypes := #[.boolean]
  resolved := Array.replicate 395 none
  statics := none }

def pool10 : Array CpInfo := pool [(2, .class_ 4), (1, u "java/lang/Enum"), (0, u "name"), (0, u "Ljava/lang/String;"), (2, u "ordinal"), (0, u "I"), (1, .class_ 14), (1, u "java/lang/Object"), (4, u "hash"), (86, .class_ 108), (1, u "java/lang/Enum$EnumDesc"), (2, .class_ 112), (0, u "java/lang/constant/Constable"), (0, .class_ 114), (0, u "java/lang/Comparable"), (0, .class_ 116), (0, u "java/io/Serializable")] 87

/-- java/lang/Enum -/
def k10 : Class := { plain "java/lang/Enum" (some 0) with
  accessFlags := 1057
  interfaces := #[5, 3, 2]
  cf := some (fileOf pool10 2 #[.nestMembers #[106]] #[] 1057 12 #[111, 113, 115] #[{ accessFlags := 18, nameIndex := 5, descriptorIndex := 6, attributes := #[] }, { accessFlags := 18, nameIndex := 9, descriptorIndex := 10, attributes := #[] }, { accessFlags := 2, nameIndex := 19, descriptorIndex := 10, attributes := #[] }])
  fields := #[{ name := "name", type := (.object "java/lang/String"), accessFlags := 18, slot := 0, constantValue := 0 }, { name := "ordinal", type := .int, accessFlags := 18, slot := 1, constantValue := 0 }, { name := "hash", type := .int, accessFlags := 2, slot := 2, constantValue := 0 }]
  methods := #[]
  instanceTypes := #[(.object "java/lang/String"), .int, .int]
  staticTypes := #[]
  resolved := Array.replicate 204 none
  statics := none }

def pool11 : Array CpInfo := pool [(1, .class_ 2), (0, u "com/example/fault/fault/Envelope"), (2, u "ERRORS_LIST"), (0, u "Lcom/example/fault/fault/Envelope;"), (2, u "SINGLE_ERROR"), (2, u "PROBLEM"), (0, .fieldref 1 14), (0, .nameAndType 15 16), (0, u "$VALUES"), (0, u "[Lcom/example/fault/fault/Envelope;"), (0, .methodref 18 19), (0, .class_ 16), (0, .nameAndType 20 21), (0, u "clone"), (0, u "()Ljava/lang/Object;"), (1, .class_ 25), (1, u "java/lang/Enum"), (6, .fieldref 1 33), (0, .nameAndType 34 35), (0, u "catalogName"), (0, u "Ljava/lang/String;"), (2, u "mediaType"), (0, .methodref 1 40), (0, .nameAndType 41 42), (0, u "values"), (0, u "()[Lcom/example/fault/fault/Envelope;"), (0, .methodref 44 45), (0, .class_ 46), (0, .nameAndType 47 48), (0, u "java/lang/String"), (0, u "equals"), (0, u "(Ljava/lang/Object;)Z"), (0, .methodref 50 51), (0, .class_ 52), (0, .nameAndType 53 54), (0, u "java/util/Optional"), (0, u "of"), (0, u "(Ljava/lang/Object;)Ljava/util/Optional;"), (0, .methodref 50 56), (0, .nameAndType 57 58), (0, u "empty"), (0, u "()Ljava/util/Optional;"), (26, u "named"), (0, u "(Ljava/lang/String;)Ljava/util/Optional;")] 7

def k11c0 : Code := { maxStack := 1, maxLocals := 0, code := prog_5_method_1_code, exceptionTable := #[], attributes := #[] }
def k11m0 : Method := { name := "values", desc := "()[Lcom/example/fault/fault/Envelope;", sig := { parameters := [], returnType := some (.array (.object "com/example/fault/fault/Envelope")) }, accessFlags := 9, code := some k11c0 }
def k11c1 : Code := { maxStack := 2, maxLocals := 5, code := prog_5_method_6_code, exceptionTable := #[], attributes := #[] }
def k11m1 : Method := { name := "named", desc := "(Ljava/lang/String;)Ljava/util/Optional;", sig := { parameters := [(.object "java/lang/String")], returnType := some (.object "java/util/Optional") }, accessFlags := 9, code := some k11c1 }
/-- com/example/fault/fault/Envelope -/
def k11 : Class := { plain "com/example/fault/fault/Envelope" (some 10) with
  accessFlags := 16433
  interfaces := #[]
  cf := some (fileOf pool11 1 #[] #[{ accessFlags := 9, nameIndex := 41, descriptorIndex := 42, attributes := #[] }, { accessFlags := 9, nameIndex := 85, descriptorIndex := 86, attributes := #[] }] 16433 23 #[] #[{ accessFlags := 16409, nameIndex := 5, descriptorIndex := 6, attributes := #[] }, { accessFlags := 16409, nameIndex := 9, descriptorIndex := 6, attributes := #[] }, { accessFlags := 16409, nameIndex := 12, descriptorIndex := 6, attributes := #[] }, { accessFlags := 18, nameIndex := 34, descriptorIndex := 35, attributes := #[] }, { accessFlags := 18, nameIndex := 38, descriptorIndex := 35, attributes := #[] }, { accessFlags := 4122, nameIndex := 15, descriptorIndex := 16, attributes := #[] }])
  fields := #[{ name := "ERRORS_LIST", type := (.object "com/example/fault/fault/Envelope"), accessFlags := 16409, slot := 0, constantValue := 0 }, { name := "SINGLE_ERROR", type := (.object "com/example/fault/fault/Envelope"), accessFlags := 16409, slot := 1, constantValue := 0 }, { name := "PROBLEM", type := (.object "com/example/fault/fault/Envelope"), accessFlags := 16409, slot := 2, constantValue := 0 }, { name := "catalogName", type := (.object "java/lang/String"), accessFlags := 18, slot := 3, constantValue := 0 }, { name := "mediaType", type := (.object "java/lang/String"), accessFlags := 18, slot := 4, constantValue := 0 }, { name := "$VALUES", type := (.array (.object "com/example/fault/fault/Envelope")), accessFlags := 4122, slot := 3, constantValue := 0 }]
  methods := #[k11m0, k11m1]
  instanceTypes := #[(.object "java/lang/String"), .int, .int, (.object "java/lang/String"), (.object "java/lang/String")]
  staticTypes := #[(.object "com/example/fault/fault/Envelope"), (.object "com/example/fault/fault/Envelope"), (.object "com/example/fault/fault/Envelope"), (.array (.object "com/example/fault/fault/Envelope"))]
  resolved := Array.replicate 94 none
  statics := some 1 }

def pool12 : Array CpInfo := pool [(1, .class_ 2), (0, u "java/lang/Cloneable"), (0, .class_ 4), (0, u "java/lang/Object")] 2

/-- java/lang/Cloneable -/
def k12 : Class := { plain "java/lang/Cloneable" (some 0) with
  accessFlags := 1537
  interfaces := #[]
  cf := some (fileOf pool12 1 #[] #[] 1537 3 #[] #[])
  fields := #[]
  methods := #[]
  instanceTypes := #[]
  staticTypes := #[]
  resolved := Array.replicate 7 none
  statics := none }

def pool13 : Array CpInfo := pool [(1, .fieldref 2 3), (0, .class_ 4), (0, .nameAndType 5 6), (0, u "java/util/Optional"), (0, u "EMPTY"), (0, u "Ljava/util/Optional;"), (0, .methodref 8 9), (0, .class_ 10), (0, .nameAndType 11 12), (0, u "java/lang/Object"), (0, u "<init>"), (0, u "()V"), (0, .fieldref 2 14), (0, .nameAndType 15 16), (0, u "value"), (0, u "Ljava/lang/Object;"), (0, .methodref 18 19), (0, .class_ 20), (0, .nameAndType 21 22), (0, u "java/util/Objects"), (0, u "requireNonNull"), (0, u "(Ljava/lang/Object;)Ljava/lang/Object;"), (0, .methodref 2 24), (0, .nameAndType 11 25), (0, u "(Ljava/lang/Object;)V"), (20, u "()Z"), (8, u "empty"), (0, u "()Ljava/util/Optional;"), (8, u "(Ljava/lang/Object;)Ljava/util/Optional;"), (2, u "isPresent"), (4, u "get"), (0, u "()Ljava/lang/Object;"), (7, u "of")] 104

def k13c0 : Code := { maxStack := 1, maxLocals := 1, code := jdk_32_method_1_code, exceptionTable := #[], attributes := #[] }
def k13m0 : Method := { name := "empty", desc := "()Ljava/util/Optional;", sig := { parameters := [], returnType := some (.object "java/util/Optional") }, accessFlags := 9, code := some k13c0 }
def k13c1 : Code := { maxStack := 2, maxLocals := 2, code := jdk_32_method_2_code, exceptionTable := #[], attributes := #[] }
def k13m1 : Method := { name := "<init>", desc := "(Ljava/lang/Object;)V", sig := { parameters := [(.object "java/lang/Object")], returnType := none }, accessFlags := 2, code := some k13c1 }
def k13c2 : Code := { maxStack := 3, maxLocals := 1, code := jdk_32_method_3_code, exceptionTable := #[], attributes := #[] }
def k13m2 : Method := { name := "of", desc := "(Ljava/lang/Object;)Ljava/util/Optional;", sig := { parameters := [(.object "java/lang/Object")], returnType := some (.object "java/util/Optional") }, accessFlags := 9, code := some k13c2 }
def k13c3 : Code := { maxStack := 3, maxLocals := 1, code := jdk_32_method_5_code, exceptionTable := #[], attributes := #[] }
def k13m3 : Method := { name := "get", desc := "()Ljava/lang/Object;", sig := { parameters := [], returnType := some (.object "java/lang/Object") }, accessFlags := 1, code := some k13c3 }
def k13c4 : Code := { maxStack := 1, maxLocals := 1, code := jdk_32_method_6_code, exceptionTable := #[], attributes := #[] }
def k13m4 : Method := { name := "isPresent", desc := "()Z", sig := { parameters := [], returnType := some .boolean }, accessFlags := 1, code := some k13c4 }
/-- java/util/Optional -/
def k13 : Class := { plain "java/util/Optional" (some 0) with
  accessFlags := 49
  interfaces := #[]
  cf := some (fileOf pool13 2 #[] #[{ accessFlags := 9, nameIndex := 55, descriptorIndex := 56, attributes := #[] }, { accessFlags := 2, nameIndex := 11, descriptorIndex := 25, attributes := #[] }, { accessFlags := 9, nameIndex := 82, descriptorIndex := 65, attributes := #[] }, { accessFlags := 1, nameIndex := 73, descriptorIndex := 74, attributes := #[] }, { accessFlags := 1, nameIndex := 68, descriptorIndex := 46, attributes := #[] }] 49 8 #[] #[{ accessFlags := 26, nameIndex := 5, descriptorIndex := 6, attributes := #[] }, { accessFlags := 18, nameIndex := 15, descriptorIndex := 16, attributes := #[] }])
  fields := #[{ name := "EMPTY", type := (.object "java/util/Optional"), accessFlags := 26, slot := 0, constantValue := 0 }, { name := "value", type := (.object "java/lang/Object"), accessFlags := 18, slot := 0, constantValue := 0 }]
  methods := #[k13m0, k13m1, k13m2, k13m3, k13m4]
  instanceTypes := #[(.object "java/lang/Object")]
  staticTypes := #[(.object "java/util/Optional")]
  resolved := Array.replicate 187 none
  statics := some 2 }

def pool14 : Array CpInfo := pool [(2, .class_ 4), (1, u "java/lang/Object"), (0, u "<init>"), (0, u "()V"), (35, .class_ 44), (1, u "java/util/Objects"), (0, u "requireNonNull"), (0, u "(Ljava/lang/Object;)Ljava/lang/Object;")] 137

def k14m0 : Method := { name := "<init>", desc := "()V", sig := { parameters := [], returnType := none }, accessFlags := 2, code := none }
def k14c1 : Code := { maxStack := 2, maxLocals := 1, code := jdk_31_method_10_code, exceptionTable := #[], attributes := #[] }
def k14m1 : Method := { name := "requireNonNull", desc := "(Ljava/lang/Object;)Ljava/lang/Object;", sig := { parameters := [(.object "java/lang/Object")], returnType := some (.object "java/lang/Object") }, accessFlags := 9, code := some k14c1 }
/-- java/util/Objects -/
def k14 : Class := { plain "java/util/Objects" (some 0) with
  accessFlags := 49
  interfaces := #[]
  cf := some (fileOf pool14 42 #[] #[{ accessFlags := 2, nameIndex := 5, descriptorIndex := 6, attributes := #[] }, { accessFlags := 9, nameIndex := 45, descriptorIndex := 46, attributes := #[] }] 49 2 #[] #[])
  fields := #[]
  methods := #[k14m0, k14m1]
  instanceTypes := #[]
  staticTypes := #[]
  resolved := Array.replicate 184 none
  statics := none }

def pool15 : Array CpInfo := pool [(2, .class_ 4), (1, u "java/lang/Object"), (0, u "<init>"), (0, u "()V"), (17, .class_ 26), (1, u "jdk/internal/util/Preconditions"), (28, .class_ 56), (0, u "jdk/internal/util/Preconditions$4"), (57, .class_ 115), (0, u "jdk/internal/util/Preconditions$1"), (7, u "SIOOBE_FORMATTER"), (0, u "Ljava/util/function/BiFunction;"), (0, .class_ 126), (0, u "jdk/internal/util/Preconditions$2"), (3, u "AIOOBE_FORMATTER"), (0, .class_ 132), (0, u "jdk/internal/util/Preconditions$3"), (3, u "IOOBE_FORMATTER")] 57

def k15m0 : Method := { name := "<init>", desc := "()V", sig := { parameters := [], returnType := none }, accessFlags := 1, code := none }
/-- jdk/internal/util/Preconditions -/
def k15 : Class := { plain "jdk/internal/util/Preconditions" (some 0) with
  accessFlags := 33
  interfaces := #[]
  cf := some (fileOf pool15 24 #[.nestMembers #[55, 131, 125, 114]] #[{ accessFlags := 1, nameIndex := 5, descriptorIndex := 6, attributes := #[] }] 33 2 #[] #[{ accessFlags := 25, nameIndex := 123, descriptorIndex := 124, attributes := #[] }, { accessFlags := 25, nameIndex := 130, descriptorIndex := 124, attributes := #[] }, { accessFlags := 25, nameIndex := 136, descriptorIndex := 124, attributes := #[] }])
  fields := #[{ name := "SIOOBE_FORMATTER", type := (.object "java/util/function/BiFunction"), accessFlags := 25, slot := 0, constantValue := 0 }, { name := "AIOOBE_FORMATTER", type := (.object "java/util/function/BiFunction"), accessFlags := 25, slot := 1, constantValue := 0 }, { name := "IOOBE_FORMATTER", type := (.object "java/util/function/BiFunction"), accessFlags := 25, slot := 2, constantValue := 0 }]
  methods := #[k15m0]
  instanceTypes := #[]
  staticTypes := #[(.object "java/util/function/BiFunction"), (.object "java/util/function/BiFunction"), (.object "java/util/function/BiFunction")]
  resolved := Array.replicate 194 none
  statics := some 3 }

def pool16 : Array CpInfo := pool [(9, u "<init>"), (6, .class_ 18), (1, u "java/lang/Object"), (0, u "()V"), (1, .class_ 23), (1, u "jdk/internal/util/ArraysSupport"), (0, u "LOG2_ARRAY_LONG_INDEX_SCALE"), (0, u "I"), (2, u "U"), (0, u "Ljdk/internal/misc/Unsafe;"), (8, u "BIG_ENDIAN"), (0, u "Z"), (8, u "LOG2_BYTE_BIT_SIZE"), (4, u "LOG2_ARRAY_INT_INDEX_SCALE"), (54, u "JLA"), (0, u "Ljdk/internal/access/JavaLangAccess;"), (11, u "LOG2_ARRAY_BOOLEAN_INDEX_SCALE"), (9, u "LOG2_ARRAY_BYTE_INDEX_SCALE"), (5, u "LOG2_ARRAY_CHAR_INDEX_SCALE"), (5, u "LOG2_ARRAY_SHORT_INDEX_SCALE"), (18, u "LOG2_ARRAY_FLOAT_INDEX_SCALE"), (24, u "LOG2_ARRAY_DOUBLE_INDEX_SCALE"), (89, u "T_BOOLEAN"), (2, u "T_CHAR"), (1, u "T_FLOAT"), (1, u "T_DOUBLE"), (1, u "T_BYTE"), (1, u "T_SHORT"), (1, u "T_INT"), (1, u "T_LONG"), (1, u "SOFT_MAX_ARRAY_LENGTH")] 83

def k16m0 : Method := { name := "<init>", desc := "()V", sig := { parameters := [], returnType := none }, accessFlags := 2, code := none }
/-- jdk/internal/util/ArraysSupport -/
def k16 : Class := { plain "jdk/internal/util/ArraysSupport" (some 0) with
  accessFlags := 33
  interfaces := #[]
  cf := some (fileOf pool16 21 #[] #[{ accessFlags := 2, nameIndex := 9, descriptorIndex := 19, attributes := #[] }] 33 16 #[] #[{ accessFlags := 24, nameIndex := 28, descriptorIndex := 29, attributes := #[] }, { accessFlags := 26, nameIndex := 38, descriptorIndex := 39, attributes := #[] }, { accessFlags := 25, nameIndex := 121, descriptorIndex := 25, attributes := #[] }, { accessFlags := 25, nameIndex := 131, descriptorIndex := 25, attributes := #[] }, { accessFlags := 25, nameIndex := 137, descriptorIndex := 25, attributes := #[] }, { accessFlags := 25, nameIndex := 143, descriptorIndex := 25, attributes := #[] }, { accessFlags := 25, nameIndex := 53, descriptorIndex := 25, attributes := #[] }, { accessFlags := 25, nameIndex := 24, descriptorIndex := 25, attributes := #[] }, { accessFlags := 25, nameIndex := 162, descriptorIndex := 25, attributes := #[] }, { accessFlags := 25, nameIndex := 187, descriptorIndex := 25, attributes := #[] }, { accessFlags := 26, nameIndex := 48, descriptorIndex := 25, attributes := #[] }, { accessFlags := 25, nameIndex := 277, descriptorIndex := 25, attributes := #[] }, { accessFlags := 25, nameIndex := 280, descriptorIndex := 25, attributes := #[] }, { accessFlags := 25, nameIndex := 282, descriptorIndex := 25, attributes := #[] }, { accessFlags := 25, nameIndex := 284, descriptorIndex := 25, attributes := #[] }, { accessFlags := 25, nameIndex := 286, descriptorIndex := 25, attributes := #[] }, { accessFlags := 25, nameIndex := 288, descriptorIndex := 25, attributes := #[] }, { accessFlags := 25, nameIndex := 290, descriptorIndex := 25, attributes := #[] }, { accessFlags := 25, nameIndex := 292, descriptorIndex := 25, attributes := #[] }, { accessFlags := 26, nameIndex := 108, descriptorIndex := 109, attributes := #[] }, { accessFlags := 25, nameIndex := 294, descriptorIndex := 25, attributes := #[] }])
  fields := #[{ name := "U", type := (.object "jdk/internal/misc/Unsafe"), accessFlags := 24, slot := 0, constantValue := 0 }, { name := "BIG_ENDIAN", type := .boolean, accessFlags := 26, slot := 1, constantValue := 0 }, { name := "LOG2_ARRAY_BOOLEAN_INDEX_SCALE", type := .int, accessFlags := 25, slot := 2, constantValue := 0 }, { name := "LOG2_ARRAY_BYTE_INDEX_SCALE", type := .int, accessFlags := 25, slot := 3, constantValue := 0 }, { name := "LOG2_ARRAY_CHAR_INDEX_SCALE", type := .int, accessFlags := 25, slot := 4, constantValue := 0 }, { name := "LOG2_ARRAY_SHORT_INDEX_SCALE", type := .int, accessFlags := 25, slot := 5, constantValue := 0 }, { name := "LOG2_ARRAY_INT_INDEX_SCALE", type := .int, accessFlags := 25, slot := 6, constantValue := 0 }, { name := "LOG2_ARRAY_LONG_INDEX_SCALE", type := .int, accessFlags := 25, slot := 7, constantValue := 0 }, { name := "LOG2_ARRAY_FLOAT_INDEX_SCALE", type := .int, accessFlags := 25, slot := 8, constantValue := 0 }, { name := "LOG2_ARRAY_DOUBLE_INDEX_SCALE", type := .int, accessFlags := 25, slot := 9, constantValue := 0 }, { name := "LOG2_BYTE_BIT_SIZE", type := .int, accessFlags := 26, slot := 10, constantValue := 0 }, { name := "T_BOOLEAN", type := .int, accessFlags := 25, slot := 11, constantValue := 0 }, { name := "T_CHAR", type := .int, accessFlags := 25, slot := 12, constantValue := 0 }, { name := "T_FLOAT", type := .int, accessFlags := 25, slot := 13, constantValue := 0 }, { name := "T_DOUBLE", type := .int, accessFlags := 25, slot := 14, constantValue := 0 }, { name := "T_BYTE", type := .int, accessFlags := 25, slot := 15, constantValue := 0 }, { name := "T_SHORT", type := .int, accessFlags := 25, slot := 16, constantValue := 0 }, { name := "T_INT", type := .int, accessFlags := 25, slot := 17, constantValue := 0 }, { name := "T_LONG", type := .int, accessFlags := 25, slot := 18, constantValue := 0 }, { name := "JLA", type := (.object "jdk/internal/access/JavaLangAccess"), accessFlags := 26, slot := 19, constantValue := 0 }, { name := "SOFT_MAX_ARRAY_LENGTH", type := .int, accessFlags := 25, slot := 20, constantValue := 0 }]
  methods := #[k16m0]
  instanceTypes := #[]
  staticTypes := #[(.object "jdk/internal/misc/Unsafe"), .boolean, .int, .int, .int, .int, .int, .int, .int, .int, .int, .int, .int, .int, .int, .int, .int, .int, .int, (.object "jdk/internal/access/JavaLangAccess"), .int]
  resolved := Array.replicate 378 none
  statics := none }

/-- the primitive byte -/
def k17 : Class := { plain "byte" none with kind := .primitive 'B', accessFlags := 0x411 }
/-- [B -/
def k18 : Class := { plain "[B" (some 0) with kind := .array 17 .byte, interfaces := #[12, 2], accessFlags := 1041 }

/-- the primitive char -/
def k19 : Class := { plain "char" none with kind := .primitive 'C', accessFlags := 0x411 }
/-- [C -/
def k20 : Class := { plain "[C" (some 0) with kind := .array 19 .char, interfaces := #[12, 2], accessFlags := 1041 }

/-- the primitive int -/
def k21 : Class := { plain "int" none with kind := .primitive 'I', accessFlags := 0x411 }
/-- [I -/
def k22 : Class := { plain "[I" (some 0) with kind := .array 21 .int, interfaces := #[12, 2], accessFlags := 1041 }

/-- [Lcom/example/fault/fault/Envelope; -/
def k23 : Class := { plain "[Lcom/example/fault/fault/Envelope;" (some 0) with kind := .array 11 (.object "com/example/fault/fault/Envelope"), interfaces := #[12, 2], accessFlags := 1041 }

def heap : Heap := #[{ cls := 7, slots := #[.long 0, .int 1, .null, .int 0, .null, .int 0, .int 0], vm := .statics 7 },
  { cls := 11, slots := #[.ref 11, .ref 12, .ref 13, .ref 4], vm := .statics 11 },
  { cls := 13, slots := #[.ref 14], vm := .statics 13 },
  { cls := 15, slots := #[.null, .null, .null], vm := .statics 15 },
  { cls := 23, slots := #[.ref 11, .ref 12, .ref 13], vm := .none },
  { cls := 18, slots := #[.int 101, .int 114, .int 114, .int 111, .int 114, .int 115, .int 45, .int 108, .int 105, .int 115, .int 116], vm := .none },
  { cls := 18, slots := #[.int 115, .int 105, .int 110, .int 103, .int 108, .int 101, .int 45, .int 101, .int 114, .int 114, .int 111, .int 114], vm := .none },
  { cls := 18, slots := #[.int 112, .int 114, .int 111, .int 98, .int 108, .int 101, .int 109], vm := .none },
  { cls := 7, slots := #[.ref 5, .int 0, .int 0, .int 0], vm := .none },
  { cls := 7, slots := #[.ref 6, .int 0, .int 0, .int 0], vm := .none },
  { cls := 7, slots := #[.ref 7, .int 0, .int 0, .int 0], vm := .none },
  { cls := 11, slots := #[.null, .int 0, .int 0, .ref 8, .null], vm := .none },
  { cls := 11, slots := #[.null, .int 1, .int 0, .ref 9, .null], vm := .none },
  { cls := 11, slots := #[.null, .int 2, .int 0, .ref 10, .null], vm := .none },
  { cls := 13, slots := #[.null], vm := .none }]
def classes : Array Class := #[k0, k1, k2, k3, k4, k5, k6, k7, k8, k9, k10, k11, k12, k13, k14, k15, k16, k17, k18, k19, k20, k21, k22, k23]
def interned : List (Array UInt16 × Addr) := []
def slotsUsed : Nat := 76
def theMethod : MethodId := ⟨1, 6⟩
def args0 : Array Value := #[.int 0, .int 1, .int 2, .int 65, .int 3]
def aboutOver (below : List Frame) : State where
  vm := { classes := classes, interned := interned.toArray }
  heap := heap
  slotsUsed := slotsUsed
  threads := #[{ frames := .invoking theMethod args0 :: below }]
def below0 : List Frame := [.native { method := ⟨0, 0⟩, args := #[] }]
def about1 : State := aboutOver below0
def p0 : Program := .bare "" "" ""
def e0 : Env := launch0.env 0 0 0
theorem w_frames : about1.frames = Frame.invoking theMethod args0 :: below0 := rfl
set_option maxRecDepth 65536 in
theorem w_args : argsFit about1.vm theMethod args0 = true := by decide +kernel
set_option maxRecDepth 65536 in
theorem w_heap : heapFits about1 = true := by decide +kernel
set_option maxRecDepth 65536 in
theorem w_runnable : about1.curStatus? = some .runnable := by decide +kernel
set_option maxRecDepth 65536 in
theorem w_alone : about1.alone = true := by decide +kernel
set_option maxRecDepth 65536 in
theorem w_named : about1.methodNamed? x = some theMethod := by decide +kernel
set_option maxRecDepth 65536 in
theorem w_hears : about1.hears theMethod below0 = true := by decide +kernel
set_option maxRecDepth 65536 in
theorem w_ripe : about1.ripe theMethod args0 below0 = true := by decide +kernel
theorem w_running : about1.status = .running := rfl
set_option maxRecDepth 65536 in
theorem w_room : about1.hasRoom e0.platform room_1 = true :=
  launch0.hasRoom_least _ room_1 (by decide +kernel) (by decide +kernel) (by decide +kernel) (by decide +kernel) (by decide +kernel) (by decide +kernel)
theorem allAtoms_all (ts : List Jvm.Cond) (a : Array Jvm.Value) (st : Jvm.State) : (allAtoms ts).before a st = ts.all (fun c => c.before a st) := by
  induction ts with
  | nil => rfl
  | cons c t ih =>
    show (Jvm.Cond.and c (allAtoms t)).before a st = _
    rw [Jvm.Cond.before_and, ih, List.all_cons]
def words1 : List Jvm.Cond := Jvm.Cond.code x code maxLocals ret :: tables_1
/-- a 'code' word, met by the world's own term for the bytes: nothing is compared byte by byte -/
theorem code_word {y : MethodName} {bytes : ByteArray} {mx : Nat} {rt : Option FieldType} {a : Array Value} {s : State} {m : MethodId} {meth : Method} {c : Code} (h1 : s.methodNamed? y = some m) (h2 : s.vm.method? m = some meth) (h3 : meth.code = some c) (h4 : c.code = bytes)
    (h5 : (c.maxLocals == mx && c.exceptionTable.isEmpty && decide (c.maxStack ≤ mostOperands) && decide (meth.sig.returnType = rt) && !meth.locks && decide (parseMethodDescriptor y.desc = some meth.sig)) = true) : (Jvm.Cond.code y bytes mx rt).before a s = true := by
  simp only [Bool.and_eq_true, beq_iff_eq, Bool.not_eq_true', decide_eq_true_eq] at h5
  obtain ⟨⟨⟨⟨⟨g1, g2⟩, g3⟩, g4⟩, g5⟩, g6⟩ := h5
  simp [Cond.before, Cond.holds, Cond.value, h1, h2, h3, h4, g1, g2, g3, g4, g5, g6]
def isCode : Jvm.Cond → Bool
  | .code _ _ _ _ => true
  | _ => false
theorem all_split {L : List Jvm.Cond} {P : Jvm.Cond → Bool} (h1 : L.all (fun c => isCode c || P c) = true) (h2 : ∀ c ∈ L.filter isCode, P c = true) : L.all P = true := by
  refine List.all_eq_true.mpr fun c hc => ?_
  have h := List.all_eq_true.mp h1 c hc
  rcases Bool.eq_false_or_eq_true (isCode c) with hi | hi
  · exact h2 c (List.mem_filter.mpr ⟨hc, hi⟩)
  · simpa [hi] using h
set_option maxRecDepth 65536 in
theorem w_c0 : (Jvm.Cond.code x code maxLocals ret).before args0 about1 = true := code_word (m := ⟨1, 6⟩) (meth := k1m6) (c := k1c6) (by decide +kernel) rfl rfl rfl (by decide +kernel)
set_option maxRecDepth 65536 in
theorem w_c1 : (Jvm.Cond.code ({ cls := "com/example/fault/fault/EnvelopeNamedPinLaw", name := "base", desc := "(I)[C" } : Jvm.MethodName) method_2_code (1 : Nat) (Option.some (Jvm.ClassFile.FieldType.array Jvm.ClassFile.FieldType.char))).before args0 about1 = true := code_word (m := ⟨1, 1⟩) (meth := k1m1) (c := k1c1) (by decide +kernel) rfl rfl rfl (by decide +kernel)
set_option maxRecDepth 65536 in
theorem w_c2 : (Jvm.Cond.code ({ cls := "java/lang/String", name := "<init>", desc := "([C)V" } : Jvm.MethodName) jdk_42_method_3_code (2 : Nat) (Option.none : Option Jvm.ClassFile.FieldType)).before args0 about1 = true := code_word (m := ⟨7, 1⟩) (meth := k7m1) (c := k7c1) (by decide +kernel) rfl rfl rfl (by decide +kernel)
set_option maxRecDepth 65536 in
theorem w_c3 : (Jvm.Cond.code ({ cls := "java/lang/String", name := "<init>", desc := "([CIILjava/lang/Void;)V" } : Jvm.MethodName) jdk_42_method_149_code (6 : Nat) (Option.none : Option Jvm.ClassFile.FieldType)).before args0 about1 = true := code_word (m := ⟨7, 3⟩) (meth := k7m3) (c := k7c3) (by decide +kernel) rfl rfl rfl (by decide +kernel)
set_option maxRecDepth 65536 in
theorem w_c4 : (Jvm.Cond.code ({ cls := "java/lang/Object", name := "<init>", desc := "()V" } : Jvm.MethodName) object_method_1_code (1 : Nat) (Option.none : Option Jvm.ClassFile.FieldType)).before args0 about1 = true := code_word (m := ⟨0, 0⟩) (meth := k0m0) (c := k0c0) (by decide +kernel) rfl rfl rfl (by decide +kernel)
set_option maxRecDepth 65536 in
theorem w_c5 : (Jvm.Cond.code ({ cls := "java/lang/StringUTF16", name := "compress", desc := "([CII)[B" } : Jvm.MethodName) jdk_52_method_16_code (6 : Nat) (Option.some (Jvm.ClassFile.FieldType.array Jvm.ClassFile.FieldType.byte))).before args0 about1 = true := code_word (m := ⟨8, 2⟩) (meth := k8m2) (c := k8c2) (by decide +kernel) rfl rfl rfl (by decide +kernel)
set_option maxRecDepth 65536 in
theorem w_c6 : (Jvm.Cond.code ({ cls := "java/lang/StringUTF16", name := "compress", desc := "([CI[BII)I" } : Jvm.MethodName) jdk_52_method_21_code (7 : Nat) (Option.some Jvm.ClassFile.FieldType.int)).before args0 about1 = true := code_word (m := ⟨8, 3⟩) (meth := k8m3) (c := k8c3) (by decide +kernel) rfl rfl rfl (by decide +kernel)
set_option maxRecDepth 65536 in
theorem w_c7 : (Jvm.Cond.code ({ cls := "java/lang/StringUTF16", name := "coderFromArrayLen", desc := "([BI)B" } : Jvm.MethodName) jdk_52_method_15_code (2 : Nat) (Option.some Jvm.ClassFile.FieldType.byte)).before args0 about1 = true := code_word (m := ⟨8, 1⟩) (meth := k8m1) (c := k8c1) (by decide +kernel) rfl rfl rfl (by decide +kernel)
set_option maxRecDepth 65536 in
theorem w_c8 : (Jvm.Cond.code ({ cls := "com/example/fault/fault/EnvelopeNamedPinLaw", name := "expected", desc := "(Ljava/lang/String;)I" } : Jvm.MethodName) method_6_code (1 : Nat) (Option.some Jvm.ClassFile.FieldType.int)).before args0 about1 = true := code_word (m := ⟨1, 5⟩) (meth := k1m5) (c := k1c5) (by decide +kernel) rfl rfl rfl (by decide +kernel)
set_option maxRecDepth 65536 in
theorem w_c9 : (Jvm.Cond.code ({ cls := "java/lang/String", name := "equals", desc := "(Ljava/lang/Object;)Z" } : Jvm.MethodName) jdk_42_method_66_code (3 : Nat) (Option.some Jvm.ClassFile.FieldType.boolean)).before args0 about1 = true := code_word (m := ⟨7, 2⟩) (meth := k7m2) (c := k7c2) (by decide +kernel) rfl rfl rfl (by decide +kernel)
set_option maxRecDepth 65536 in
theorem w_c10 : (Jvm.Cond.code ({ cls := "java/lang/StringLatin1", name := "equals", desc := "([B[B)Z" } : Jvm.MethodName) jdk_43_method_13_code (3 : Nat) (Option.some Jvm.ClassFile.FieldType.boolean)).before args0 about1 = true := code_word (m := ⟨9, 1⟩) (meth := k9m1) (c := k9c1) (by decide +kernel) rfl rfl rfl (by decide +kernel)
set_option maxRecDepth 65536 in
theorem w_c11 : (Jvm.Cond.code ({ cls := "com/example/fault/fault/Envelope", name := "named", desc := "(Ljava/lang/String;)Ljava/util/Optional;" } : Jvm.MethodName) prog_5_method_6_code (5 : Nat) (Option.some (Jvm.ClassFile.FieldType.object "java/util/Optional"))).before args0 about1 = true := code_word (m := ⟨11, 1⟩) (meth := k11m1) (c := k11c1) (by decide +kernel) rfl rfl rfl (by decide +kernel)
set_option maxRecDepth 65536 in
theorem w_c12 : (Jvm.Cond.code ({ cls := "com/example/fault/fault/Envelope", name := "values", desc := "()[Lcom/example/fault/fault/Envelope;" } : Jvm.MethodName) prog_5_method_1_code (0 : Nat) (Option.some (Jvm.ClassFile.FieldType.array (Jvm.ClassFile.FieldType.object "com/example/fault/fault/Envelope")))).before args0 about1 = true := code_word (m := ⟨11, 0⟩) (meth := k11m0) (c := k11c0) (by decide +kernel) rfl rfl rfl (by decide +kernel)
set_option maxRecDepth 65536 in
theorem w_c13 : (Jvm.Cond.code ({ cls := "java/util/Optional", name := "of", desc := "(Ljava/lang/Object;)Ljava/util/Optional;" } : Jvm.MethodName) jdk_32_method_3_code (1 : Nat) (Option.some (Jvm.ClassFile.FieldType.object "java/util/Optional"))).before args0 about1 = true := code_word (m := ⟨13, 2⟩) (meth := k13m2) (c := k13c2) (by decide +kernel) rfl rfl rfl (by decide +kernel)
set_option maxRecDepth 65536 in
theorem w_c14 : (Jvm.Cond.code ({ cls := "java/util/Objects", name := "requireNonNull", desc := "(Ljava/lang/Object;)Ljava/lang/Object;" } : Jvm.MethodName) jdk_31_method_10_code (1 : Nat) (Option.some (Jvm.ClassFile.FieldType.object "java/lang/Object"))).before args0 about1 = true := code_word (m := ⟨14, 1⟩) (meth := k14m1) (c := k14c1) (by decide +kernel) rfl rfl rfl (by decide +kernel)
set_option maxRecDepth 65536 in
theorem w_c15 : (Jvm.Cond.code ({ cls := "java/util/Optional", name := "<init>", desc := "(Ljava/lang/Object;)V" } : Jvm.MethodName) jdk_32_method_2_code (2 : Nat) (Option.none : Option Jvm.ClassFile.FieldType)).before args0 about1 = true := code_word (m := ⟨13, 1⟩) (meth := k13m1) (c := k13c1) (by decide +kernel) rfl rfl rfl (by decide +kernel)
set_option maxRecDepth 65536 in
theorem w_c16 : (Jvm.Cond.code ({ cls := "java/util/Optional", name := "isPresent", desc := "()Z" } : Jvm.MethodName) jdk_32_method_6_code (1 : Nat) (Option.some Jvm.ClassFile.FieldType.boolean)).before args0 about1 = true := code_word (m := ⟨13, 4⟩) (meth := k13m4) (c := k13c4) (by decide +kernel) rfl rfl rfl (by decide +kernel)
set_option maxRecDepth 65536 in
theorem w_c17 : (Jvm.Cond.code ({ cls := "java/util/Optional", name := "get", desc := "()Ljava/lang/Object;" } : Jvm.MethodName) jdk_32_method_5_code (1 : Nat) (Option.some (Jvm.ClassFile.FieldType.object "java/lang/Object"))).before args0 about1 = true := code_word (m := ⟨13, 3⟩) (meth := k13m3) (c := k13c3) (by decide +kernel) rfl rfl rfl (by decide +kernel)
set_option maxRecDepth 65536 in
theorem w_c18 : (Jvm.Cond.code ({ cls := "com/example/fault/fault/EnvelopeNamedPinLaw", name := "drawn", desc := "(II)[C" } : Jvm.MethodName) method_5_code (3 : Nat) (Option.some (Jvm.ClassFile.FieldType.array Jvm.ClassFile.FieldType.char))).before args0 about1 = true := code_word (m := ⟨1, 4⟩) (meth := k1m4) (c := k1c4) (by decide +kernel) rfl rfl rfl (by decide +kernel)
set_option maxRecDepth 65536 in
theorem w_c19 : (Jvm.Cond.code ({ cls := "java/util/Optional", name := "empty", desc := "()Ljava/util/Optional;" } : Jvm.MethodName) jdk_32_method_1_code (1 : Nat) (Option.some (Jvm.ClassFile.FieldType.object "java/util/Optional"))).before args0 about1 = true := code_word (m := ⟨13, 0⟩) (meth := k13m0) (c := k13c0) (by decide +kernel) rfl rfl rfl (by decide +kernel)
set_option maxRecDepth 65536 in
theorem w_c20 : (Jvm.Cond.code ({ cls := "com/example/fault/fault/EnvelopeNamedPinLaw", name := "longer", desc := "(IC)[C" } : Jvm.MethodName) method_3_code (2 : Nat) (Option.some (Jvm.ClassFile.FieldType.array Jvm.ClassFile.FieldType.char))).before args0 about1 = true := code_word (m := ⟨1, 2⟩) (meth := k1m2) (c := k1c2) (by decide +kernel) rfl rfl rfl (by decide +kernel)
set_option maxRecDepth 65536 in
theorem w_c21 : (Jvm.Cond.code ({ cls := "com/example/fault/fault/EnvelopeNamedPinLaw", name := "constName", desc := "(I)Ljava/lang/String;" } : Jvm.MethodName) method_4_code (1 : Nat) (Option.some (Jvm.ClassFile.FieldType.object "java/lang/String"))).before args0 about1 = true := code_word (m := ⟨1, 3⟩) (meth := k1m3) (c := k1c3) (by decide +kernel) rfl rfl rfl (by decide +kernel)
def codes1 : List Jvm.Cond := [Jvm.Cond.code x code maxLocals ret, Jvm.Cond.code ({ cls := "com/example/fault/fault/EnvelopeNamedPinLaw", name := "base", desc := "(I)[C" } : Jvm.MethodName) method_2_code (1 : Nat) (Option.some (Jvm.ClassFile.FieldType.array Jvm.ClassFile.FieldType.char)), Jvm.Cond.code ({ cls := "java/lang/String", name := "<init>", desc := "([C)V" } : Jvm.MethodName) jdk_42_method_3_code (2 : Nat) (Option.none : Option Jvm.ClassFile.FieldType), Jvm.Cond.code ({ cls := "java/lang/String", name := "<init>", desc := "([CIILjava/lang/Void;)V" } : Jvm.MethodName) jdk_42_method_149_code (6 : Nat) (Option.none : Option Jvm.ClassFile.FieldType), Jvm.Cond.code ({ cls := "java/lang/Object", name := "<init>", desc := "()V" } : Jvm.MethodName) object_method_1_code (1 : Nat) (Option.none : Option Jvm.ClassFile.FieldType), Jvm.Cond.code ({ cls := "java/lang/StringUTF16", name := "compress", desc := "([CII)[B" } : Jvm.MethodName) jdk_52_method_16_code (6 : Nat) (Option.some (Jvm.ClassFile.FieldType.array Jvm.ClassFile.FieldType.byte)), Jvm.Cond.code ({ cls := "java/lang/StringUTF16", name := "compress", desc := "([CI[BII)I" } : Jvm.MethodName) jdk_52_method_21_code (7 : Nat) (Option.some Jvm.ClassFile.FieldType.int), Jvm.Cond.code ({ cls := "java/lang/StringUTF16", name := "coderFromArrayLen", desc := "([BI)B" } : Jvm.MethodName) jdk_52_method_15_code (2 : Nat) (Option.some Jvm.ClassFile.FieldType.byte), Jvm.Cond.code ({ cls := "com/example/fault/fault/EnvelopeNamedPinLaw", name := "expected", desc := "(Ljava/lang/String;)I" } : Jvm.MethodName) method_6_code (1 : Nat) (Option.some Jvm.ClassFile.FieldType.int), Jvm.Cond.code ({ cls := "java/lang/String", name := "equals", desc := "(Ljava/lang/Object;)Z" } : Jvm.MethodName) jdk_42_method_66_code (3 : Nat) (Option.some Jvm.ClassFile.FieldType.boolean), Jvm.Cond.code ({ cls := "java/lang/StringLatin1", name := "equals", desc := "([B[B)Z" } : Jvm.MethodName) jdk_43_method_13_code (3 : Nat) (Option.some Jvm.ClassFile.FieldType.boolean), Jvm.Cond.code ({ cls := "com/example/fault/fault/Envelope", name := "named", desc := "(Ljava/lang/String;)Ljava/util/Optional;" } : Jvm.MethodName) prog_5_method_6_code (5 : Nat) (Option.some (Jvm.ClassFile.FieldType.object "java/util/Optional")), Jvm.Cond.code ({ cls := "com/example/fault/fault/Envelope", name := "values", desc := "()[Lcom/example/fault/fault/Envelope;" } : Jvm.MethodName) prog_5_method_1_code (0 : Nat) (Option.some (Jvm.ClassFile.FieldType.array (Jvm.ClassFile.FieldType.object "com/example/fault/fault/Envelope"))), Jvm.Cond.code ({ cls := "java/util/Optional", name := "of", desc := "(Ljava/lang/Object;)Ljava/util/Optional;" } : Jvm.MethodName) jdk_32_method_3_code (1 : Nat) (Option.some (Jvm.ClassFile.FieldType.object "java/util/Optional")), Jvm.Cond.code ({ cls := "java/util/Objects", name := "requireNonNull", desc := "(Ljava/lang/Object;)Ljava/lang/Object;" } : Jvm.MethodName) jdk_31_method_10_code (1 : Nat) (Option.some (Jvm.ClassFile.FieldType.object "java/lang/Object")), Jvm.Cond.code ({ cls := "java/util/Optional", name := "<init>", desc := "(Ljava/lang/Object;)V" } : Jvm.MethodName) jdk_32_method_2_code (2 : Nat) (Option.none : Option Jvm.ClassFile.FieldType), Jvm.Cond.code ({ cls := "java/util/Optional", name := "isPresent", desc := "()Z" } : Jvm.MethodName) jdk_32_method_6_code (1 : Nat) (Option.some Jvm.ClassFile.FieldType.boolean), Jvm.Cond.code ({ cls := "java/util/Optional", name := "get", desc := "()Ljava/lang/Object;" } : Jvm.MethodName) jdk_32_method_5_code (1 : Nat) (Option.some (Jvm.ClassFile.FieldType.object "java/lang/Object")), Jvm.Cond.code ({ cls := "com/example/fault/fault/EnvelopeNamedPinLaw", name := "drawn", desc := "(II)[C" } : Jvm.MethodName) method_5_code (3 : Nat) (Option.some (Jvm.ClassFile.FieldType.array Jvm.ClassFile.FieldType.char)), Jvm.Cond.code ({ cls := "java/util/Optional", name := "empty", desc := "()Ljava/util/Optional;" } : Jvm.MethodName) jdk_32_method_1_code (1 : Nat) (Option.some (Jvm.ClassFile.FieldType.object "java/util/Optional")), Jvm.Cond.code ({ cls := "com/example/fault/fault/EnvelopeNamedPinLaw", name := "longer", desc := "(IC)[C" } : Jvm.MethodName) method_3_code (2 : Nat) (Option.some (Jvm.ClassFile.FieldType.array Jvm.ClassFile.FieldType.char)), Jvm.Cond.code ({ cls := "com/example/fault/fault/EnvelopeNamedPinLaw", name := "constName", desc := "(I)Ljava/lang/String;" } : Jvm.MethodName) method_4_code (1 : Nat) (Option.some (Jvm.ClassFile.FieldType.object "java/lang/String"))]
set_option maxRecDepth 65536 in
theorem codes_eq : words1.filter isCode = codes1 := rfl
theorem w_codes : ∀ c ∈ words1.filter isCode, c.before args0 about1 = true := by
  rw [codes_eq]
  intro c hc
  simp only [codes1, List.mem_cons, List.not_mem_nil, or_false] at hc
  rcases hc with rfl | rfl | rfl | rfl | rfl | rfl | rfl | rfl | rfl | rfl | rfl | rfl | rfl | rfl | rfl | rfl | rfl | rfl | rfl | rfl | rfl | rfl
  · exact w_c0
  · exact w_c1
  · exact w_c2
  · exact w_c3
  · exact w_c4
  · exact w_c5
  · exact w_c6
  · exact w_c7
  · exact w_c8
  · exact w_c9
  · exact w_c10
  · exact w_c11
  · exact w_c12
  · exact w_c13
  · exact w_c14
  · exact w_c15
  · exact w_c16
  · exact w_c17
  · exact w_c18
  · exact w_c19
  · exact w_c20
  · exact w_c21
set_option maxRecDepth 65536 in
theorem w_t1 : (words1.take 24).all (fun c => isCode c || c.before args0 about1) = true := by decide +kernel
set_option maxRecDepth 65536 in
theorem w_t2 : ((words1.drop 24).take 24).all (fun c => isCode c || c.before args0 about1) = true := by decide +kernel
set_option maxRecDepth 65536 in
theorem w_t3 : (((words1.drop 24).drop 24).take 24).all (fun c => isCode c || c.before args0 about1) = true := by decide +kernel
set_option maxRecDepth 65536 in
theorem w_t4 : ((((words1.drop 24).drop 24).drop 24).take 24).all (fun c => isCode c || c.before args0 about1) = true := by decide +kernel
set_option maxRecDepth 65536 in
theorem w_t5 : (((((words1.drop 24).drop 24).drop 24).drop 24).take 24).all (fun c => isCode c || c.before args0 about1) = true := by decide +kernel
set_option maxRecDepth 65536 in
theorem w_t6 : (((((words1.drop 24).drop 24).drop 24).drop 24).drop 24).all (fun c => isCode c || c.before args0 about1) = true := by decide +kernel
theorem w_tables : (allAtoms (Jvm.Cond.code x code maxLocals ret :: tables_1)).before args0 about1 = true := by
  rw [allAtoms_all]
  show words1.all (fun c => c.before args0 about1) = true
  refine all_split ?_ w_codes
  rw [← List.take_append_drop 24 words1, List.all_append, w_t1, ← List.take_append_drop 24 (words1.drop 24), List.all_append, w_t2, ← List.take_append_drop 24 ((words1.drop 24).drop 24), List.all_append, w_t3, ← List.take_append_drop 24 (((words1.drop 24).drop 24).drop 24), List.all_append, w_t4, ← List.take_append_drop 24 ((((words1.drop 24).drop 24).drop 24).drop 24), List.all_append, w_t5, w_t6]
  rfl
set_option maxRecDepth 65536 in
theorem w_rest : rest_1_c.before args0 about1 = true := by decide +kernel
set_option maxRecDepth 65536 in
theorem w_case : (Jvm.Cond.and given_1 narrow_1).before args0 about1 = true := by decide +kernel
set_option maxRecDepth 65536 in
theorem w_consts : constsHeld consts_1 about1 := Jvm.Lit.constsHeldB_iff.mp (by decide +kernel)
theorem w_applies : (headSpec (Jvm.Cond.code x code maxLocals ret :: tables_1) room_1).applies x e0.platform about1 = true :=
  (Spec.applies_iff w_frames).mpr ⟨w_running, w_runnable, w_alone, w_named, w_hears, w_ripe, w_room, w_tables⟩
theorem atStart : AtStart classFile x code maxLocals ret World_1 tables_1 room_1 Calls_1 rest_1 Pre_1 launch0 p0 e0 about1 theMethod args0 below0 :=
  ⟨lists_1, trivial, launch0.admits_env _ _ _, launch0.least_env, fairChoices_fair.cas, fairChoices_fair.clock, w_frames, w_args, w_heap, w_applies, ⟨w_consts, trivial⟩, w_rest, w_case⟩
end start1
theorem witness_1 : WitnessClaimed_1 := ⟨start1.p0, start1.e0, start1.about1, start1.theMethod, start1.args0, start1.below0, start1.atStart⟩
end Jvm.Pilot.@@N@@
