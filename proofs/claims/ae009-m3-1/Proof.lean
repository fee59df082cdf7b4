import JvmDerived
import JvmDerived.Pilot.@@N@@Statement
import JvmDerived.Pilot.@@N@@Code
set_option linter.unusedVariables false
set_option linter.unusedSimpArgs false
namespace Jvm.RoadKit
open Sem ClassFile Op Lib Jvm.Stand Jvm.Free Jvm.LawKit
section New
variable {p : Program} {l : Launch} {e : Env} {R : Room} {s : State} {m : MethodId} {args : Array Value} {below : List Frame} {meth : Method} {c : Code} {T : State} {locs : List Loc} {cells slots : Nat}
theorem retI (X : Stand p l e R s m args below meth c T locs cells slots) (hx : p.tables.exec = Jvm.exec) {pc : Nat} {Ls : Array Slot} {z : Int32} {rest : List Value} (hret : meth.sig.returnType = some .int) (hd : decode c.code pc = .ok (.ireturn, 1)) {fs : List Frame}
    (hl : ∀ (f : JFrame) (acts : List Action), f.method = m → f.locked = none → f.entered = [] → (doReturn e (T.setTop f) acts (some (.int z))).1 = T.setFrames fs) : Steps p.tables e below (T.setTop (mkF m pc Ls (.int z :: rest))) (T.setFrames fs) := by
  have hm' : T.vm.method? m = some meth := X.method'
  have hn : narrow .int (.int z) = .int z := rfl
  show Steps p.tables e below (T.setTop { method := m, pc := pc, locals := Ls, stack := _ :: rest, locked := none }) _
  jvm_step X.here [X.here.top, hx, hd, hm', hret, hn]
  first | (intro acts; rw [hl _ acts rfl rfl rfl]) | rw [hl _ _ rfl rfl rfl]
  exact Steps.refl _
/-- from the state a the run ends, within its caller's frames, in an outcome of which P holds -/
def own_Endz (tb : Tables) (e : Env) (below : List Frame) (P : Outcome → State → Prop) (a : State) : Prop := ∃ s₂ o, Steps tb e below a s₂ ∧ s₂.status = .running ∧ Ended s₂ below o ∧ P o s₂
abbrev own_EndQ (s : State) (k n : Nat) (Q : Option Value → Heap → List Loc → Prop) : Outcome → State → Prop := fun o U' => ∃ v L, o = .returned v ∧ Q v U'.heap L ∧ FrameEnd s o U' L k n
theorem own_go {tb : Tables} {P : Outcome → State → Prop} {a b : State} (h : ∀ t, Steps tb e below b t → Steps tb e below a t) (k : own_Endz tb e below P b) : own_Endz tb e below P a := by
  obtain ⟨s2, o, h1, r⟩ := k
  exact ⟨s2, o, h _ h1, r⟩
theorem own_tr {tb : Tables} {P : Outcome → State → Prop} {a b : State} (h : Steps tb e below a b) (k : own_Endz tb e below P b) : own_Endz tb e below P a := by
  obtain ⟨s2, o, h1, r⟩ := k
  exact ⟨s2, o, h.trans h1, r⟩
theorem own_cast {tb : Tables} {P : Outcome → State → Prop} {g g' : JFrame} (q : g = g') (k : own_Endz tb e below P (T.setTop g')) : own_Endz tb e below P (T.setTop g) := q ▸ k
theorem own_retN (X : Stand p l e R s m args below meth c T locs cells slots) (hx : p.tables.exec = Jvm.exec) (hlk : meth.locks = false) {pc : Nat} {Ls : Array Slot} {z : Int32} {t : FieldType} {rest : List Value} (hret : meth.sig.returnType = some t) (ht : t = .boolean ∨ t = .byte ∨ t = .char ∨ t = .short)
    (hd : decode c.code pc = .ok (.ireturn, 1)) {k n : Nat} {Q : Option Value → Heap → List Loc → Prop} (hk : cells ≤ k) (hn : slots ≤ n) (q : Q (some (.int (nar t z))) T.heap locs) : own_Endz p.tables e below (own_EndQ s k n Q) (T.setTop (mkF m pc Ls (.int z :: rest))) := by
  obtain ⟨fs, hr, hrun, hended, hW, hsame⟩ := X.leave (v := some (.int (nar t z))) (fun h => by rw [hret] at h; cases h) hlk
  exact ⟨_, _, retN X hx hret ht hd hr, hrun, hended, _, _, rfl, q, ⟨_, rfl⟩, hW, hsame.mono hk hn⟩
theorem own_retI (X : Stand p l e R s m args below meth c T locs cells slots) (hx : p.tables.exec = Jvm.exec) (hlk : meth.locks = false) {pc : Nat} {Ls : Array Slot} {z : Int32} {rest : List Value} (hret : meth.sig.returnType = some .int)
    (hd : decode c.code pc = .ok (.ireturn, 1)) {k n : Nat} {Q : Option Value → Heap → List Loc → Prop} (hk : cells ≤ k) (hn : slots ≤ n) (q : Q (some (.int z)) T.heap locs) : own_Endz p.tables e below (own_EndQ s k n Q) (T.setTop (mkF m pc Ls (.int z :: rest))) := by
  obtain ⟨fs, hr, hrun, hended, hW, hsame⟩ := X.leave (v := some (.int z)) (fun h => by rw [hret] at h; cases h) hlk
  exact ⟨_, _, retI X hx hret hd hr, hrun, hended, _, _, rfl, q, ⟨_, rfl⟩, hW, hsame.mono hk hn⟩
theorem own_retA (X : Stand p l e R s m args below meth c T locs cells slots) (hx : p.tables.exec = Jvm.exec) (hlk : meth.locks = false) {pc : Nat} {Ls : Array Slot} {w : Value} {t : FieldType} {rest : List Value} (hret : meth.sig.returnType = some t) (ht : t.isReference = true) (hw : w.isRef = true)
    (hd : decode c.code pc = .ok (.areturn, 1)) {k n : Nat} {Q : Option Value → Heap → List Loc → Prop} (hk : cells ≤ k) (hn : slots ≤ n) (q : Q (some w) T.heap locs) : own_Endz p.tables e below (own_EndQ s k n Q) (T.setTop (mkF m pc Ls (w :: rest))) := by
  obtain ⟨fs, hr, hrun, hended, hW, hsame⟩ := X.leave (v := some w) (fun h => by rw [hret] at h; cases h) hlk
  have hnw : narrow t w = w := by cases t <;> first | (cases ht; done) | rfl
  exact ⟨_, _, retOut X hx hret hnw (Or.inr (Or.inr (Or.inr (Or.inr ⟨rfl, ht, hw⟩)))) hd hr, hrun, hended, _, _, rfl, q, ⟨_, rfl⟩, hW, hsame.mono hk hn⟩
theorem own_retV (X : Stand p l e R s m args below meth c T locs cells slots) (hx : p.tables.exec = Jvm.exec) (hlk : meth.locks = false) {pc : Nat} {Ls : Array Slot} (hret : meth.sig.returnType = none)
    (hd : decode c.code pc = .ok (.return_, 1)) {k n : Nat} {Q : Option Value → Heap → List Loc → Prop} (hk : cells ≤ k) (hn : slots ≤ n) (q : Q none T.heap locs) : own_Endz p.tables e below (own_EndQ s k n Q) (T.setTop (mkF m pc Ls [])) := by
  obtain ⟨fs, hr, hrun, hended, hW, hsame⟩ := X.leave (v := none) (fun _ => rfl) hlk
  exact ⟨_, _, X.returnOut hx hret hd hr, hrun, hended, _, _, rfl, q, ⟨_, rfl⟩, hW, hsame.mono hk hn⟩
theorem own_ev {t u : Term} {k : Int32} {args : Array Value} (h : (Cond.eq t (.int k)).value args s none s [] = some true) : t.eval args s none [] s = some (.int k) := by
  simp only [Cond.value, Term.eval] at h
  split at h <;> simp_all
theorem own_fld {t : Term} {C n d : String} {k : Int32} {x : Addr} {args : Array Value} (ht : t.eval args s none [] s = some (.ref x)) (h : (Cond.eq (.field t C n d) (.int k)).value args s none s [] = some true) : Fld s s.heap x C n d (.int k) :=
  Fld.start ((fld_at ht).symm.trans (own_ev (u := t) h))
theorem own_enum {Z : State} {h : Heap} {C f d : String} {ad : Nat → Addr} {n : Nat} (hn : n ≤ 2 ^ 31) (F : ∀ i, i < n → Fld Z h (ad i) C f d (.int i.toInt32)) (i j : Nat) (hi : i < n) (hj : j < n) : ad i = ad j ↔ i = j := by
  refine ⟨fun q => Classical.byContradiction fun ne => (F i hi).ne (F j hj) (fun v => ne ?_) q, fun q => q ▸ rfl⟩
  have q1 := congrArg Int32.toInt (Value.int.inj v)
  rw [len_toInt (by omega), len_toInt (by omega)] at q1
  omega
theorem own_cat {v : Value} (h : v.isRef = true) : v.category = 1 := by cases v <;> first | rfl | (cases h)
theorem own_evR {t u : Term} {a : Addr} {args : Array Value} (hu : u.eval args s none [] s = some (.ref a)) (h : (Cond.eq t u).value args s none s [] = some true) : t.eval args s none [] s = some (.ref a) := by
  simp only [Cond.value, hu] at h
  split at h <;> simp_all
theorem own_len {t : Term} {x : Addr} {cl : Cell} {k : Int32} {args : Array Value} (ht : t.eval args s none [] s = some (.ref x)) (hc : s.heap[x]? = some cl) (h : (Cond.eq (.length t) (.int k)).value args s none s [] = some true) : cl.slots.size.toInt32 = k ∧ cl.slots.size < 2 ^ 31 := by
  have e := own_ev (u := t) h
  obtain ⟨x', cl', e1, e2, e3⟩ := Term.length_spec e
  cases ht.symm.trans e1
  have e4 : cl' = cl := by
    simp only [State.arrayAt?, Option.bind_eq_bind, hc, Option.bind_some] at e2
    obtain ⟨k1, -, e2⟩ := Option.bind_eq_some_iff.mp e2
    split at e2
    · cases e2
    · split at e2
      · exact (Option.some.inj e2).symm
      · cases e2
  subst e4
  refine ⟨(Value.int.inj e3).symm, Classical.byContradiction fun hn => ?_⟩
  simp [Term.eval, ht, e2] at e
  exact hn e.1
theorem own_elem {t u : Term} {x a : Addr} {cl : Cell} {k : Int32} {args : Array Value} (ht : t.eval args s none [] s = some (.ref x)) (hc : s.heap[x]? = some cl) (hu : u.eval args s none [] s = some (.ref a)) (h : (Cond.eq (.elem t (.int k)) u).value args s none s [] = some true) : cl.slots[k.toNatClampNeg]? = some (.ref a) := by
  have e := own_evR hu h
  exact (elem_in e ht (Term.int_eval k) hc).2
theorem own_ite {α : Type} {P : α → Prop} {q : Prop} [Decidable q] {a b : α} (ha : P a) (hb : P b) : P (if q then a else b) := by split <;> assumption
theorem own_selp {C : String} {y y' : MethodName} {args a1 : Array Value} (hs : (Cond.selects C y' y').before args s = true) (hC : y'.cls = y.cls) (hpriv : s.PrivateAt y) (hinst : (Cond.instanceMethod y).before a1 s = true) (hy : y.cls ≠ "java/lang/invoke/MethodHandle" ∧ y.cls ≠ "java/lang/invoke/VarHandle") : (Cond.selects y.cls y y).before a1 s = true := by
  obtain ⟨c, r, mm, f1, f2, f3, f4, k, k1, k2⟩ := Cond.selects_spec hs
  have hc := findClass_of_methodNamed f3
  rw [hC] at hc
  exact Jvm.Stand.selects_self_of_private hc k1 k2 hpriv hinst hy
theorem own_i {x y : Int32} (h : x ≠ y) : (Value.int x) ≠ .int y := fun q => h (Value.int.inj q)
theorem own_at {h : Heap} {a : Addr} {cl : Cell} (E : T.heap = h) (q : h[a]? = some cl) : T.heap[a]? = some cl := by rw [E]; exact q
end New
end Jvm.RoadKit
namespace Jvm.RoadKit
open Sem ClassFile Op Lib Jvm.Stand Jvm.Free Jvm.LawKit
section Litz
variable {p : Program} {l : Launch} {e : Env} {R : Room} {s Z : State} {m : MethodId} {args a0 : Array Value} {below : List Frame} {meth : Method} {c : Code} {T : State} {locs : List Loc} {cells slots : Nat} {h h' : Heap} {vm0 vm1 : Vm} {Ts Te : List String} {k0 : Nat}
def own_Le (k : Nat) (h : Heap) : Prop := k ≤ h.size
theorem own_Le.ext {k : Nat} (L : own_Le k h) (E : Ext h h') : own_Le k h' := Nat.le_trans L E.1
theorem own_Le.wr {k sl : Nat} {a : Addr} {v : Value} (L : own_Le k h) (W : Wr h h' a sl v) : own_Le k h' := Nat.le_trans L (Keep.of_wr W).1
theorem own_Le.keep {k : Nat} {ws : List Addr} (L : own_Le k h) (K : Keep h h' ws) : own_Le k h' := Nat.le_trans L K.1
theorem own_LeT {k : Nat} (L : own_Le k h) (E : T.heap = h) : own_Le k T.heap := E ▸ L
theorem own_IBm (I : IB Z vm0 Ts) (q : vm1.interned = vm0.interned) (hs : ∀ t ∈ Ts, t ∈ Te) : IB Z vm1 Te := by
  obtain ⟨more, h1, h2⟩ := I
  exact ⟨more, q.trans h1, fun z hz => by obtain ⟨t, r1, r2⟩ := h2 z hz; exact ⟨t, hs t r1, r2⟩⟩
/-- a Latin-1 String that spells cs -/
def own_St (Z : State) (h : Heap) (a : Addr) (cs : List Int32) : Prop := ∃ (t : Addr) (kb : ClassId), Exa Z h a "java/lang/String" ∧ Fld Z h a "java/lang/String" "value" "[B" (.ref t) ∧ Fld Z h a "java/lang/String" "coder" "B" (.int 0) ∧ Arv Z h t kb .byte (Int32.ofNat cs.length) ((cs.map fun c => c.toInt8.toInt32).map Value.int) (.int 0) ∧ (∀ c ∈ cs, ¬ c < 0 ∧ ¬ (255 : Int32) < c) ∧ cs.length ≤ 4000
theorem own_St.ext {a : Addr} {cs : List Int32} (S : own_St Z h a cs) (E : Ext h h') : own_St Z h' a cs := by
  obtain ⟨t, kb, h1, h2, h3, h4, h5⟩ := S
  exact ⟨t, kb, h1.ext E, h2.ext E, h3.ext E, h4.ext E, h5⟩
theorem own_St.keep {a : Addr} {cs : List Int32} (S : own_St Z h a cs) (K : Keep h h' []) (q : a ∉ ([] : List Addr)) : own_St Z h' a cs := S.ext ⟨K.1, fun x c r => K.2.1 x c r (List.not_mem_nil)⟩
theorem own_St.exa {a : Addr} {cs : List Int32} (S : own_St Z h a cs) : Exa Z h a "java/lang/String" := by
  obtain ⟨t, kb, h1, -⟩ := S
  exact h1
theorem own_St.lt {a : Addr} {cs : List Int32} (S : own_St Z h a cs) : a < h.size := S.exa.lt
theorem own_ldc (X : Stand p l e R (s.setVm vm0) m args below meth c T locs cells slots) (hx : p.tables.exec = Jvm.exec) (hZ : Z.Warmed39 (s.setVm vm0).vm) {own text : String} {index : Nat} (hown : (s.setVm vm0).vm.findClass own = some m.cls) (w : (Cond.stringLink own index text).before a0 Z = true) (wS : ∀ a ∈ Bundle.stringAtoms, a.before a0 Z = true)
    (eT : T.heap = h) (hS : s.Since vm0 k0) (hk : own_Le k0 h) (N : Fr s.heap.size locs) (hkeep : ∀ (b : Addr) (cl : Cell), Z.heap[b]? = some cl → s.heap[b]? = some cl) (I : IB Z vm0 Ts) (hnot : text ∉ Ts) (hh : Jvm.Lit.constHeld Z own index) (hcw : Jvm.Lit.compactW.before a0 Z = true)
    {cs : List Int32} (ht : (∀ c ∈ text.toList, c.toNat < 256) ∧ text.toList.map (fun c => Value.int (Jvm.Lit.byteI c.toNat.toUInt16)) = (cs.map fun c => c.toInt8.toInt32).map Value.int) (hlat : ∀ c ∈ cs, ¬ c < 0 ∧ ¬ (255 : Int32) < c) (h4 : cs.length ≤ 4000)
    {g : JFrame} (hg : g.method = m) (hd : decode c.code g.pc = .ok (.ldc index, 2)) {n : Nat} (hn : 4 * text.toList.length ≤ n) (hbig : n ≤ 536870912) (hc : cells + 2 ≤ R.cells) (hl' : slots + (n + 4) ≤ R.slots) :
    ∃ (a : Addr) (T' : State) (h' : Heap) (k1 : Nat), Stand p l e R (s.setVm T'.vm) m args below meth c T' locs (cells + 2) (slots + (n + 4)) ∧ T'.heap = h' ∧ Ext h h' ∧ s.Since T'.vm k1 ∧ own_Le k1 h' ∧ Z.Warmed39 (s.setVm T'.vm).vm ∧ (s.setVm T'.vm).vm.findClass own = some m.cls ∧ own_St Z h' a cs ∧ IB Z T'.vm (text :: Ts) ∧ Lit (s.setVm T'.vm) own index a ∧
      ∀ target, Steps p.tables e below (T'.setTop { g with pc := g.pc + 2, stack := .ref a :: g.stack }) target → Steps p.tables e below (T.setTop g) target := by
  have e1 : ((Int32.ofNat cs.length).toInt) = (cs.length : Int) := len_toInt (n := cs.length) (by omega)
  have z0 : ¬ Int32.ofNat cs.length < 0 := by rw [Int32.lt_iff_toInt_lt, e1]; have e0 : (0 : Int32).toInt = 0 := by decide
                                              omega
  have z1 : (Int32.ofNat cs.length).toNatClampNeg = ((cs.map fun c => c.toInt8.toInt32).map Value.int).length := by simp only [Int32.toNatClampNeg, e1, List.length_map]; omega
  obtain ⟨a, T', h', k1, b, k, r1, r2, r3, r4, r5, r6, r7, r8, r9, r10, r11, r12, r13, r14, r15, r16⟩ := ldcSVL X hx hZ hown w wS eT hS hk N hkeep I hnot hh hcw ht z0 z1 hg hd hn hbig hc hl'
  exact ⟨a, T', h', k1, r1, r2, r3, r4, r5, r6, r7, ⟨b, k, r8, r10, r9, r11, hlat, h4⟩, r14, r15, r16⟩
abbrev own_EndW (Z s : State) (Te : List String) (k n : Nat) (Q : Option Value → Heap → List Loc → Prop) : Outcome → State → Prop := fun o U' => ∃ v L, o = .returned v ∧ Q v U'.heap L ∧ IB Z U'.vm Te ∧ ReturnedEndW s o U' L k n
theorem own_endW (X : Stand p l e R (s.setVm vm0) m args below meth c T locs cells slots) (hlk : meth.locks = false) (hS : s.Since vm0 k0) (hk : own_Le k0 T.heap) (I : IB Z vm0 Ts) (hs : ∀ t ∈ Ts, t ∈ Te) {v : Option Value} (hv : meth.sig.returnType = none → v = none) {k n : Nat} {Q : Option Value → Heap → List Loc → Prop} (hk' : cells ≤ k) (hn : slots ≤ n) (q : Q v T.heap locs)
    (a : State) (st : ∀ fs, (∀ (f : JFrame) (acts : List Action), f.method = m → f.locked = none → f.entered = [] → (doReturn e (T.setTop f) acts v).1 = T.setFrames fs) → Steps p.tables e below a (T.setFrames fs)) : own_Endz p.tables e below (own_EndW Z s Te k n Q) a := by
  obtain ⟨fs, hr, hrun, hended, e1, e2, e3, e4⟩ := X.leaveW hS hk (v := v) hv hlk
  exact ⟨_, _, st fs hr, hrun, hended, v, locs, rfl, q, own_IBm I X.warmed.interned_eq hs, e1, e2, e3, e4.mono hk' hn⟩
theorem own_retNW (X : Stand p l e R (s.setVm vm0) m args below meth c T locs cells slots) (hx : p.tables.exec = Jvm.exec) (hlk : meth.locks = false) (hS : s.Since vm0 k0) (hk : own_Le k0 T.heap) (I : IB Z vm0 Ts) (hs : ∀ t ∈ Ts, t ∈ Te) {pc : Nat} {Ls : Array Slot} {z : Int32} {t : FieldType} {rest : List Value} (hret : meth.sig.returnType = some t) (ht : t = .boolean ∨ t = .byte ∨ t = .char ∨ t = .short)
    (hd : decode c.code pc = .ok (.ireturn, 1)) {k n : Nat} {Q : Option Value → Heap → List Loc → Prop} (hk' : cells ≤ k) (hn : slots ≤ n) (q : Q (some (.int (nar t z))) T.heap locs) : own_Endz p.tables e below (own_EndW Z s Te k n Q) (T.setTop (mkF m pc Ls (.int z :: rest))) :=
  own_endW X hlk hS hk I hs (fun h => by rw [hret] at h; cases h) hk' hn q _ fun _ hr => retN X hx hret ht hd hr
theorem own_retIW (X : Stand p l e R (s.setVm vm0) m args below meth c T locs cells slots) (hx : p.tables.exec = Jvm.exec) (hlk : meth.locks = false) (hS : s.Since vm0 k0) (hk : own_Le k0 T.heap) (I : IB Z vm0 Ts) (hs : ∀ t ∈ Ts, t ∈ Te) {pc : Nat} {Ls : Array Slot} {z : Int32} {rest : List Value} (hret : meth.sig.returnType = some .int)
    (hd : decode c.code pc = .ok (.ireturn, 1)) {k n : Nat} {Q : Option Value → Heap → List Loc → Prop} (hk' : cells ≤ k) (hn : slots ≤ n) (q : Q (some (.int z)) T.heap locs) : own_Endz p.tables e below (own_EndW Z s Te k n Q) (T.setTop (mkF m pc Ls (.int z :: rest))) :=
  own_endW X hlk hS hk I hs (fun h => by rw [hret] at h; cases h) hk' hn q _ fun _ hr => retI X hx hret hd hr
theorem own_retAW (X : Stand p l e R (s.setVm vm0) m args below meth c T locs cells slots) (hx : p.tables.exec = Jvm.exec) (hlk : meth.locks = false) (hS : s.Since vm0 k0) (hk : own_Le k0 T.heap) (I : IB Z vm0 Ts) (hs : ∀ t ∈ Ts, t ∈ Te) {pc : Nat} {Ls : Array Slot} {w : Value} {t : FieldType} {rest : List Value} (hret : meth.sig.returnType = some t) (ht : t.isReference = true) (hw : w.isRef = true)
    (hd : decode c.code pc = .ok (.areturn, 1)) {k n : Nat} {Q : Option Value → Heap → List Loc → Prop} (hk' : cells ≤ k) (hn : slots ≤ n) (q : Q (some w) T.heap locs) : own_Endz p.tables e below (own_EndW Z s Te k n Q) (T.setTop (mkF m pc Ls (w :: rest))) := by
  have hnw : narrow t w = w := by cases t <;> first | (cases ht; done) | rfl
  exact own_endW X hlk hS hk I hs (fun h => by rw [hret] at h; cases h) hk' hn q _ fun _ hr => retOut X hx hret hnw (Or.inr (Or.inr (Or.inr (Or.inr ⟨rfl, ht, hw⟩)))) hd hr
theorem own_retVW (X : Stand p l e R (s.setVm vm0) m args below meth c T locs cells slots) (hx : p.tables.exec = Jvm.exec) (hlk : meth.locks = false) (hS : s.Since vm0 k0) (hk : own_Le k0 T.heap) (I : IB Z vm0 Ts) (hs : ∀ t ∈ Ts, t ∈ Te) {pc : Nat} {Ls : Array Slot} (hret : meth.sig.returnType = none)
    (hd : decode c.code pc = .ok (.return_, 1)) {k n : Nat} {Q : Option Value → Heap → List Loc → Prop} (hk' : cells ≤ k) (hn : slots ≤ n) (q : Q none T.heap locs) : own_Endz p.tables e below (own_EndW Z s Te k n Q) (T.setTop (mkF m pc Ls [])) :=
  own_endW X hlk hS hk I hs (fun _ => rfl) hk' hn q _ fun _ hr => X.returnOut hx hret hd hr
/-- a callee that may intern, and whose word tells of the texts interned -/
theorem own_backS {y : MethodName} {bytes : ByteArray} {maxL : Nat} {ret : Option FieldType} {rm : Room} {len W : Nat} {as' : Array Value} {Q : Option Value → Heap → List Loc → Prop}
    (hM : MetFree l y (head1 [Cond.code y bytes maxL ret] rm) (fun a U => a = as' ∧ Z.Warmed39 U.vm ∧ U.heap = h ∧ IB Z U.vm Ts) (fun _ _ _ _ _ => True) (fun _ U o U' => ∃ v L, o = .returned v ∧ Q v U'.heap L ∧ IB Z U'.vm Te ∧ ReturnedEndW U o U' L rm.cells rm.slots))
    (hZ : Z.Warmed39 s.vm) (I : IB Z s.vm Ts) (wc : (Cond.code y bytes maxL ret).before a0 Z = true) (wz : (Cond.initialized y.cls).before a0 Z = true) (hf : rm.frames + 1 ≤ R.frames) (hl : W + (maxL + 11) + rm.locals ≤ R.locals) :
    BackS l R p e below s args y len W (fun A a => a = as' ∧ A.U.heap = h ∧ A.cells + rm.cells ≤ R.cells ∧ A.slots + rm.slots ≤ R.slots)
      (fun A _ v B => ∃ L, (Q v B.U.heap L ∧ IB Z B.U.vm Te) ∧ B.locs = A.locs ++ L ∧ B.cells = A.cells + rm.cells ∧ B.slots = A.slots + rm.slots) := by
  refine BackS.of_freeW (bytes := bytes) (maxL := maxL) (ret := ret) (E := fun _ _ o t L k n => k = rm.cells ∧ n = rm.slots ∧ ∃ v, o = .returned v ∧ Q v t.heap L ∧ IB Z t.vm Te) hM hf hl ?_ ?_ (fun _ _ _ _ _ _ _ _ _ => trivial) ?_ ?_
  · intro m meth c A a Y hp
    have hU : Z.Warmed39 A.U.vm := wtrans hZ Y.warmed
    refine ⟨?_, mv hU wc, mv hU wz, hp.2.2.1, hp.2.2.2⟩
    show (Cond.and _ .tt).before a A.U = true
    rw [Cond.before_and, mv hU wc]; rfl
  · intro m meth c A a g mk Y hp
    exact ⟨hp.1, wtrans hZ Y.warmed, hp.2.1, own_IBm I Y.warmed.interned_eq fun _ q => q⟩
  · rintro a f o t ⟨v, L, h1, h2, h3, h4⟩
    exact ⟨L, _, _, h4, rfl, rfl, v, h1, h2, h3⟩
  · rintro m meth c A a g mk v t L k n Y hp - - ⟨rfl, rfl, v', e3, e4, e5⟩
    cases e3
    exact ⟨L, ⟨e4, e5⟩, rfl, rfl, rfl⟩
theorem own_reb {own : String} {n n1 : Nat} (hS : s.Since vm0 k0) (hk : k0 ≤ n1) (h2 : (s.setVm vm0).Since vm1 n) (g : n1 ≤ n) (hZ : Z.Warmed39 (s.setVm vm0).vm) (hown : (s.setVm vm0).vm.findClass own = some m.cls) : s.Since vm1 n ∧ Z.Warmed39 (s.setVm vm1).vm ∧ (s.setVm vm1).vm.findClass own = some m.cls :=
  ⟨hS.trans h2 (Nat.le_trans hk g), State.Warmed39.trans hZ h2.1, (h2.1.alike.findClass _ _).trans hown⟩
theorem own_since (s : State) : s.Since s.vm s.heap.size := (State.WarmedH.refl s).since _
theorem own_mono {k n : Nat} (X : Stand p l e R s m args below meth c T locs cells slots) (hk : cells ≤ k) (hn : slots ≤ n) : Stand p l e R s m args below meth c T locs k n := { X with same := X.same.mono hk hn }
end Litz
end Jvm.RoadKit
namespace Jvm.RoadKit
open Sem ClassFile Op Lib Jvm.Stand Jvm.Free Jvm.LawKit
theorem own_evi {s : State} {t u : Term} {k : Int32} {args : Array Value} {idx : List Nat} (hu : u.eval args s none idx s = some (.int k)) (h : (Cond.eq t u).value args s none s idx = some true) : t.eval args s none idx s = some (.int k) := by
  simp only [Cond.value, hu] at h
  split at h <;> simp_all
theorem own_nat32 {i : Nat} (h : i < 2 ^ 31) : i.toInt32.toNatClampNeg = i := by
  simp only [Int32.toNatClampNeg, len_toInt h]; rfl
theorem own_tab {s : State} {t u : Term} {args a0 : Array Value} {x : Addr} {n : Int32} {g : Nat → Int32} (ht : ∀ idx, t.eval args s none idx s = some (.ref x)) (hx : (Cond.exactly t "[B").value args s none s [] = some true) (hl : (Cond.eq (.length t) (.int n)).value args s none s [] = some true)
    (ha : (Cond.all t (.eq (.elem t (.index 0)) u)).value args s none s [] = some true) (hu : ∀ i, u.eval args s none [i] s = some (.int (g i))) (wa : (Cond.arrayClass .byte).before a0 s = true) : ∃ cl, Arr s s.heap x cl .byte ∧ cl.slots.size.toInt32 = n ∧ cl.slots.size < 2 ^ 31 ∧ ∀ i, i < cl.slots.size → cl.slots[i]? = some (.int (g i)) := by
  obtain ⟨cl, k, h1, h2, h3, h4, -⟩ := Exa.start (ht []) hx
  have e := own_evi (k := n) rfl hl
  obtain ⟨x', cl', e1, e2, e3⟩ := Term.length_spec e
  cases (ht []).symm.trans e1
  have e4 : cl' = cl ∧ cl.vm ≠ .unknown := by
    simp only [State.arrayAt?, Option.bind_eq_bind, h1, Option.bind_some] at e2
    obtain ⟨k1, -, e2⟩ := Option.bind_eq_some_iff.mp e2
    split at e2
    · cases e2
    · rename_i hq
      split at e2
      · exact ⟨(Option.some.inj e2).symm, fun q => hq (Or.inl q)⟩
      · cases e2
  obtain ⟨rfl, e5⟩ := e4
  obtain ⟨c, kc, comp, f1, f2, f3⟩ := Cond.arrayClass_spec wa
  have f1' : s.vm.findClass "[B" = some c := f1
  cases h2.symm.trans f1'
  have hA : Arr s s.heap x cl' .byte := ⟨h1, ⟨(fun k q => by rw [q] at h4; cases h4), kc, f2, comp, f3⟩, e5⟩
  have hsz : cl'.slots.size < 2 ^ 31 := Classical.byContradiction fun hn => by
    simp [Term.eval, ht, e2] at e
    exact hn e.1
  refine ⟨cl', hA, (Value.int.inj e3).symm, hsz, fun i hi => ?_⟩
  have w := Cond.all_elim (ht []) e2 ha i hi
  have v := own_evi (hu i) w
  have r := (elem_in v (ht [i]) (Term.index_eval _) h1).2
  rw [own_nat32 (by omega)] at r
  exact r
end Jvm.RoadKit
/- laws to paste: Road.backV, Road.lenW, Road.chN, Road.empW, Road.codOf (cut by pick.py; bodies as the Statement names them) -/
namespace Jvm.Pilot.@@N@@
namespace StrChars
open Jvm Sem ClassFile Op Lib Jvm.Stand Jvm.Free.XT Jvm.Free.ALB Jvm.Free.JM Jvm.Free
open Jvm.Lib.Cold (StaticIs)
/-- a char array whose places are chars -/
def Ch (a : Addr) (A : Cell) (U : State) : Prop := Arr .char a A U ∧ Typed .char A
theorem Ch.mv {a : Addr} {A : Cell} {U U' : State} (h : Ch a A U) (hal : U.vm.Alike U'.vm) (hh : U'.heap = U.heap) : Ch a A U' := ⟨h.1.mv hal hh, h.2⟩
theorem Ch.keep {a : Addr} {A : Cell} {U U' : State} (h : Ch a A U) (hal : U.vm.Alike U'.vm) (hk : U'.heap[a]? = some A) : Ch a A U' := ⟨h.1.keep hal hk, h.2⟩
/-- what place i of a char[]'s cell holds -/
def cv (A : Cell) (i : Nat) : Int32 := match A.slots[i]? with | some (.int x) => x | _ => 0
theorem Ch.get {a : Addr} {A : Cell} {U : State} (h : Ch a A U) {i : Nat} (hi : i < A.slots.size) : A.slots[i]? = some (.int (cv A i)) := by
  have e := Array.getElem?_eq_getElem hi
  have f := h.2 i _ e
  unfold cv; rw [e]
  generalize A.slots[i] = v at f
  cases v <;> simp [fits] at f ⊢
/-- the byte that i2b leaves of a char -/
def lo8 (x : Int32) : Int32 := x.toInt8.toInt32
theorem fits_lo8 (y : Int32) : fits .byte (.int (lo8 y)) = true := by
  have h1 := y.toInt8.le_toInt
  have h2 := y.toInt8.toInt_lt
  simp only [lo8, fits, Bool.and_eq_true, decide_eq_true_eq, Int32.le_iff_toInt_le, Int8.toInt_toInt32, show (-128 : Int32).toInt = -128 from by decide, show (127 : Int32).toInt = 127 from by decide]
  omega
/-- A' is A but that each place j of lo .. hi - 1 holds f j -/
def Laid (A A' : Cell) (lo hi : Nat) (f : Nat → Value) : Prop := A'.cls = A.cls ∧ A'.vm = A.vm ∧ A'.slots.size = A.slots.size ∧ ∀ i, A'.slots[i]? = if lo ≤ i ∧ i < hi then some (f i) else A.slots[i]?
theorem Laid.zero (A : Cell) (lo : Nat) (f : Nat → Value) : Laid A A lo (lo + 0) f := ⟨rfl, rfl, rfl, fun i => by rw [if_neg (by omega)]⟩
theorem Laid.step {A Ak : Cell} {lo k : Nat} {f : Nat → Value} {v : Value} (h : Laid A Ak lo k f) (hlo : lo ≤ k) (hk : k < Ak.slots.size) (hv : v = f k) : Laid A (Ak.setSlot k v) lo (k + 1) f := by
  refine ⟨h.1, h.2.1, by simpa [Cell.setSlot] using h.2.2.1, fun i => ?_⟩
  by_cases e : k = i
  · subst e; rw [Cell.slots_setSlot_self v hk, if_pos (by omega), hv]
  · rw [Cell.slots_setSlot_ne v e, h.2.2.2 i]
    by_cases q : lo ≤ i ∧ i < k
    · rw [if_pos q, if_pos (by omega)]
    · rw [if_neg q, if_neg (by omega)]
def U16 : String := "java/lang/StringUTF16"
namespace Cmp5
def yN : MethodName := ⟨"java/lang/StringUTF16", "compress", "([CI[BII)I"⟩
abbrev yB : ByteArray := jdk_52_method_21_code
theorem d0 : decode yB 0 = .ok (.iconst 0, 1) := by decide +kernel
theorem d1 : decode yB 1 = .ok (.istore 5, 2) := by decide +kernel
theorem d3 : decode yB 3 = .ok (.iload 5, 2) := by decide +kernel
theorem d5 : decode yB 5 = .ok (.iload 4, 2) := by decide +kernel
theorem d7 : decode yB 7 = .ok (.if_icmp (.ge) 37, 3) := by decide +kernel
theorem d10 : decode yB 10 = .ok (.aload_n 0, 1) := by decide +kernel
theorem d11 : decode yB 11 = .ok (.iload_n 1, 1) := by decide +kernel
theorem d12 : decode yB 12 = .ok (.caload, 1) := by decide +kernel
theorem d13 : decode yB 13 = .ok (.istore 6, 2) := by decide +kernel
theorem d15 : decode yB 15 = .ok (.iload 6, 2) := by decide +kernel
theorem d17 : decode yB 17 = .ok (.sipush 255, 3) := by decide +kernel
theorem d20 : decode yB 20 = .ok (.if_icmp (.le) 6, 3) := by decide +kernel
theorem d26 : decode yB 26 = .ok (.aload_n 2, 1) := by decide +kernel
theorem d27 : decode yB 27 = .ok (.iload_n 3, 1) := by decide +kernel
theorem d28 : decode yB 28 = .ok (.iload 6, 2) := by decide +kernel
theorem d30 : decode yB 30 = .ok (.i2b, 1) := by decide +kernel
theorem d31 : decode yB 31 = .ok (.bastore, 1) := by decide +kernel
theorem d32 : decode yB 32 = .ok (.iinc 1 1, 3) := by decide +kernel
theorem d35 : decode yB 35 = .ok (.iinc 3 1, 3) := by decide +kernel
theorem d38 : decode yB 38 = .ok (.iinc 5 1, 3) := by decide +kernel
theorem d41 : decode yB 41 = .ok (.goto (-38), 3) := by decide +kernel
theorem d44 : decode yB 44 = .ok (.iload 4, 2) := by decide +kernel
theorem d46 : decode yB 46 = .ok (.ireturn, 1) := by decide +kernel
def site : List Cond := []
def tab : Cond := tabOf yN yB 7 (some .int) site
def P (b : Addr) (A : Cell) (d : Addr) (B : Cell) (o q len : Nat) (args : Array Value) (s : State) : Prop := args = #[.ref b, .int (Int32.ofNat o), .ref d, .int (Int32.ofNat q), .int (Int32.ofNat len)] ∧ Ch b A s ∧ Arr .byte d B s ∧ b ≠ d ∧ o + len ≤ A.slots.size ∧ q + len ≤ B.slots.size ∧ ∀ i, i < len → ¬ 255 < cv A (o + i)
def E (b : Addr) (A : Cell) (d : Addr) (B : Cell) (o q len : Nat) (r : Option Value) (s u : State) : Prop := r = some (.int (Int32.ofNat len)) ∧ ∃ B', Put d B' s u ∧ Laid B B' q (q + len) (fun j => Value.int (lo8 (cv A (o + (j - q)))))
/-- no char of the range above 255: len; the places written hold each char's low byte -/
theorem law (l : Launch) (b : Addr) (A : Cell) (d : Addr) (B : Cell) (o q len : Nat) : Law l yN 5 5 0 0 yB 7 (some .int) site (P b A d B o q len) (E b A d B o q len) (copyLocs d q len) 0 0 := by
  refine Law.of_walk (plainFor_of_name (by decide +kernel)) (by decide +kernel) (by decide +kernel) (by decide) (fun _ _ h => by rw [h.1]; rfl) (fun _ U U' hal hh h => ⟨h.1, h.2.1.mv hal hh, h.2.2.1.mv hal hh, h.2.2.2⟩) (fun r U U' V V' h1 hal h2 h => ⟨h.1, h.2.elim fun B' q => ⟨B', q.1.mv h1 h2, q.2⟩⟩) ?_
  intro p e s m args below meth c s₁ X0 hexec hbytes hml hret hlk hnm hown hh0 W hP
  obtain ⟨rfl, hA, hB, hne, l1, l2, hp⟩ := hP
  have c1 : Steps p.tables e below (s₁.setTop (entryFrame m #[.ref b, .int (Int32.ofNat o), .ref d, .int (Int32.ofNat q), .int (Int32.ofNat len)] 7)) (s₁.setTop (mkF m 0 #[.val (.ref b), .val (.int (Int32.ofNat o)), .val (.ref d), .val (.int (Int32.ofNat q)), .val (.int (Int32.ofNat len)), .unset, .unset] [])) := entry rfl
  have hA0 := hA.1.mv X0.warmed.alike hh0
  have hB0 := hB.mv X0.warmed.alike hh0
  have a31 := hA.1.2.2.2
  have c2 : Steps p.tables e below (s₁.setTop (entryFrame m #[.ref b, .int (Int32.ofNat o), .ref d, .int (Int32.ofNat q), .int (Int32.ofNat len)] 7)) (s₁.setTop (mkF m 3 #[.val (.ref b), .val (.int (Int32.ofNat o)), .val (.ref d), .val (.int (Int32.ofNat q)), .val (.int (Int32.ofNat len)), .val (.int 0), .unset] [])) := c1.trans (by
    refine iconstV X0.here hexec rfl 0 (hb hbytes d0) (by decide) ?_
    refine XS.istore X0.here hexec rfl (hb hbytes d1) rfl rfl ?_
    exact Steps.refl _)
  have loop : ∀ (r i : Nat), i + r = len → ∀ (z : Slot), (z = .unset ∨ ∃ w, z = .val w ∧ w.category = 1) → ∀ (Tl : State) (Bk : Cell), Stand p l e { frames := 0, locals := 0, cells := 0, slots := 0 } s m #[.ref b, .int (Int32.ofNat o), .ref d, .int (Int32.ofNat q), .int (Int32.ofNat len)] below meth c Tl ([] ++ copyLocs d q i) 0 0 → Put d Bk s₁ Tl → Laid B Bk q (q + i) (fun j => Value.int (lo8 (cv A (o + (j - q))))) →
      Steps p.tables e below (s₁.setTop (entryFrame m #[.ref b, .int (Int32.ofNat o), .ref d, .int (Int32.ofNat q), .int (Int32.ofNat len)] 7)) (Tl.setTop (mkF m 3 #[.val (.ref b), .val (.int (Int32.ofNat (o + i))), .val (.ref d), .val (.int (Int32.ofNat (q + i))), .val (.int (Int32.ofNat len)), .val (.int (Int32.ofNat i)), z] [])) → ∃ (T' : State) (B' : Cell) (z' : Slot), Stand p l e { frames := 0, locals := 0, cells := 0, slots := 0 } s m #[.ref b, .int (Int32.ofNat o), .ref d, .int (Int32.ofNat q), .int (Int32.ofNat len)] below meth c T' ([] ++ copyLocs d q len) 0 0 ∧ Put d B' s₁ T' ∧ Laid B B' q (q + len) (fun j => Value.int (lo8 (cv A (o + (j - q))))) ∧
      Steps p.tables e below (s₁.setTop (entryFrame m #[.ref b, .int (Int32.ofNat o), .ref d, .int (Int32.ofNat q), .int (Int32.ofNat len)] 7)) (T'.setTop (mkF m 3 #[.val (.ref b), .val (.int (Int32.ofNat (o + len))), .val (.ref d), .val (.int (Int32.ofNat (q + len))), .val (.int (Int32.ofNat len)), .val (.int (Int32.ofNat len)), z'] [])) := by
    intro r
    induction r with
    | zero =>
      intro i hi z hz Tl Bk Xl pl fl cl
      have hil : i = len := by omega
      rw [hil] at Xl fl cl
      exact ⟨Tl, Bk, z, Xl, pl, fl, cl⟩
    | succ r ih =>
      intro i hi z hz Tl Bk Xl pl fl cl
      have all := X0.warmed.alike.symm.trans Xl.warmed.alike
      have hAl := hA0.keep all (pl.other hne hA0.1)
      have hBk := hB0.like all pl.1 fl.1 fl.2.1 fl.2.2.1
      have hlt : q + i < Bk.slots.size := by rw [fl.2.2.1]; omega
      have c3 : Steps p.tables e below (s₁.setTop (entryFrame m #[.ref b, .int (Int32.ofNat o), .ref d, .int (Int32.ofNat q), .int (Int32.ofNat len)] 7)) (Tl.setTop (mkF m 12 #[.val (.ref b), .val (.int (Int32.ofNat (o + i))), .val (.ref d), .val (.int (Int32.ofNat (q + i))), .val (.int (Int32.ofNat len)), .val (.int (Int32.ofNat i)), z] [.int (Int32.ofNat (o + i)), .ref b])) := cl.trans (by
        refine XS.iload Xl.here hexec rfl (hb hbytes d3) rfl ?_
        refine XS.iload Xl.here hexec rfl (hb hbytes d5) rfl ?_
        refine XS.icmpNo Xl.here hexec rfl (hb hbytes d7) rfl (ii_ge_f (lt32 (by omega) (by omega))) ?_
        refine XS.aloadN Xl.here hexec rfl (hb hbytes d10) rfl rfl ?_
        refine XS.iloadN Xl.here hexec rfl (hb hbytes d11) rfl ?_
        exact Steps.refl _)
      have c4 : Steps p.tables e below (s₁.setTop (entryFrame m #[.ref b, .int (Int32.ofNat o), .ref d, .int (Int32.ofNat q), .int (Int32.ofNat len)] 7)) (Tl.setTop (mkF m 13 #[.val (.ref b), .val (.int (Int32.ofNat (o + i))), .val (.ref d), .val (.int (Int32.ofNat (q + i))), .val (.int (Int32.ofNat len)), .val (.int (Int32.ofNat i)), z] [.int (cv A (o + i))])) := c3.trans (by
        refine Xl.aget hexec hAl rfl (hA.get (i := o + i) (by omega)) rfl rfl (hb hbytes d12) ?_
        exact Steps.refl _)
      have c5 : Steps p.tables e below (s₁.setTop (entryFrame m #[.ref b, .int (Int32.ofNat o), .ref d, .int (Int32.ofNat q), .int (Int32.ofNat len)] 7)) (Tl.setTop (mkF m 15 #[.val (.ref b), .val (.int (Int32.ofNat (o + i))), .val (.ref d), .val (.int (Int32.ofNat (q + i))), .val (.int (Int32.ofNat len)), .val (.int (Int32.ofNat i)), .val (.int (cv A (o + i)))] [])) := c4.trans (by
        refine XS.istoreS Xl.here hexec rfl (hb hbytes d13) rfl rfl hz ?_
        exact Steps.refl _)
      have c6 : Steps p.tables e below (s₁.setTop (entryFrame m #[.ref b, .int (Int32.ofNat o), .ref d, .int (Int32.ofNat q), .int (Int32.ofNat len)] 7)) (Tl.setTop (mkF m 31 #[.val (.ref b), .val (.int (Int32.ofNat (o + i))), .val (.ref d), .val (.int (Int32.ofNat (q + i))), .val (.int (Int32.ofNat len)), .val (.int (Int32.ofNat i)), .val (.int (cv A (o + i)))] [.int (lo8 (cv A (o + i))), .int (Int32.ofNat (q + i)), .ref d])) := c5.trans (by
        refine XS.iload Xl.here hexec rfl (hb hbytes d15) rfl ?_
        refine sipushV Xl.here hexec rfl 255 (hb hbytes d17) (by decide) ?_
        refine XS.icmpYes Xl.here hexec rfl (pc0 := 20) rfl (hb hbytes d20) rfl (ii_le_t (hp i (by omega))) (by decide) rfl ?_
        refine XS.aloadN Xl.here hexec rfl (hb hbytes d26) rfl rfl ?_
        refine XS.iloadN Xl.here hexec rfl (hb hbytes d27) rfl ?_
        refine XS.iload Xl.here hexec rfl (hb hbytes d28) rfl ?_
        refine i2b Xl.here hexec rfl (hb hbytes d30) rfl ?_
        exact Steps.refl _)
      obtain ⟨T7, X7, p7, st7⟩ := Xl.aput hexec hBk rfl hlt rfl (fits_lo8 (cv A (o + i))) (g := (mkF m 31 #[.val (.ref b), .val (.int (Int32.ofNat (o + i))), .val (.ref d), .val (.int (Int32.ofNat (q + i))), .val (.int (Int32.ofNat len)), .val (.int (Int32.ofNat i)), .val (.int (cv A (o + i)))] [.int (lo8 (cv A (o + i))), .int (Int32.ofNat (q + i)), .ref d])) rfl (rest := []) rfl (hb hbytes d31)
      have c8 : Steps p.tables e below (s₁.setTop (entryFrame m #[.ref b, .int (Int32.ofNat o), .ref d, .int (Int32.ofNat q), .int (Int32.ofNat len)] 7)) (T7.setTop (mkF m 32 #[.val (.ref b), .val (.int (Int32.ofNat (o + i))), .val (.ref d), .val (.int (Int32.ofNat (q + i))), .val (.int (Int32.ofNat len)), .val (.int (Int32.ofNat i)), .val (.int (cv A (o + i)))] [])) := c6.trans (st7 _ (Steps.refl _))
      have c9 : Steps p.tables e below (s₁.setTop (entryFrame m #[.ref b, .int (Int32.ofNat o), .ref d, .int (Int32.ofNat q), .int (Int32.ofNat len)] 7)) (T7.setTop (mkF m 3 #[.val (.ref b), .val (.int (Int32.ofNat (o + i) + 1)), .val (.ref d), .val (.int (Int32.ofNat (q + i) + 1)), .val (.int (Int32.ofNat len)), .val (.int (Int32.ofNat i + 1)), .val (.int (cv A (o + i)))] [])) := c8.trans (by
        refine iincV X7.here hexec rfl 1 (hb hbytes d32) (by decide) rfl rfl ?_
        refine iincV X7.here hexec rfl 1 (hb hbytes d35) (by decide) rfl rfl ?_
        refine iincV X7.here hexec rfl 1 (hb hbytes d38) (by decide) rfl rfl ?_
        refine XS.goto X7.here hexec rfl (pc0 := 41) rfl (hb hbytes d41) (by decide) rfl ?_
        exact Steps.refl _)
      have c10 : Steps p.tables e below (s₁.setTop (entryFrame m #[.ref b, .int (Int32.ofNat o), .ref d, .int (Int32.ofNat q), .int (Int32.ofNat len)] 7)) (T7.setTop (mkF m 3 #[.val (.ref b), .val (.int (Int32.ofNat (o + (i + 1)))), .val (.ref d), .val (.int (Int32.ofNat (q + (i + 1)))), .val (.int (Int32.ofNat len)), .val (.int (Int32.ofNat (i + 1))), .val (.int (cv A (o + i)))] [])) := by
        have := c9
        rw [succ32, succ32, succ32] at this
        exact this
      exact ih (i + 1) (by omega) _ (Or.inr ⟨_, rfl, rfl⟩) T7 _ (by rw [copyLocs_step, ← List.append_assoc]; exact X7) (pl.trans p7) (fl.step (by omega) hlt (by simp)) c10
  obtain ⟨T9, B9, z9, X9, p9, f9, g9⟩ := loop len 0 (by omega) .unset (Or.inl rfl) s₁ B (by simpa [copyLocs] using X0) ⟨hB0.1, fun _ _ => rfl, rfl⟩ (Laid.zero _ _ _) c2
  have c11 : Steps p.tables e below (s₁.setTop (entryFrame m #[.ref b, .int (Int32.ofNat o), .ref d, .int (Int32.ofNat q), .int (Int32.ofNat len)] 7)) (T9.setTop (mkF m 46 #[.val (.ref b), .val (.int (Int32.ofNat (o + len))), .val (.ref d), .val (.int (Int32.ofNat (q + len))), .val (.int (Int32.ofNat len)), .val (.int (Int32.ofNat len)), z9] [.int (Int32.ofNat len)])) := g9.trans (by
    refine XS.iload X9.here hexec rfl (hb hbytes d3) rfl ?_
    refine XS.iload X9.here hexec rfl (hb hbytes d5) rfl ?_
    refine XS.icmpYes X9.here hexec rfl (pc0 := 7) rfl (hb hbytes d7) rfl (ii_ge_t (nlt32 (by omega) (Nat.le_refl _))) (by decide) rfl ?_
    refine XS.iload X9.here hexec rfl (hb hbytes d44) rfl ?_
    exact Steps.refl _)
  exact ⟨T9, some (.int (Int32.ofNat len)), _, _, _, X9, by simp, rfl, rfl, (fun h => by cases h), ⟨rfl, B9, p9.from hh0, f9⟩, fun fs hl => c11.trans (X9.ireturnOut hexec hret rfl (Or.inl rfl) (hb hbytes d46) hl)⟩
end Cmp5
namespace Cmp3
def yN : MethodName := ⟨"java/lang/StringUTF16", "compress", "([CII)[B"⟩
abbrev yB : ByteArray := jdk_52_method_16_code
theorem d0 : decode yB 0 = .ok (.iload_n 2, 1) := by decide +kernel
theorem d1 : decode yB 1 = .ok (.newarray .byte, 2) := by decide +kernel
theorem d3 : decode yB 3 = .ok (.astore_n 3, 1) := by decide +kernel
theorem d4 : decode yB 4 = .ok (.aload_n 0, 1) := by decide +kernel
theorem d5 : decode yB 5 = .ok (.iload_n 1, 1) := by decide +kernel
theorem d6 : decode yB 6 = .ok (.aload_n 3, 1) := by decide +kernel
theorem d7 : decode yB 7 = .ok (.iconst 0, 1) := by decide +kernel
theorem d8 : decode yB 8 = .ok (.iload_n 2, 1) := by decide +kernel
theorem d9 : decode yB 9 = .ok (.invokestatic 115, 3) := by decide +kernel
theorem d12 : decode yB 12 = .ok (.istore 4, 2) := by decide +kernel
theorem d14 : decode yB 14 = .ok (.iload 4, 2) := by decide +kernel
theorem d16 : decode yB 16 = .ok (.iload_n 2, 1) := by decide +kernel
theorem d17 : decode yB 17 = .ok (.if_icmp (.eq) 40, 3) := by decide +kernel
theorem d57 : decode yB 57 = .ok (.aload_n 3, 1) := by decide +kernel
theorem d58 : decode yB 58 = .ok (.areturn, 1) := by decide +kernel
def site : List Cond := [.arrayClass .byte, Cmp5.tab] ++ staticW U16 115 Cmp5.yN
def tab : Cond := tabOf yN yB 6 (some (.array .byte)) site
def P (b : Addr) (A : Cell) (o len : Nat) (args : Array Value) (s : State) : Prop := args = #[.ref b, .int (Int32.ofNat o), .int (Int32.ofNat len)] ∧ Ch b A s ∧ o + len ≤ A.slots.size ∧ len ≤ 536870912 ∧ ∀ i, i < len → ¬ 255 < cv A (o + i)
def E (b : Addr) (A : Cell) (o len : Nat) (r : Option Value) (s u : State) : Prop := NewArr .byte "[B" len (fun j => .int (lo8 (cv A (o + j)))) r s u ∧ u.heap.size = s.heap.size + 1
/-- no char of the range above 255: a new byte[] of their low bytes -/
theorem law (l : Launch) (b : Addr) (A : Cell) (o len : Nat) : Law l yN 3 3 1 18 yB 6 (some (.array .byte)) site (P b A o len) (E b A o len) [] 1 len := by
  refine Law.of_walk (plainFor_of_name (by decide +kernel)) (by decide +kernel) (by decide +kernel) (by decide) (fun _ _ h => by rw [h.1]; rfl) (fun _ U U' hal hh h => ⟨h.1, h.2.1.mv hal hh, h.2.2⟩) (fun r U U' V V' h1 hal h2 h => ⟨NewArr.mv r U U' V V' h1 hal h2 h.1, by rw [h1, h2]; exact h.2⟩) ?_
  intro p e s m args below meth c s₁ X0 hexec hbytes hml hret hlk hnm hown hh0 W hP
  obtain ⟨rfl, hA, l1, l2, hp⟩ := hP
  have a31 := hA.1.2.2.2
  have c1 : Steps p.tables e below (s₁.setTop (entryFrame m #[.ref b, .int (Int32.ofNat o), .int (Int32.ofNat len)] 6)) (s₁.setTop (mkF m 0 #[.val (.ref b), .val (.int (Int32.ofNat o)), .val (.int (Int32.ofNat len)), .unset, .unset, .unset] [])) := entry rfl
  have c2 : Steps p.tables e below (s₁.setTop (entryFrame m #[.ref b, .int (Int32.ofNat o), .int (Int32.ofNat len)] 6)) (s₁.setTop (mkF m 1 #[.val (.ref b), .val (.int (Int32.ofNat o)), .val (.int (Int32.ofNat len)), .unset, .unset, .unset] [.int (Int32.ofNat len)])) := c1.trans (by
    refine XS.iloadN X0.here hexec rfl (hb hbytes d0) rfl ?_
    exact Steps.refl _)
  obtain ⟨T3, B3, X3, ba3, bs3, bv3, bh3, bf3, st3⟩ := X0.anew hexec (atype := .byte) (wk W (.arrayClass .byte)) rfl (by show len * 1 ≤ _; omega) (by omega) (g := (mkF m 1 #[.val (.ref b), .val (.int (Int32.ofNat o)), .val (.int (Int32.ofNat len)), .unset, .unset, .unset] [.int (Int32.ofNat len)])) rfl (hb hbytes d1) (rest := []) rfl (Nat.le_refl _) (by show 0 + len ≤ len; omega)
  rw [hh0] at ba3 st3
  have kp3 : XT.Kept s T3 := (XT.Kept.of_eq hh0).push bh3
  have hA3 := hA.keep X3.warmed.alike (kp3 _ _ hA.1.1)
  have hne : b ≠ s.heap.size := hA.1.ne
  have c4 : Steps p.tables e below (s₁.setTop (entryFrame m #[.ref b, .int (Int32.ofNat o), .int (Int32.ofNat len)] 6)) (T3.setTop (mkF m 3 #[.val (.ref b), .val (.int (Int32.ofNat o)), .val (.int (Int32.ofNat len)), .unset, .unset, .unset] [.ref s.heap.size])) := c2.trans (st3 _ (Steps.refl _))
  have c5 : Steps p.tables e below (s₁.setTop (entryFrame m #[.ref b, .int (Int32.ofNat o), .int (Int32.ofNat len)] 6)) (T3.setTop (mkF m 9 #[.val (.ref b), .val (.int (Int32.ofNat o)), .val (.int (Int32.ofNat len)), .val (.ref s.heap.size), .unset, .unset] [.int (Int32.ofNat len), .int 0, .ref s.heap.size, .int (Int32.ofNat o), .ref b])) := c4.trans (by
    refine XS.astoreN X3.here hexec rfl (hb hbytes d3) rfl rfl rfl ?_
    refine XS.aloadN X3.here hexec rfl (hb hbytes d4) rfl rfl ?_
    refine XS.iloadN X3.here hexec rfl (hb hbytes d5) rfl ?_
    refine XS.aloadN X3.here hexec rfl (hb hbytes d6) rfl rfl ?_
    refine iconstV X3.here hexec rfl 0 (hb hbytes d7) (by decide) ?_
    refine XS.iloadN X3.here hexec rfl (hb hbytes d8) rfl ?_
    exact Steps.refl _)
  obtain ⟨v6, T6, X6, E6, g6⟩ := X3.callS hexec (Cmp5.law l b A s.heap.size B3 o 0 len) hown (wks W (staticW U16 115 Cmp5.yN)) (wk W Cmp5.tab) (W := 0) (Nat.le_of_ble_eq_true rfl) (Nat.le_of_ble_eq_true rfl) (Nat.le_refl _) (by show 0 + len + 0 ≤ len; omega) (g := (mkF m 9 #[.val (.ref b), .val (.int (Int32.ofNat o)), .val (.int (Int32.ofNat len)), .val (.ref s.heap.size), .unset, .unset] [.int (Int32.ofNat len), .int (Int32.ofNat 0), .ref s.heap.size, .int (Int32.ofNat o), .ref b])) rfl (by rw [hml]; rfl) c5 (argsL := [.ref b, .int (Int32.ofNat o), .ref s.heap.size, .int (Int32.ofNat 0), .int (Int32.ofNat len)]) (rest := []) rfl rfl (by show 2 * 0 + 0 ≤ _; decide) (hb hbytes d9) (⟨rfl, hA3, ba3, hne, l1, by rw [bs3]; simp, hp⟩)
  obtain ⟨rfl, B6, p6, f6⟩ := E6
  have c7 : Steps p.tables e below (s₁.setTop (entryFrame m #[.ref b, .int (Int32.ofNat o), .int (Int32.ofNat len)] 6)) (T6.setTop (mkF m 12 #[.val (.ref b), .val (.int (Int32.ofNat o)), .val (.int (Int32.ofNat len)), .val (.ref s.heap.size), .unset, .unset] [.int (Int32.ofNat len)])) := g6
  have c8 : Steps p.tables e below (s₁.setTop (entryFrame m #[.ref b, .int (Int32.ofNat o), .int (Int32.ofNat len)] 6)) (T6.setTop (mkF m 58 #[.val (.ref b), .val (.int (Int32.ofNat o)), .val (.int (Int32.ofNat len)), .val (.ref s.heap.size), .val (.int (Int32.ofNat len)), .unset] [.ref s.heap.size])) := c7.trans (by
    refine XS.istore X6.here hexec rfl (hb hbytes d12) rfl rfl ?_
    refine XS.iload X6.here hexec rfl (hb hbytes d14) rfl ?_
    refine XS.iloadN X6.here hexec rfl (hb hbytes d16) rfl ?_
    refine XS.icmpYes X6.here hexec rfl (pc0 := 17) rfl (hb hbytes d17) rfl (ii_eq_t rfl) (by decide) rfl ?_
    refine XS.aloadN X6.here hexec rfl (hb hbytes d57) rfl rfl ?_
    exact Steps.refl _)
  have X8 := X6.wide (L' := []) (cells' := 1) (slots' := len) (fun x hx hlt => by
    simp only [List.nil_append, copyLocs, List.mem_map, List.mem_range] at hx
    obtain ⟨i, -, rfl⟩ := hx
    exact absurd hlt (Nat.lt_irrefl _)) (Nat.le_refl _) (by omega)
  exact ⟨T6, some (.ref s.heap.size), _, _, _, X8, rfl, rfl, rfl, (fun h => by cases h), ⟨⟨rfl, B6, ba3.like (X3.warmed.alike.symm.trans X6.warmed.alike) p6.1 f6.1 f6.2.1 f6.2.2.1, f6.2.1.trans bv3, by rw [X6.warmed.alike.findClass, f6.1]; exact bf3, by rw [f6.2.2.1, bs3]; simp, fun j hj => by rw [f6.2.2.2 j, if_pos (by omega)]; rfl, kp3.put p6 (Nat.le_refl _)⟩, by rw [p6.2.2, bh3, hh0]; simp⟩, fun fs hl => c8.trans (X8.areturnOut hexec rfl hret rfl (hb hbytes d58) hl)⟩
end Cmp3
namespace CodL
def yN : MethodName := ⟨"java/lang/StringUTF16", "coderFromArrayLen", "([BI)B"⟩
abbrev yB : ByteArray := jdk_52_method_15_code
theorem d0 : decode yB 0 = .ok (.iload_n 1, 1) := by decide +kernel
theorem d1 : decode yB 1 = .ok (.aload_n 0, 1) := by decide +kernel
theorem d2 : decode yB 2 = .ok (.arraylength, 1) := by decide +kernel
theorem d3 : decode yB 3 = .ok (.isub, 1) := by decide +kernel
theorem d4 : decode yB 4 = .ok (.bipush 31, 2) := by decide +kernel
theorem d6 : decode yB 6 = .ok (.iushr, 1) := by decide +kernel
theorem d7 : decode yB 7 = .ok (.i2b, 1) := by decide +kernel
theorem d8 : decode yB 8 = .ok (.ireturn, 1) := by decide +kernel
def site : List Cond := []
def tab : Cond := tabOf yN yB 2 (some .byte) site
def P (d : Addr) (B : Cell) (args : Array Value) (s : State) : Prop := args = #[.ref d, .int (Int32.ofNat B.slots.size)] ∧ Arr .byte d B s
def E (r : Option Value) (s u : State) : Prop := XT.PureE (some (.int 0)) r s u
/-- an array as long as the number of chars: LATIN1 -/
theorem law (l : Launch) (d : Addr) (B : Cell) : Law l yN 2 2 0 0 yB 2 (some .byte) site (P d B) E [] 0 0 := by
  refine Law.of_walk (plainFor_of_name (by decide +kernel)) (by decide +kernel) (by decide +kernel) (by decide) (fun _ _ h => by rw [h.1]; rfl) (fun _ U U' hal hh h => ⟨h.1, h.2.mv hal hh⟩) (fun r U U' V V' h1 hal h2 h => XT.PureE.mv r U U' V V' h1 hal h2 h) ?_
  intro p e s m args below meth c s₁ X0 hexec hbytes hml hret hlk hnm hown hh0 W hP
  obtain ⟨rfl, hB⟩ := hP
  have hB0 := hB.mv X0.warmed.alike hh0
  have c1 : Steps p.tables e below (s₁.setTop (entryFrame m #[.ref d, .int (Int32.ofNat B.slots.size)] 2)) (s₁.setTop (mkF m 0 #[.val (.ref d), .val (.int (Int32.ofNat B.slots.size))] [])) := entry rfl
  have c2 : Steps p.tables e below (s₁.setTop (entryFrame m #[.ref d, .int (Int32.ofNat B.slots.size)] 2)) (s₁.setTop (mkF m 2 #[.val (.ref d), .val (.int (Int32.ofNat B.slots.size))] [.ref d, .int (Int32.ofNat B.slots.size)])) := c1.trans (by
    refine XS.iloadN X0.here hexec rfl (hb hbytes d0) rfl ?_
    refine XS.aloadN X0.here hexec rfl (hb hbytes d1) rfl rfl ?_
    exact Steps.refl _)
  have c3 : Steps p.tables e below (s₁.setTop (entryFrame m #[.ref d, .int (Int32.ofNat B.slots.size)] 2)) (s₁.setTop (mkF m 8 #[.val (.ref d), .val (.int (Int32.ofNat B.slots.size))] [.int (lo8 (ushr (Int32.ofNat B.slots.size - Int32.ofNat B.slots.size) 31))])) := c2.trans (by
    refine X0.alen hexec hB0 rfl rfl (hb hbytes d2) ?_
    refine XS.isub X0.here hexec rfl (hb hbytes d3) rfl ?_
    refine bipushV X0.here hexec rfl 31 (hb hbytes d4) (by decide) ?_
    refine iushr X0.here hexec rfl (hb hbytes d6) rfl ?_
    refine i2b X0.here hexec rfl (hb hbytes d7) rfl ?_
    exact Steps.refl _)
  have e0 : lo8 (ushr (Int32.ofNat B.slots.size - Int32.ofNat B.slots.size) 31) = 0 := by rw [Int32.sub_self]; decide
  rw [e0] at c3
  exact ⟨s₁, some (.int 0), _, _, _, X0, rfl, rfl, rfl, (fun h => by cases h), ⟨rfl, hh0⟩, fun fs hl => c3.trans (X0.ireturnOut hexec hret rfl (Or.inr (Or.inr (Or.inl rfl))) (hb hbytes d8) hl)⟩
end CodL
/-- the String at a is Latin-1 over a new byte[] (the heap's one new cell): the low bytes of the len chars of A from o on; every cell but a is kept -/
def Got (a : Addr) (D : Cell) (fV fC : Field) (A : Cell) (o len : Nat) (r : Option Value) (s u : State) : Prop := r = none ∧ ∃ D' V : Cell, Blank "java/lang/String" a D' u ∧ Same D D' [fV.slot, fC.slot] ∧ D'.slots[fV.slot]? = some (.ref s.heap.size) ∧ D'.slots[fC.slot]? = some (.int 0) ∧ Arr .byte s.heap.size V u ∧ V.vm = .none ∧ u.vm.findClass "[B" = some V.cls ∧ V.slots.size = len ∧ (∀ j, j < len → V.slots[j]? = some (.int (lo8 (cv A (o + j))))) ∧ (∀ (y : Addr) (c : Cell), y ≠ a → s.heap[y]? = some c → u.heap[y]? = some c) ∧ u.heap.size = s.heap.size + 1
theorem Got.mv {a : Addr} {D A : Cell} {fV fC : Field} {o len : Nat} : ∀ r (U U' V V' : State), U'.heap = U.heap → V.vm.Alike V'.vm → V'.heap = V.heap → Got a D fV fC A o len r U V → Got a D fV fC A o len r U' V' :=
  fun r U U' V V' h1 hal h2 ⟨e0, D', X, a1, a2, a3, a4, a5, a6, a7, a8, a9, a10, a11⟩ => ⟨e0, D', X, a1.mv hal h2, a2, by rw [h1]; exact a3, a4, by rw [h1]; exact a5.mv hal h2, a6, by rw [hal.findClass]; exact a7, a8, a9, by rw [h1, h2]; exact a10, by rw [h1, h2]; exact a11⟩
namespace New4
def yN : MethodName := ⟨"java/lang/String", "<init>", "([CIILjava/lang/Void;)V"⟩
abbrev yB : ByteArray := jdk_42_method_149_code
theorem d0 : decode yB 0 = .ok (.aload_n 0, 1) := by decide +kernel
theorem d1 : decode yB 1 = .ok (.invokespecial 1, 3) := by decide +kernel
theorem d4 : decode yB 4 = .ok (.iload_n 3, 1) := by decide +kernel
theorem d5 : decode yB 5 = .ok (.ifCond (.ne) 22, 3) := by decide +kernel
theorem d27 : decode yB 27 = .ok (.getstatic 38, 3) := by decide +kernel
theorem d30 : decode yB 30 = .ok (.ifCond (.eq) 28, 3) := by decide +kernel
theorem d33 : decode yB 33 = .ok (.aload_n 1, 1) := by decide +kernel
theorem d34 : decode yB 34 = .ok (.iload_n 2, 1) := by decide +kernel
theorem d35 : decode yB 35 = .ok (.iload_n 3, 1) := by decide +kernel
theorem d36 : decode yB 36 = .ok (.invokestatic 177, 3) := by decide +kernel
theorem d39 : decode yB 39 = .ok (.astore 5, 2) := by decide +kernel
theorem d41 : decode yB 41 = .ok (.aload_n 0, 1) := by decide +kernel
theorem d42 : decode yB 42 = .ok (.aload 5, 2) := by decide +kernel
theorem d44 : decode yB 44 = .ok (.iload_n 3, 1) := by decide +kernel
theorem d45 : decode yB 45 = .ok (.invokestatic 47, 3) := by decide +kernel
theorem d48 : decode yB 48 = .ok (.putfield 15, 3) := by decide +kernel
theorem d51 : decode yB 51 = .ok (.aload_n 0, 1) := by decide +kernel
theorem d52 : decode yB 52 = .ok (.aload 5, 2) := by decide +kernel
theorem d54 : decode yB 54 = .ok (.putfield 9, 3) := by decide +kernel
theorem d57 : decode yB 57 = .ok (.return_, 1) := by decide +kernel
def site : List Cond := [.fieldLink "java/lang/String" 38 "java/lang/String" "COMPACT_STRINGS" "Z", Cmp3.tab, CodL.tab, .laysFinal "java/lang/String" "java/lang/String" "value" "[B", .fieldLink "java/lang/String" 9 "java/lang/String" "value" "[B", .laysFinal "java/lang/String" "java/lang/String" "coder" "B", .fieldLink "java/lang/String" 15 "java/lang/String" "coder" "B"] ++ objW "java/lang/String" 1 ++ staticW "java/lang/String" 177 Cmp3.yN ++ staticW "java/lang/String" 47 CodL.yN
def tab : Cond := tabOf yN yB 6 none site
def P (a : Addr) (D : Cell) (fV fC : Field) (b : Addr) (A : Cell) (z : Int32) (o len : Nat) (args : Array Value) (s : State) : Prop := args = #[.ref a, .ref b, .int (Int32.ofNat o), .int (Int32.ofNat len), .null] ∧ Blank "java/lang/String" a D s ∧ Found "java/lang/String" "value" "[B" fV s ∧ Found "java/lang/String" "coder" "B" fC s ∧ Ch b A s ∧ StaticIs s "java/lang/String" "COMPACT_STRINGS" "Z" (.int z) ∧ ¬ z = 0 ∧ 0 < len ∧ o + len ≤ A.slots.size ∧ len ≤ 536870912 ∧ ∀ i, i < len → ¬ 255 < cv A (o + i)
def E (a : Addr) (D : Cell) (fV fC : Field) (A : Cell) (o len : Nat) (r : Option Value) (s u : State) : Prop := Got a D fV fC A o len r s u
/-- len > 0, no char of the range above 255: a Latin-1 String of their low bytes -/
theorem law (l : Launch) (a : Addr) (D : Cell) (fV fC : Field) (b : Addr) (A : Cell) (z : Int32) (o len : Nat) : Law l yN 5 4 2 35 yB 6 none site (P a D fV fC b A z o len) (E a D fV fC A o len) [⟨a, fC.slot⟩, ⟨a, fV.slot⟩] 1 len := by
  refine Law.of_walk (plainFor_of_name (by decide +kernel)) (by decide +kernel) (by decide +kernel) (by decide) (fun _ _ h => by rw [h.1]; rfl) (fun _ U U' hal hh h => ⟨h.1, h.2.1.mv hal hh, h.2.2.1.al hal, h.2.2.2.1.al hal, h.2.2.2.2.1.mv hal hh, h.2.2.2.2.2.1.there hal hh, h.2.2.2.2.2.2⟩) (fun r U U' V V' h1 hal h2 h => Got.mv r U U' V V' h1 hal h2 h) ?_
  intro p e s m args below meth c s₁ X0 hexec hbytes hml hret hlk hnm hown hh0 W hP
  obtain ⟨rfl, hB, f1, f2, hA, s1, hz, l0, l1, l2, hp⟩ := hP
  have a31 := hA.1.2.2.2
  have c1 : Steps p.tables e below (s₁.setTop (entryFrame m #[.ref a, .ref b, .int (Int32.ofNat o), .int (Int32.ofNat len), .null] 6)) (s₁.setTop (mkF m 0 #[.val (.ref a), .val (.ref b), .val (.int (Int32.ofNat o)), .val (.int (Int32.ofNat len)), .val .null, .unset] [])) := entry rfl
  have c2 : Steps p.tables e below (s₁.setTop (entryFrame m #[.ref a, .ref b, .int (Int32.ofNat o), .int (Int32.ofNat len), .null] 6)) (s₁.setTop (mkF m 1 #[.val (.ref a), .val (.ref b), .val (.int (Int32.ofNat o)), .val (.int (Int32.ofNat len)), .val .null, .unset] [.ref a])) := c1.trans (by
    refine XS.aloadN X0.here hexec rfl (hb hbytes d0) rfl rfl ?_
    exact Steps.refl _)
  obtain ⟨T3, X3, q3, st3⟩ := X0.oinit hexec hown (wks W (objW "java/lang/String" 1)) (g := (mkF m 1 #[.val (.ref a), .val (.ref b), .val (.int (Int32.ofNat o)), .val (.int (Int32.ofNat len)), .val .null, .unset] [.ref a])) rfl (by rw [hml]; rfl) (rest := []) rfl (hb hbytes d1) (W := 0) (by show 2 * 0 + 0 ≤ _; decide) (Nat.le_of_ble_eq_true rfl) (Nat.le_of_ble_eq_true rfl)
  have hh3 := q3.trans hh0
  have c4 : Steps p.tables e below (s₁.setTop (entryFrame m #[.ref a, .ref b, .int (Int32.ofNat o), .int (Int32.ofNat len), .null] 6)) (T3.setTop (mkF m 27 #[.val (.ref a), .val (.ref b), .val (.int (Int32.ofNat o)), .val (.int (Int32.ofNat len)), .val .null, .unset] [])) := (c2.trans (st3 _ (Steps.refl _))).trans (by
    refine XS.iloadN X3.here hexec rfl (hb hbytes d4) rfl ?_
    refine XS.ifYes X3.here hexec rfl (pc0 := 5) rfl (hb hbytes d5) rfl (i0_ne_t (nz32 (by omega) l0)) (by decide) rfl ?_
    exact Steps.refl _)
  obtain ⟨T5, X5, q5, st5⟩ := X3.sget hexec hown (wk W (.fieldLink "java/lang/String" 38 "java/lang/String" "COMPACT_STRINGS" "Z")) s1 (fun _ _ h => by rw [hh3]; exact h) (g := (mkF m 27 #[.val (.ref a), .val (.ref b), .val (.int (Int32.ofNat o)), .val (.int (Int32.ofNat len)), .val .null, .unset] [])) rfl (hb hbytes d27)
  have hh5 := q5.trans hh3
  have c6 : Steps p.tables e below (s₁.setTop (entryFrame m #[.ref a, .ref b, .int (Int32.ofNat o), .int (Int32.ofNat len), .null] 6)) (T5.setTop (mkF m 30 #[.val (.ref a), .val (.ref b), .val (.int (Int32.ofNat o)), .val (.int (Int32.ofNat len)), .val .null, .unset] [.int z])) := c4.trans (st5 _ (Steps.refl _))
  have c7 : Steps p.tables e below (s₁.setTop (entryFrame m #[.ref a, .ref b, .int (Int32.ofNat o), .int (Int32.ofNat len), .null] 6)) (T5.setTop (mkF m 36 #[.val (.ref a), .val (.ref b), .val (.int (Int32.ofNat o)), .val (.int (Int32.ofNat len)), .val .null, .unset] [.int (Int32.ofNat len), .int (Int32.ofNat o), .ref b])) := c6.trans (by
    refine XS.ifNo X5.here hexec rfl (hb hbytes d30) rfl (i0_eq_f hz) ?_
    refine XS.aloadN X5.here hexec rfl (hb hbytes d33) rfl rfl ?_
    refine XS.iloadN X5.here hexec rfl (hb hbytes d34) rfl ?_
    refine XS.iloadN X5.here hexec rfl (hb hbytes d35) rfl ?_
    exact Steps.refl _)
  obtain ⟨v8, T8, X8, E8, g8⟩ := X5.callS hexec (Cmp3.law l b A o len) hown (wks W (staticW "java/lang/String" 177 Cmp3.yN)) (wk W Cmp3.tab) (W := 0) (Nat.le_of_ble_eq_true rfl) (Nat.le_of_ble_eq_true rfl) (Nat.le_refl _) (by show 0 + len ≤ len; omega) (g := (mkF m 36 #[.val (.ref a), .val (.ref b), .val (.int (Int32.ofNat o)), .val (.int (Int32.ofNat len)), .val .null, .unset] [.int (Int32.ofNat len), .int (Int32.ofNat o), .ref b])) rfl (by rw [hml]; rfl) c7 (argsL := [.ref b, .int (Int32.ofNat o), .int (Int32.ofNat len)]) (rest := []) rfl rfl (by show 2 * 0 + 0 ≤ _; decide) (hb hbytes d36) (⟨rfl, hA.mv X5.warmed.alike hh5, l1, l2, hp⟩)
  obtain ⟨e8, z8⟩ := E8
  obtain ⟨rfl, N, n1, n2, n3, n4, n5, n6⟩ := NewArr.mv _ T5 s _ _ hh5.symm (Vm.Alike.refl _) rfl e8
  rw [hh5] at z8
  have hB1 := hB.keep X8.warmed.alike (n6 _ _ hB.1)
  have hne : s.heap.size ≠ a := (Nat.ne_of_lt (Array.getElem?_eq_some_iff.mp hB.1).1).symm
  have c9 : Steps p.tables e below (s₁.setTop (entryFrame m #[.ref a, .ref b, .int (Int32.ofNat o), .int (Int32.ofNat len), .null] 6)) (T8.setTop (mkF m 39 #[.val (.ref a), .val (.ref b), .val (.int (Int32.ofNat o)), .val (.int (Int32.ofNat len)), .val .null, .unset] [.ref s.heap.size])) := g8
  have c10 : Steps p.tables e below (s₁.setTop (entryFrame m #[.ref a, .ref b, .int (Int32.ofNat o), .int (Int32.ofNat len), .null] 6)) (T8.setTop (mkF m 45 #[.val (.ref a), .val (.ref b), .val (.int (Int32.ofNat o)), .val (.int (Int32.ofNat len)), .val .null, .val (.ref s.heap.size)] [.int (Int32.ofNat N.slots.size), .ref s.heap.size, .ref a])) := by
    have hc : Steps p.tables e below (s₁.setTop (entryFrame m #[.ref a, .ref b, .int (Int32.ofNat o), .int (Int32.ofNat len), .null] 6)) (T8.setTop (mkF m 45 #[.val (.ref a), .val (.ref b), .val (.int (Int32.ofNat o)), .val (.int (Int32.ofNat len)), .val .null, .val (.ref s.heap.size)] [.int (Int32.ofNat len), .ref s.heap.size, .ref a])) := c9.trans (by
      refine XS.astore X8.here hexec rfl (hb hbytes d39) rfl rfl rfl ?_
      refine XS.aloadN X8.here hexec rfl (hb hbytes d41) rfl rfl ?_
      refine XS.aload X8.here hexec rfl (hb hbytes d42) rfl rfl ?_
      refine XS.iloadN X8.here hexec rfl (hb hbytes d44) rfl ?_
      exact Steps.refl _)
    rw [n4]; exact hc
  obtain ⟨v11, T11, X11, E11, g11⟩ := X8.callS hexec (CodL.law l s.heap.size N) hown (wks W (staticW "java/lang/String" 47 CodL.yN)) (wk W CodL.tab) (W := 1) (Nat.le_of_ble_eq_true rfl) (Nat.le_of_ble_eq_true rfl) (Nat.le_refl _) (by show 0 + len + 0 ≤ len; omega) (g := (mkF m 45 #[.val (.ref a), .val (.ref b), .val (.int (Int32.ofNat o)), .val (.int (Int32.ofNat len)), .val .null, .val (.ref s.heap.size)] [.int (Int32.ofNat N.slots.size), .ref s.heap.size, .ref a])) rfl (by rw [hml]; rfl) c10 (argsL := [.ref s.heap.size, .int (Int32.ofNat N.slots.size)]) (rest := [.ref a]) rfl rfl (by show 2 * 0 + (1 + 0) ≤ _; decide) (hb hbytes d45) (⟨rfl, n1⟩)
  obtain ⟨rfl, q11⟩ := E11
  have hB11 := hB1.mv (X8.warmed.alike.symm.trans X11.warmed.alike) q11
  have c12 : Steps p.tables e below (s₁.setTop (entryFrame m #[.ref a, .ref b, .int (Int32.ofNat o), .int (Int32.ofNat len), .null] 6)) (T11.setTop (mkF m 48 #[.val (.ref a), .val (.ref b), .val (.int (Int32.ofNat o)), .val (.int (Int32.ofNat len)), .val .null, .val (.ref s.heap.size)] [.int 0, .ref a])) := g11
  obtain ⟨T13, X13, p13, bl13, sl13, st13⟩ := X11.finit hexec hown (wk W (.fieldLink "java/lang/String" 15 "java/lang/String" "coder" "B")) (Or.inr ⟨_, (wk W (.laysFinal "java/lang/String" "java/lang/String" "coder" "B"))⟩) (Or.inl ⟨rfl, hnm⟩) f2 (Or.inl rfl) hB11 (t := .byte) (by decide +kernel) rfl (g := (mkF m 48 #[.val (.ref a), .val (.ref b), .val (.int (Int32.ofNat o)), .val (.int (Int32.ofNat len)), .val .null, .val (.ref s.heap.size)] [.int 0, .ref a])) rfl (rest := []) rfl (hb hbytes d48)
  have c14 : Steps p.tables e below (s₁.setTop (entryFrame m #[.ref a, .ref b, .int (Int32.ofNat o), .int (Int32.ofNat len), .null] 6)) (T13.setTop (mkF m 54 #[.val (.ref a), .val (.ref b), .val (.int (Int32.ofNat o)), .val (.int (Int32.ofNat len)), .val .null, .val (.ref s.heap.size)] [.ref s.heap.size, .ref a])) := (c12.trans (st13 _ (Steps.refl _))).trans (by
    refine XS.aloadN X13.here hexec rfl (hb hbytes d51) rfl rfl ?_
    refine XS.aload X13.here hexec rfl (hb hbytes d52) rfl rfl ?_
    exact Steps.refl _)
  obtain ⟨T15, X15, p15, bl15, sl15, st15⟩ := X13.finit hexec hown (wk W (.fieldLink "java/lang/String" 9 "java/lang/String" "value" "[B")) (Or.inr ⟨_, (wk W (.laysFinal "java/lang/String" "java/lang/String" "value" "[B"))⟩) (Or.inl ⟨rfl, hnm⟩) f1 (Or.inl rfl) bl13 (t := (.array .byte)) (by decide +kernel) rfl (g := (mkF m 54 #[.val (.ref a), .val (.ref b), .val (.int (Int32.ofNat o)), .val (.int (Int32.ofNat len)), .val .null, .val (.ref s.heap.size)] [.ref s.heap.size, .ref a])) rfl (rest := []) rfl (hb hbytes d54)
  have c16 : Steps p.tables e below (s₁.setTop (entryFrame m #[.ref a, .ref b, .int (Int32.ofNat o), .int (Int32.ofNat len), .null] 6)) (T15.setTop (mkF m 57 #[.val (.ref a), .val (.ref b), .val (.int (Int32.ofNat o)), .val (.int (Int32.ofNat len)), .val .null, .val (.ref s.heap.size)] [])) := c14.trans (st15 _ (Steps.refl _))
  have ap := apart (Or.inr ⟨_, (wk W (.laysFinal "java/lang/String" "java/lang/String" "value" "[B"))⟩) (Or.inr ⟨_, (wk W (.laysFinal "java/lang/String" "java/lang/String" "coder" "B"))⟩) f1 f2 (t₁ := .array .byte) (t₂ := .byte) (by decide +kernel) (by decide +kernel) (by decide)
  have al := X8.warmed.alike.symm.trans X15.warmed.alike
  have n7 : T11.heap[s.heap.size]? = some N := by rw [q11]; exact n1.1
  exact ⟨T15, none, _, _, _, X15, by simp, rfl, by omega, (fun _ => rfl), ⟨rfl, _, N, bl15, ((Same.refl D _).set _ (by simp)).set _ (by simp), sl15, (Cell.slots_setSlot_ne _ ap).trans sl13, n1.keep al (p15.other hne (p13.other hne n7)), n2, by rw [al.findClass]; exact n3, n4, n5, fun y c h1 h2 => p15.other h1 (p13.other h1 (by rw [q11]; exact n6 y c h2)), by rw [p15.2.2, p13.2.2, q11]; exact z8⟩, fun fs hl => c16.trans (X15.returnOut hexec hret (hb hbytes d57) hl)⟩
end New4
namespace New1
def yN : MethodName := ⟨"java/lang/String", "<init>", "([C)V"⟩
abbrev yB : ByteArray := jdk_42_method_3_code
theorem d0 : decode yB 0 = .ok (.aload_n 0, 1) := by decide +kernel
theorem d1 : decode yB 1 = .ok (.aload_n 1, 1) := by decide +kernel
theorem d2 : decode yB 2 = .ok (.iconst 0, 1) := by decide +kernel
theorem d3 : decode yB 3 = .ok (.aload_n 1, 1) := by decide +kernel
theorem d4 : decode yB 4 = .ok (.arraylength, 1) := by decide +kernel
theorem d5 : decode yB 5 = .ok (.aconst_null, 1) := by decide +kernel
theorem d6 : decode yB 6 = .ok (.invokespecial 27, 3) := by decide +kernel
theorem d9 : decode yB 9 = .ok (.return_, 1) := by decide +kernel
def site : List Cond := [New4.tab] ++ initW "java/lang/String" 27 New4.yN
def tab : Cond := tabOf yN yB 2 none site
def P (a : Addr) (D : Cell) (fV fC : Field) (b : Addr) (A : Cell) (z : Int32) (args : Array Value) (s : State) : Prop := args = #[.ref a, .ref b] ∧ Blank "java/lang/String" a D s ∧ Found "java/lang/String" "value" "[B" fV s ∧ Found "java/lang/String" "coder" "B" fC s ∧ Ch b A s ∧ StaticIs s "java/lang/String" "COMPACT_STRINGS" "Z" (.int z) ∧ ¬ z = 0 ∧ 0 < A.slots.size ∧ A.slots.size ≤ 536870912 ∧ ∀ i, i < A.slots.size → ¬ 255 < cv A i
def E (a : Addr) (D : Cell) (fV fC : Field) (A : Cell) (r : Option Value) (s u : State) : Prop := Got a D fV fC A 0 A.slots.size r s u
/-- new String(chars), not empty, no char above 255: a Latin-1 String of their low bytes -/
theorem law (l : Launch) (a : Addr) (D : Cell) (fV fC : Field) (b : Addr) (A : Cell) (z : Int32) : Law l yN 2 1 3 52 yB 2 none site (P a D fV fC b A z) (E a D fV fC A) [⟨a, fC.slot⟩, ⟨a, fV.slot⟩] 1 A.slots.size := by
  refine Law.of_walk (plainFor_of_name (by decide +kernel)) (by decide +kernel) (by decide +kernel) (by decide) (fun _ _ h => by rw [h.1]; rfl) (fun _ U U' hal hh h => ⟨h.1, h.2.1.mv hal hh, h.2.2.1.al hal, h.2.2.2.1.al hal, h.2.2.2.2.1.mv hal hh, h.2.2.2.2.2.1.there hal hh, h.2.2.2.2.2.2⟩) (fun r U U' V V' h1 hal h2 h => Got.mv r U U' V V' h1 hal h2 h) ?_
  intro p e s m args below meth c s₁ X0 hexec hbytes hml hret hlk hnm hown hh0 W hP
  obtain ⟨rfl, hB, f1, f2, hA, s1, hz, l0, l2, hp⟩ := hP
  have c1 : Steps p.tables e below (s₁.setTop (entryFrame m #[.ref a, .ref b] 2)) (s₁.setTop (mkF m 0 #[.val (.ref a), .val (.ref b)] [])) := entry rfl
  have c2 : Steps p.tables e below (s₁.setTop (entryFrame m #[.ref a, .ref b] 2)) (s₁.setTop (mkF m 6 #[.val (.ref a), .val (.ref b)] [.null, .int (Int32.ofNat A.slots.size), .int 0, .ref b, .ref a])) := c1.trans (by
    refine XS.aloadN X0.here hexec rfl (hb hbytes d0) rfl rfl ?_
    refine XS.aloadN X0.here hexec rfl (hb hbytes d1) rfl rfl ?_
    refine iconstV X0.here hexec rfl 0 (hb hbytes d2) (by decide) ?_
    refine XS.aloadN X0.here hexec rfl (hb hbytes d3) rfl rfl ?_
    refine X0.alen hexec (hA.1.mv X0.warmed.alike hh0) rfl rfl (hb hbytes d4) ?_
    refine XS.aconstNull X0.here hexec rfl (hb hbytes d5) ?_
    exact Steps.refl _)
  obtain ⟨v3, T3, X3, E3, g3⟩ := X0.callN hexec (New4.law l a D fV fC b A z 0 A.slots.size) rfl hown (wks W (initW "java/lang/String" 27 New4.yN)) (W New4.tab (by simp only [site, List.mem_cons, List.mem_append, true_or, or_true])) (W := 0) (Nat.le_of_ble_eq_true rfl) (Nat.le_of_ble_eq_true rfl) (Nat.le_refl _) (by show 0 + A.slots.size ≤ A.slots.size; omega) (g := (mkF m 6 #[.val (.ref a), .val (.ref b)] [.null, .int (Int32.ofNat A.slots.size), .int (Int32.ofNat 0), .ref b, .ref a])) rfl (by rw [hml]; rfl) c2 (argsL := [.ref b, .int (Int32.ofNat 0), .int (Int32.ofNat A.slots.size), .null]) (rest := []) rfl rfl (by show 2 * 0 + 0 ≤ _; decide) (hb hbytes d6) (⟨rfl, hB.mv X0.warmed.alike hh0, f1.al X0.warmed.alike, f2.al X0.warmed.alike, hA.mv X0.warmed.alike hh0, s1.there X0.warmed.alike hh0, hz, l0, by omega, l2, fun i hi => by rw [Nat.zero_add]; exact hp i hi⟩)
  have e0 := Got.mv _ s₁ s _ _ hh0.symm (Vm.Alike.refl _) rfl E3
  obtain rfl := e0.1
  have c4 : Steps p.tables e below (s₁.setTop (entryFrame m #[.ref a, .ref b] 2)) (T3.setTop (mkF m 9 #[.val (.ref a), .val (.ref b)] [])) := g3
  exact ⟨T3, none, _, _, _, X3, by simp, rfl, by omega, (fun _ => rfl), e0, fun fs hl => c4.trans (X3.returnOut hexec hret (hb hbytes d9) hl)⟩
theorem pays {l : Launch} {R : Room} {p : Program} {e : Env} {below : List Frame} {s : State} {sargs : Array Value} {len W : Nat} (a : Addr) (D : Cell) (fV fC : Field) (b : Addr) (A : Cell) (z : Int32) (htab : tab.before sargs s = true) (hfr : 4 ≤ R.frames) (hlo : W + 65 ≤ R.locals) :
    Back l R p e below s sargs yN len W (fun A₁ a₁ => A₁.cells + 1 ≤ R.cells ∧ A₁.slots + A.slots.size ≤ R.slots ∧ P a D fV fC b A z a₁ A₁.U) (fun A₁ _ v₁ B₁ => E a D fV fC A v₁ A₁.U B₁.U ∧ B₁.locs = A₁.locs ++ [⟨a, fC.slot⟩, ⟨a, fV.slot⟩] ∧ B₁.cells = A₁.cells + 1 ∧ B₁.slots = A₁.slots + A.slots.size) :=
  (law l a D fV fC b A z).pays htab hfr (by omega)
end New1
/-- the byte, read back as charAt reads it, is the char -/
theorem lo8_mask {x : Int32} (h0 : ¬ x < 0) (h1 : ¬ 255 < x) : lo8 x &&& 255 = x := by
  have t : ∀ k : Fin 256, lo8 (Int32.ofNat k.val) &&& 255 = Int32.ofNat k.val := by decide +kernel
  rw [Int32.lt_iff_toInt_lt] at h0 h1
  have e0 : (0 : Int32).toInt = 0 := rfl
  have e1 : (255 : Int32).toInt = 255 := rfl
  obtain ⟨k, hk⟩ : ∃ k : Nat, x.toInt = k := ⟨x.toInt.toNat, by omega⟩
  have hx : x = Int32.ofNat k := Int32.toInt_inj.mp (by rw [hk, Int32.toInt_ofNat_small (by omega)])
  rw [hx]
  exact t ⟨k, by omega⟩
end StrChars
namespace StrChars.Road
open Jvm Sem ClassFile Op Lib Jvm.Stand Jvm.Free Jvm.Free.XT
open Jvm.Lib.Cold (StaticIs)
abbrev ST : String := "java/lang/String"
/-- every table word that New1's law asks, flat -/
abbrev words : List Jvm.Cond := [.code New1.yN New1.yB 2 none, .initialized ST, .methodLink ST 27 New4.yN, .instanceMethod New4.yN,
  .code New4.yN New4.yB 6 none, .fieldLink ST 38 ST "COMPACT_STRINGS" "Z", .laysFinal ST ST "value" "[B", .fieldLink ST 9 ST "value" "[B", .laysFinal ST ST "coder" "B", .fieldLink ST 15 ST "coder" "B",
  .methodLink ST 1 Lib.objectInit, .instanceMethod Lib.objectInit, .code Lib.objectInit ⟨#[0xb1]⟩ 1 none, .methodLink ST 177 Cmp3.yN, .static Cmp3.yN, .methodLink ST 47 CodL.yN, .static CodL.yN,
  .code Cmp3.yN Cmp3.yB 6 (some (.array .byte)), .initialized U16, .arrayClass .byte, .methodLink U16 115 Cmp5.yN, .static Cmp5.yN, .code Cmp5.yN Cmp5.yB 7 (some .int), .code CodL.yN CodL.yB 2 (some .byte)]
theorem tab_of {a : Array Value} {s : State} (h : ∀ w ∈ words, w.before a s = true) : New1.tab.before a s = true := by
  have h5 : Cmp5.tab.before a s = true := unparts (wk h (.code Cmp5.yN Cmp5.yB 7 (some .int))) (wks h (.initialized Cmp5.yN.cls :: Cmp5.site))
  have hc : CodL.tab.before a s = true := unparts (wk h (.code CodL.yN CodL.yB 2 (some .byte))) (wks h (.initialized CodL.yN.cls :: CodL.site))
  have q5 : ∀ w ∈ Cmp5.tab :: words, w.before a s = true := fun w hw => (List.mem_cons.mp hw).elim (fun e => e ▸ h5) (h w)
  have h3 : Cmp3.tab.before a s = true := unparts (wk q5 (.code Cmp3.yN Cmp3.yB 6 (some (.array .byte)))) (wks q5 (.initialized Cmp3.yN.cls :: Cmp3.site))
  have q3 : ∀ w ∈ Cmp3.tab :: CodL.tab :: words, w.before a s = true := fun w hw => (List.mem_cons.mp hw).elim (fun e => e ▸ h3) fun hw => (List.mem_cons.mp hw).elim (fun e => e ▸ hc) (h w)
  have h4 : New4.tab.before a s = true := unparts (wk q3 (.code New4.yN New4.yB 6 none)) (wks q3 (.initialized New4.yN.cls :: New4.site))
  have q4 : ∀ w ∈ New4.tab :: words, w.before a s = true := fun w hw => (List.mem_cons.mp hw).elim (fun e => e ▸ h4) (h w)
  exact unparts (wk q4 (.code New1.yN New1.yB 2 none)) (wks q4 (.initialized New1.yN.cls :: New1.site))
/-- the words ride from the start Z to the walk's own state -/
theorem moved {Z s : State} {a0 args : Array Value} (hZ : Z.Warmed39 s.vm) (hw : ∀ d ∈ words, d.before a0 Z = true) : ∀ d ∈ words, d.before args s = true := fun d hd => by
  have q := hw d hd
  have t : ∀ d ∈ words, d = .arrayClass .byte ∨ (d.onTables && d.keepsFace) = true := by decide +kernel
  rcases t d hd with rfl | t
  · exact RoadKit.mvA hZ q
  · exact RoadKit.mv hZ q t
/-- WHAT COMES BACK, over the tables of the start Z: h the heap at the call, h' behind it -/
def Q (Z : State) (x : Addr) (A : Cell) (h : Heap) (v : Option Value) (h' : Heap) (L : List Loc) : Prop := v = none ∧ (∀ y ∈ L, y.base = x) ∧ RoadKit.Keep h h' [x] ∧ h'.size = h.size + 1 ∧ RoadKit.Exa Z h' x ST ∧ RoadKit.Fld Z h' x ST "value" "[B" (.ref h.size) ∧ RoadKit.Fld Z h' x ST "coder" "B" (.int 0) ∧
  (∃ V : Cell, RoadKit.Arr Z h' h.size V .byte ∧ V.vm = .none ∧ Z.vm.findClass "[B" = some V.cls ∧ V.slots.size = A.slots.size ∧ ∀ j, j < A.slots.size → V.slots[j]? = some (.int (lo8 (cv A j)))) ∧
  ∀ (O n d : String) (w : Value), RoadKit.Fld Z h x O n d w → RoadKit.slotOf Z O n d ≠ RoadKit.slotOf Z ST "value" "[B" → RoadKit.slotOf Z O n d ≠ RoadKit.slotOf Z ST "coder" "B" → RoadKit.Fld Z h' x O n d w
/-- **new String(chars) AT A CALL, IN THE ROAD'S FORM**: for specialBack behind newO: x the fresh String, b the char[] with the cell A -/
theorem back {p : Program} {l : Launch} {e : Env} {R : Room} {s : State} {args : Array Value} {below : List Frame} {len W : Nat} {Z : State} {a0 : Array Value} {h : Heap} (hZ : Z.Warmed39 s.vm) (hw : ∀ d ∈ words, d.before a0 Z = true) {kI : Nat} (wi : (Jvm.Cond.instantiable ST kI).before a0 Z = true)
    {x b : Addr} {A : Cell} {z : Int32} {v0 c0 : Value} (E : RoadKit.Exa Z h x ST) (V : RoadKit.Fld Z h x ST "value" "[B" v0) (C : RoadKit.Fld Z h x ST "coder" "B" c0) (K : RoadKit.Arr Z h b A .char) (hty : Typed .char A) (S : RoadKit.Sta Z h ST "COMPACT_STRINGS" "Z" (.int z)) (hz : ¬ z = 0)
    (l0 : 0 < A.slots.size) (l2 : A.slots.size ≤ 536870912) (hp : ∀ i, i < A.slots.size → ¬ 255 < cv A i) (hfr : 4 ≤ R.frames) (hlo : W + 65 ≤ R.locals) :
    Back l R p e below s args New1.yN len W (fun P a => a = #[.ref x, .ref b] ∧ P.U.heap = h ∧ P.cells + 1 ≤ R.cells ∧ P.slots + A.slots.size ≤ R.slots)
      (fun P _ v B => ∃ L, Q Z x A h v B.U.heap L ∧ B.locs = P.locs ++ L ∧ B.cells = P.cells + 1 ∧ B.slots = P.slots + A.slots.size) := by
  intro m meth c P g ig mk a X hg hsize hdg hW hn hp'
  obtain ⟨rfl, rfl, r1, r2⟩ := hp'
  have al : Z.vm.Alike P.U.vm := hZ.alike.trans X.warmed.alike
  obtain ⟨D, cfV, kV, iV, fV, hD, gV, stV, knV, obV, asV, slV⟩ := id V
  obtain ⟨D', cfC, kC, iC, fC, hD', gC, stC, -, -, asC, slC⟩ := id C
  cases hD.symm.trans hD'
  obtain ⟨D2, kD, e1, e2, e3, e4, e5⟩ := id E
  cases hD.symm.trans e1
  obtain ⟨c2, k2, i1, i2, i3, -⟩ := Cond.instantiable_spec wi
  cases e2.symm.trans i1
  cases e3.symm.trans i2
  obtain ⟨kU, u1, u2⟩ := al.2.2 _ _ e3
  have hB : Blank ST x D P.U := ⟨hD, ⟨knV, fun q hq => by rw [hq] at obV; cases obV⟩, by rw [al.findClass]; exact e2, kU, u1, by rw [u2]; exact i3, by rw [u2]; exact e5 i3⟩
  have F1 : Found ST "value" "[B" fV P.U := ⟨SBG.found_only al ⟨cfV, kV, iV, gV⟩, stV⟩
  have F2 : Found ST "coder" "B" fC P.U := ⟨SBG.found_only al ⟨cfC, kC, iC, gC⟩, stC⟩
  have hA : Ch b A P.U := ⟨⟨K.1, State.isArrayOf_alike al K.2.1, K.2.2, by omega⟩, hty⟩
  have hS : StaticIs P.U ST "COMPACT_STRINGS" "Z" (.int z) := by
    obtain ⟨cfS, iS, kS, fS, st, cS, t1, t2, t3, t4, t5, t6, t7⟩ := S
    exact StaticIs.there (s := { Z with heap := P.U.heap }) ⟨cfS, iS, kS, fS, st, cS, t1, t2, t3, t4, t5, (fun q => by rw [q] at t6; cases t6), t7⟩ al rfl
  obtain ⟨v, B, X', ⟨⟨hv, E', V', q1, q2, q3, q4, q5, q6, q7, q8, q9, q10, q11⟩, hl, hc, hs⟩, st⟩ := New1.pays x D fV fC b A z (tab_of (moved hZ hw)) hfr hlo m meth c P g ig mk _ X hg hsize hdg hW hn ⟨r1, r2, rfl, hB, F1, F2, hA, hS, hz, l0, l2, hp⟩
  have al' : Z.vm.Alike B.U.vm := hZ.alike.trans X'.warmed.alike
  have hsz : E'.slots.size = D.slots.size := by
    obtain ⟨-, -, -, kB, w1, w2, w3⟩ := q1
    obtain ⟨kB', y1, y2⟩ := al'.2.2 _ _ e3
    rw [q2.2.1] at w1
    cases w1.symm.trans y1
    rw [w3, e5 i3, y2]
  refine ⟨v, B, X', ⟨_, ⟨hv, ?_, ⟨by omega, fun y cy hy hn' => q10 y cy (by simpa using hn') hy, fun y cy hy => ?_⟩, q11, ⟨E', _, q1.1, by rw [q2.2.1]; exact e2, by rw [q2.2.1]; exact e3, by rw [q2.1]; exact obV, fun _ => by rw [hsz]; exact e5 i3⟩,
    ⟨E', cfV, kV, iV, fV, q1.1, gV, stV, by rw [q2.1]; exact knV, by rw [q2.1]; exact obV, by rw [q2.2.1]; exact asV, q3⟩, ⟨E', cfC, kC, iC, fC, q1.1, gC, stC, by rw [q2.1]; exact knV, by rw [q2.1]; exact obV, by rw [q2.2.1]; exact asC, q4⟩,
    ⟨V', ⟨q5.1, State.isArrayOf_alike al'.symm q5.2.1, q5.2.2.1⟩, q6, by rw [← al'.findClass]; exact q7, q8, fun j hj => by have := q9 j hj; rwa [Nat.zero_add] at this⟩, fun O n d w F n1 n2 => ?_⟩, hl, hc, hs⟩, st⟩
  · intro y hy
    simp only [List.mem_cons, List.not_mem_nil, or_false] at hy
    rcases hy with rfl | rfl <;> rfl
  · by_cases q : y = x
    · subst q
      cases hD.symm.trans hy
      exact ⟨E', q1.1, q2.2.1, q2.1, hsz⟩
    · exact ⟨cy, q10 y cy q hy, rfl, rfl, rfl⟩
  · obtain ⟨D3, cf, k, i, f, g1, g2, g3, g4, g5, g6, g7⟩ := F
    cases hD.symm.trans g1
    simp only [RoadKit.slotOf, g2, gV, gC, Option.map_some, Option.getD_some] at n1 n2
    exact ⟨E', cf, k, i, f, q1.1, g2, g3, by rw [q2.1]; exact g4, by rw [q2.1]; exact g5, by rw [q2.2.1]; exact g6, by rw [q2.2.2 f.slot (by simp [n1, n2])]; exact g7⟩
end StrChars.Road
namespace StrChars.Road
open Jvm Sem ClassFile Op Lib Jvm.Stand Jvm.Free Jvm.Free.XT
/-- WHAT COMES BACK, the byte[] as a list of values -/
def QA (Z : State) (x : Addr) (zn : Int32) (cs : List Int32) (h : Heap) (v : Option Value) (h' : Heap) (L : List Loc) : Prop := v = none ∧ (∀ y ∈ L, y.base = x) ∧ RoadKit.Keep h h' [x] ∧ h'.size = h.size + 1 ∧ RoadKit.Exa Z h' x ST ∧ RoadKit.Fld Z h' x ST "value" "[B" (.ref h.size) ∧ RoadKit.Fld Z h' x ST "coder" "B" (.int 0) ∧
  (∃ kb, Z.vm.findClass "[B" = some kb ∧ RoadKit.Arv Z h' h.size kb .byte zn (cs.map fun c => .int (lo8 c)) (.int 0)) ∧
  ∀ (O n d : String) (w : Value), RoadKit.Fld Z h x O n d w → RoadKit.slotOf Z O n d ≠ RoadKit.slotOf Z ST "value" "[B" → RoadKit.slotOf Z O n d ≠ RoadKit.slotOf Z ST "coder" "B" → RoadKit.Fld Z h' x O n d w
/-- **new String(chars) AT A CALL, THE ARRAYS AS LISTS**: the char[] at b holds cs, not empty, no char above 255 -/
theorem backArv {p : Program} {l : Launch} {e : Env} {R : Room} {s : State} {args : Array Value} {below : List Frame} {len W : Nat} {Z : State} {a0 : Array Value} {h : Heap} (hZ : Z.Warmed39 s.vm) (hw : ∀ d ∈ words, d.before a0 Z = true) {kI : Nat} (wi : (Jvm.Cond.instantiable ST kI).before a0 Z = true)
    {x b : Addr} {k : ClassId} {zn z : Int32} {cs : List Int32} {dv v0 c0 : Value} (E : RoadKit.Exa Z h x ST) (V : RoadKit.Fld Z h x ST "value" "[B" v0) (C : RoadKit.Fld Z h x ST "coder" "B" c0) (K : RoadKit.Arv Z h b k .char zn (cs.map Value.int) dv) (S : RoadKit.Sta Z h ST "COMPACT_STRINGS" "Z" (.int z)) (hz : ¬ z = 0)
    (hlen : zn.toNatClampNeg = cs.length) (h0 : 0 < cs.length) (hbig : cs.length ≤ 536870912) (hall : ∀ c ∈ cs, ¬ 255 < c) (hfr : 4 ≤ R.frames) (hlo : W + 65 ≤ R.locals) :
    Back l R p e below s args New1.yN len W (fun P a => a = #[.ref x, .ref b] ∧ P.U.heap = h ∧ P.cells + 1 ≤ R.cells ∧ P.slots + cs.length ≤ R.slots)
      (fun P _ v B => ∃ L, QA Z x zn cs h v B.U.heap L ∧ B.locs = P.locs ++ L ∧ B.cells = P.cells + 1 ∧ B.slots = P.slots + cs.length) := by
  obtain ⟨A, K1, K2, K3, K4, K5, K6⟩ := K
  have e : A.slots.size = cs.length := K3.trans hlen
  have hat : ∀ (i : Nat) (hi : i < cs.length), A.slots[i]? = some (.int cs[i]) := fun i hi => by rw [K5 i (by omega)]; simp [List.getD_eq_getElem?_getD, hi]
  have hcv : ∀ (i : Nat) (hi : i < cs.length), cv A i = cs[i] := fun i hi => by unfold cv; rw [hat i hi]
  have hty : Typed .char A := fun i v hv => by
    have hi : i < A.slots.size := (Array.getElem?_eq_some_iff.mp hv).1
    have q := K5 i hi
    rw [hv] at q
    rw [Option.some.inj q]
    exact K6 i hi
  refine Back.mono (back hZ hw wi E V C K1 hty S hz (by omega) (by omega) (fun i hi => by rw [hcv i (by omega)]; exact hall _ (List.getElem_mem _)) hfr hlo) (fun P a hp => ⟨hp.1, hp.2.1, hp.2.2.1, by rw [e]; exact hp.2.2.2⟩) (fun P a v B hp hq => ?_)
  obtain ⟨L, ⟨q1, q2, q3, q4, q5, q6, q7, ⟨V', v1, v2, v3, v4, v5⟩, q9⟩, hl, hc, hs⟩ := hq
  refine ⟨L, ⟨q1, q2, q3, q4, q5, q6, q7, ⟨V'.cls, v3, V', v1, rfl, by rw [v4, e, hlen], K4, fun i hi => ?_, fun i hi => ?_⟩, q9⟩, hl, hc, by rw [hs, e]⟩
  · have hi' : i < cs.length := by omega
    rw [v5 i (by omega), hcv i hi']; simp [List.getD_eq_getElem?_getD, hi']
  · have hi' : i < cs.length := by omega
    simp only [List.getD_eq_getElem?_getD, List.getElem?_map, List.getElem?_eq_getElem hi', Option.map_some, Option.getD_some]
    exact fits_lo8 _
end StrChars.Road
namespace StrChars.Road
open Jvm Sem ClassFile Op Lib Jvm.Stand Jvm.Free Jvm.Free.XT
/-- WHAT COMES BACK, in the writer's own shape -/
def QV (Z : State) (x : Addr) (N : Int32) (bs : List Int32) (h : Heap) (n0 : Nat) (v : Option Value) (h' : Heap) (L : List Loc) : Prop := v = none ∧ RoadKit.Fr n0 L ∧ RoadKit.Keep h h' [x] ∧ RoadKit.Exa Z h' x ST ∧ RoadKit.Fld Z h' x ST "coder" "B" (.int 0) ∧
  ∃ (t : Addr) (kb : ClassId), n0 ≤ t ∧ h.size ≤ t ∧ ¬ t = x ∧ RoadKit.Fld Z h' x ST "value" "[B" (.ref t) ∧ RoadKit.Arv Z h' t kb .byte N (bs.map Value.int) (.int 0)
/-- **new String(chars) AT A CALL, FOR THE WRITER**: a char[] of n known ints, each 0 to 255 -/
theorem backV {p : Program} {l : Launch} {e : Env} {R : Room} {s : State} {args : Array Value} {below : List Frame} {len W : Nat} {Z : State} {a0 : Array Value} {h : Heap} (hZ : Z.Warmed39 s.vm) (hw : ∀ d ∈ words, d.before a0 Z = true) {kI : Nat} (wi : (Jvm.Cond.instantiable ST kI).before a0 Z = true)
    {x b : Addr} {kC : ClassId} {cs bs : List Int32} {d v0 c0 : Value} {z N : Int32} {n n0 : Nat} (hx0 : n0 ≤ x) (hh0 : n0 ≤ h.size) (E : RoadKit.Exa Z h x ST) (V : RoadKit.Fld Z h x ST "value" "[B" v0) (C : RoadKit.Fld Z h x ST "coder" "B" c0) (K : RoadKit.Arv Z h b kC .char N (cs.map Value.int) d) (S : RoadKit.Sta Z h ST "COMPACT_STRINGS" "Z" (.int z)) (hz : ¬ z = 0)
    (hn : cs.length = n) (hN : N = Int32.ofNat n) (l0 : 0 < n) (l2 : n ≤ 4000) (hp : ∀ c ∈ cs, ¬ c < 0 ∧ ¬ (255 : Int32) < c) (hb : bs = cs.map (fun c => c.toInt8.toInt32)) (hfr : 4 ≤ R.frames) (hlo : W + 65 ≤ R.locals) :
    Back l R p e below s args (⟨"java/lang/String", "<init>", "([C)V"⟩ : MethodName) len W (fun P a => a = #[.ref x, .ref b] ∧ P.U.heap = h ∧ P.cells + 1 ≤ R.cells ∧ P.slots + n ≤ R.slots)
      (fun P _ v B => ∃ L, QV Z x N bs h n0 v B.U.heap L ∧ B.locs = P.locs ++ L ∧ B.cells = P.cells + 1 ∧ B.slots = P.slots + n) := by
  subst hn hN hb
  refine Back.mono (backArv hZ hw wi E V C K S hz (n32 (by omega)) l0 (by omega) (fun c hc => (hp c hc).2) hfr hlo) (fun P a hp => hp) (fun P a v B hp hq => ?_)
  obtain ⟨L, ⟨q1, q2, q3, q4, q5, q6, q7, ⟨kb, v1, v2⟩, q9⟩, hl, hc, hs⟩ := hq
  exact ⟨L, ⟨q1, fun y hy => by rw [q2 y hy]; exact hx0, q3, q5, q7, h.size, kb, hh0, Nat.le_refl _, Nat.ne_of_gt E.lt, q6, by rw [List.map_map]; exact v2⟩, hl, hc, hs⟩
end StrChars.Road
namespace StrChars
open Jvm Sem ClassFile Op Lib Jvm.Stand Jvm.Free.XT Jvm.Free.ALB Jvm.Free.JM Jvm.Free
open Jvm.Lib.Cold (StaticIs)
def hi8 (x : Int32) : Int32 := lo8 (x >>> ((8 : Int32) &&& 31))
/-- what StringUTF16.getChar makes of two bytes -/
def pairCh (u v : Int32) : Int32 := (((u &&& 255) <<< ((0 : Int32) &&& 31)) ||| ((v &&& 255) <<< ((8 : Int32) &&& 31))).toUInt32.toUInt16.toUInt32.toInt32
theorem shr0 (c : Int32) : c >>> ((0 : Int32) &&& 31) = c := by
  have e : ((0 : Int32) &&& 31) = 0 := by decide
  rw [e]
  apply Int32.toBitVec_inj.mp
  rw [Int32.toBitVec_shiftRight]
  have e1 : ((0 : Int32).toBitVec.smod 32) = 0#32 := by decide
  rw [e1, BitVec.sshiftRight_eq']
  exact BitVec.sshiftRight_zero
theorem lo8_and (x : Int32) : (lo8 x &&& 255).toBitVec.toNat = x.toBitVec.toNat % 256 := by
  have h : (lo8 x).toBitVec = (x.toBitVec.signExtend 8).signExtend 32 := by rw [lo8, Int8.toBitVec_toInt32, Int32.toBitVec_toInt8]
  rw [Int32.toBitVec_and, BitVec.toNat_and, h]
  have e : ((x.toBitVec.signExtend 8).signExtend 32).toNat % 256 = x.toBitVec.toNat % 256 := by
    rw [BitVec.toNat_signExtend]
    have hlt := x.toBitVec.isLt
    simp only [BitVec.toNat_setWidth, BitVec.toNat_signExtend]
    split <;> split <;> omega
  rw [← e]
  exact Nat.and_two_pow_sub_one_eq_mod _ 8
theorem pair_says {c : Int32} (h0 : ¬ c < 0) (h1 : ¬ 65535 < c) : pairCh (lo8 c) (hi8 c) = c := by
  rw [Int32.lt_iff_toInt_lt] at h0 h1
  have e0 : (0 : Int32).toInt = 0 := rfl
  have e1 : (65535 : Int32).toInt = 65535 := rfl
  have hc : c.toInt = c.toBitVec.toNat := by
    have := c.toBitVec.isLt
    have e : c.toInt = c.toBitVec.toInt := rfl
    rw [e] at h0 h1
    rw [e]
    rw [BitVec.toInt_eq_toNat_cond] at h0 h1 ⊢
    split at h0 <;> split <;> omega
  have hn : c.toBitVec.toNat < 65536 := by omega
  have a1 := lo8_and c
  have a2 : (hi8 c &&& 255).toBitVec.toNat = c.toBitVec.toNat / 256 := by
    rw [hi8, lo8_and]
    have e : ((8 : Int32) &&& 31) = 8 := by decide
    rw [e, Int32.toBitVec_shiftRight]
    have e2 : ((8 : Int32).toBitVec.smod 32) = 8#32 := by decide
    rw [e2, BitVec.sshiftRight_eq', BitVec.toNat_sshiftRight_of_msb_false (by rw [BitVec.msb_eq_false_iff_two_mul_lt]; omega)]
    show c.toBitVec.toNat >>> 8 % 256 = _
    rw [Nat.shiftRight_eq_div_pow]
    omega
  unfold pairCh
  apply Int32.toBitVec_inj.mp
  apply BitVec.eq_of_toNat_eq
  have f0 : ((0 : Int32) &&& 31) = 0 := by decide
  have f8 : ((8 : Int32) &&& 31) = 8 := by decide
  rw [f0, f8]
  have g : (((lo8 c &&& 255) <<< (0 : Int32)) ||| ((hi8 c &&& 255) <<< (8 : Int32))).toBitVec.toNat = c.toBitVec.toNat := by
    rw [Int32.toBitVec_or, Int32.toBitVec_shiftLeft, Int32.toBitVec_shiftLeft]
    have s0 : ((0 : Int32).toBitVec.smod 32) = 0#32 := by decide
    have s8 : ((8 : Int32).toBitVec.smod 32) = 8#32 := by decide
    rw [s0, s8, BitVec.toNat_or]
    simp only [BitVec.shiftLeft_eq', BitVec.toNat_shiftLeft, a1, a2]
    show (c.toBitVec.toNat % 256) <<< 0 % 2 ^ 32 ||| (c.toBitVec.toNat / 256) <<< 8 % 2 ^ 32 = _
    rw [Nat.shiftLeft_zero, Nat.mod_eq_of_lt (show c.toBitVec.toNat % 256 < 2 ^ 32 by omega), Nat.mod_eq_of_lt (show (c.toBitVec.toNat / 256) <<< 8 < 2 ^ 32 by rw [Nat.shiftLeft_eq]; omega), Nat.or_comm, ← Nat.shiftLeft_add_eq_or_of_lt (by omega), Nat.shiftLeft_eq]
    omega
  show BitVec.toNat (((((lo8 c &&& 255) <<< (0 : Int32)) ||| ((hi8 c &&& 255) <<< (8 : Int32))).toBitVec.setWidth 16).setWidth 32) = _
  rw [BitVec.toNat_setWidth, BitVec.toNat_setWidth, g]
  omega
end StrChars
namespace StrChars
open Jvm Sem ClassFile Op Lib Jvm.Stand Jvm.Free.XT Jvm.Free.ALB Jvm.Free.JM Jvm.Free
open Jvm.Lib.Cold (StaticIs)
theorem shr1 {n : Nat} (h : 2 * n < 2 ^ 31) : Int32.ofNat (2 * n) >>> ((1 : Int32) &&& 31) = Int32.ofNat n := by
  have e : ((1 : Int32) &&& 31) = 1 := by decide
  rw [e]
  apply Int32.toBitVec_inj.mp
  rw [Int32.toBitVec_shiftRight]
  have e1 : ((1 : Int32).toBitVec.smod 32) = 1#32 := by decide
  have hm : (BitVec.ofNat 32 (2 * n)).toNat = 2 * n := by rw [BitVec.toNat_ofNat, Nat.mod_eq_of_lt (by omega)]
  rw [e1, BitVec.sshiftRight_eq']
  apply BitVec.eq_of_toNat_eq
  show ((BitVec.ofNat 32 (2 * n)).sshiftRight 1).toNat = (BitVec.ofNat 32 n).toNat
  rw [BitVec.toNat_sshiftRight_of_msb_false (by rw [BitVec.msb_eq_false_iff_two_mul_lt, hm]; omega), hm, BitVec.toNat_ofNat, Nat.shiftRight_eq_div_pow]
  omega
/-- charAt's cast of a byte read back -/
def chr8 (u : Int32) : Int32 := (u &&& 255).toUInt32.toUInt16.toUInt32.toInt32
theorem chr8_lo8 {c : Int32} (h0 : ¬ c < 0) (h1 : ¬ 255 < c) : chr8 (lo8 c) = c := by
  have t : ∀ k : Fin 256, (Int32.ofNat k.val).toUInt32.toUInt16.toUInt32.toInt32 = Int32.ofNat k.val := by decide +kernel
  unfold chr8
  rw [lo8_mask h0 h1]
  rw [Int32.lt_iff_toInt_lt] at h0 h1
  have e0 : (0 : Int32).toInt = 0 := rfl
  have e1 : (255 : Int32).toInt = 255 := rfl
  obtain ⟨k, hk⟩ : ∃ k : Nat, c.toInt = k := ⟨c.toInt.toNat, by omega⟩
  have hx : c = Int32.ofNat k := Int32.toInt_inj.mp (by rw [hk, Int32.toInt_ofNat_small (by omega)])
  rw [hx]
  exact t ⟨k, by omega⟩
theorem narrow_ch {c : Int32} (h0 : ¬ c < 0) (h1 : ¬ 65535 < c) : narrow .char (.int c) = .int c := by
  have q : narrow .char (.int (pairCh (lo8 c) (hi8 c))) = .int (pairCh (lo8 c) (hi8 c)) := narrow_c _
  rwa [pair_says h0 h1] at q
/-- the array's cell V codes the n chars f 0 .. f (n - 1) by the coder cd, as the JDK does: coder 1 just where some char is above 255 -/
def Cod (cd : Int32) (n : Nat) (f : Nat → Int32) (V : Cell) : Prop := (cd = 0 ∧ V.slots.size = n ∧ ∀ j, j < n → V.slots[j]? = some (.int (lo8 (f j))) ∧ ¬ 255 < f j) ∨ (cd = 1 ∧ V.slots.size = 2 * n ∧ (∀ j, j < n → V.slots[2 * j]? = some (.int (lo8 (f j))) ∧ V.slots[2 * j + 1]? = some (.int (hi8 (f j)))) ∧ ∃ j, j < n ∧ 255 < f j)
theorem Cod.cd {cd : Int32} {n : Nat} {f : Nat → Int32} {V : Cell} (h : Cod cd n f V) : cd = 0 ∨ cd = 1 := h.imp (fun q => q.1) fun q => q.1
theorem Cod.len {cd : Int32} {n : Nat} {f : Nat → Int32} {V : Cell} (h : Cod cd n f V) (hs : V.slots.size < 2 ^ 31) : Int32.ofNat V.slots.size >>> (cd &&& 31) = Int32.ofNat n := by
  rcases h with ⟨rfl, h, -⟩ | ⟨rfl, h, -⟩
  · rw [shr0, h]
  · rw [h, shr1 (by omega)]
/-- **x is a String of the n chars f 0 .. f (n - 1)**, Latin-1 or UTF-16; its array at t has the cell V -/
def Txt (x t : Addr) (V : Cell) (cd : Int32) (n : Nat) (f : Nat → Int32) (U : State) : Prop := Exact "java/lang/String" x U ∧ Has x "java/lang/String" "value" "[B" (.ref t) U ∧ Has x "java/lang/String" "coder" "B" (.int cd) U ∧ XT.Arr .byte t V U ∧ Cod cd n f V ∧ ∀ j, j < n → ¬ f j < 0 ∧ ¬ 65535 < f j
theorem Txt.mv {x t : Addr} {V : Cell} {cd : Int32} {n : Nat} {f : Nat → Int32} {U U' : State} (h : Txt x t V cd n f U) (hal : U.vm.Alike U'.vm) (hh : U'.heap = U.heap) : Txt x t V cd n f U' := ⟨h.1.mv hal hh, h.2.1.mv hal hh, h.2.2.1.mv hal hh, h.2.2.2.1.mv hal hh, h.2.2.2.2⟩
namespace Cdr
def yN : MethodName := ⟨"java/lang/String", "coder", "()B"⟩
abbrev yB : ByteArray := jdk_42_method_152_code
theorem d0 : decode yB 0 = .ok (.getstatic 38, 3) := by decide +kernel
theorem d3 : decode yB 3 = .ok (.ifCond (.eq) 10, 3) := by decide +kernel
theorem d6 : decode yB 6 = .ok (.aload_n 0, 1) := by decide +kernel
theorem d7 : decode yB 7 = .ok (.getfield 15, 3) := by decide +kernel
theorem d10 : decode yB 10 = .ok (.goto 4, 3) := by decide +kernel
theorem d14 : decode yB 14 = .ok (.ireturn, 1) := by decide +kernel
def site : List Cond := [.fieldLink "java/lang/String" 38 "java/lang/String" "COMPACT_STRINGS" "Z", .fieldLink "java/lang/String" 15 "java/lang/String" "coder" "B"]
def tab : Cond := tabOf yN yB 1 (some .byte) site
def P (x : Addr) (cd z : Int32) (args : Array Value) (s : State) : Prop := args = #[.ref x] ∧ Has x "java/lang/String" "coder" "B" (.int cd) s ∧ (cd = 0 ∨ cd = 1) ∧ StaticIs s "java/lang/String" "COMPACT_STRINGS" "Z" (.int z) ∧ ¬ z = 0
def E (cd : Int32) (r : Option Value) (s u : State) : Prop := XT.PureE (some (.int cd)) r s u
theorem law (l : Launch) (x : Addr) (cd z : Int32) : Law l yN 1 0 0 0 yB 1 (some .byte) site (P x cd z) (E cd) [] 0 0 := by
  refine Law.of_walk (plainFor_of_name (by decide +kernel)) (by decide +kernel) (by decide +kernel) (by decide) (fun _ _ h => by rw [h.1]; rfl) (fun _ U U' hal hh h => ⟨h.1, h.2.1.mv hal hh, h.2.2.1, h.2.2.2.1.there hal hh, h.2.2.2.2⟩) (fun r U U' V V' h1 hal h2 h => XT.PureE.mv r U U' V V' h1 hal h2 h) ?_
  intro p e s m args below meth c s₁ X0 hexec hbytes hml hret hlk hnm hown hh0 W hP
  obtain ⟨rfl, hx, hc, s1, hz⟩ := hP
  have c1 : Steps p.tables e below (s₁.setTop (entryFrame m #[.ref x] 1)) (s₁.setTop (mkF m 0 #[.val (.ref x)] [])) := entry rfl
  obtain ⟨T2, X2, q2, st2⟩ := X0.sget hexec hown (wk W (.fieldLink "java/lang/String" 38 "java/lang/String" "COMPACT_STRINGS" "Z")) s1 (fun _ _ h => by rw [hh0]; exact h) (g := (mkF m 0 #[.val (.ref x)] [])) rfl (hb hbytes d0)
  have hh2 := q2.trans hh0
  have c3 : Steps p.tables e below (s₁.setTop (entryFrame m #[.ref x] 1)) (T2.setTop (mkF m 7 #[.val (.ref x)] [.ref x])) := (c1.trans (st2 _ (Steps.refl _))).trans (by
    refine XS.ifNo X2.here hexec rfl (hb hbytes d3) rfl (i0_eq_f hz) ?_
    refine XS.aloadN X2.here hexec rfl (hb hbytes d6) rfl rfl ?_
    exact Steps.refl _)
  obtain ⟨T4, X4, q4, st4⟩ := X2.hget hexec hown (wk W (.fieldLink "java/lang/String" 15 "java/lang/String" "coder" "B")) (hx.mv X2.warmed.alike hh2) (g := (mkF m 7 #[.val (.ref x)] [.ref x])) rfl (rest := []) rfl (hb hbytes d7)
  have c5 : Steps p.tables e below (s₁.setTop (entryFrame m #[.ref x] 1)) (T4.setTop (mkF m 14 #[.val (.ref x)] [.int cd])) := (c3.trans (st4 _ (Steps.refl _))).trans (by
    refine XS.goto X4.here hexec rfl (pc0 := 10) rfl (hb hbytes d10) (by decide) rfl ?_
    exact Steps.refl _)
  exact ⟨T4, some (.int cd), _, _, _, X4, rfl, rfl, rfl, (fun h => by cases h), ⟨rfl, q4.trans hh2⟩, fun fs hl => c5.trans (X4.ireturnOut hexec hret (by rcases hc with rfl | rfl <;> rfl) (Or.inr (Or.inr (Or.inl rfl))) (hb hbytes d14) hl)⟩
end Cdr
namespace Len
def yN : MethodName := ⟨"java/lang/String", "length", "()I"⟩
abbrev yB : ByteArray := jdk_42_method_54_code
theorem d0 : decode yB 0 = .ok (.aload_n 0, 1) := by decide +kernel
theorem d1 : decode yB 1 = .ok (.getfield 9, 3) := by decide +kernel
theorem d4 : decode yB 4 = .ok (.arraylength, 1) := by decide +kernel
theorem d5 : decode yB 5 = .ok (.aload_n 0, 1) := by decide +kernel
theorem d6 : decode yB 6 = .ok (.invokevirtual 335, 3) := by decide +kernel
theorem d9 : decode yB 9 = .ok (.ishr, 1) := by decide +kernel
theorem d10 : decode yB 10 = .ok (.ireturn, 1) := by decide +kernel
def site : List Cond := [.fieldLink "java/lang/String" 9 "java/lang/String" "value" "[B", Cdr.tab] ++ virtW "java/lang/String" 335 "java/lang/String" Cdr.yN Cdr.yN
def tab : Cond := tabOf yN yB 1 (some .int) site
def P (x t : Addr) (V : Cell) (cd : Int32) (n : Nat) (f : Nat → Int32) (z : Int32) (args : Array Value) (s : State) : Prop := args = #[.ref x] ∧ Txt x t V cd n f s ∧ StaticIs s "java/lang/String" "COMPACT_STRINGS" "Z" (.int z) ∧ ¬ z = 0
def E (n : Nat) (r : Option Value) (s u : State) : Prop := XT.PureE (some (.int (Int32.ofNat n))) r s u
/-- length() of a String of n chars, in either coding -/
theorem law (l : Launch) (x t : Addr) (V : Cell) (cd : Int32) (n : Nat) (f : Nat → Int32) (z : Int32) : Law l yN 1 0 1 13 yB 1 (some .int) site (P x t V cd n f z) (E n) [] 0 0 := by
  refine Law.of_walk (plainFor_of_name (by decide +kernel)) (by decide +kernel) (by decide +kernel) (by decide) (fun _ _ h => by rw [h.1]; rfl) (fun _ U U' hal hh h => ⟨h.1, h.2.1.mv hal hh, h.2.2.1.there hal hh, h.2.2.2⟩) (fun r U U' V V' h1 hal h2 h => XT.PureE.mv r U U' V V' h1 hal h2 h) ?_
  intro p e s m args below meth c s₁ X0 hexec hbytes hml hret hlk hnm hown hh0 W hP
  obtain ⟨rfl, hx, s1, hz⟩ := hP
  have v31 := hx.2.2.2.1.2.2.2
  have c1 : Steps p.tables e below (s₁.setTop (entryFrame m #[.ref x] 1)) (s₁.setTop (mkF m 1 #[.val (.ref x)] [.ref x])) := Steps.trans (entry rfl) (by
    show Steps p.tables e below (s₁.setTop (mkF m 0 #[.val (.ref x)] [])) _
    refine XS.aloadN X0.here hexec rfl (hb hbytes d0) rfl rfl ?_
    exact Steps.refl _)
  obtain ⟨T2, X2, q2, st2⟩ := X0.hget hexec hown (wk W (.fieldLink "java/lang/String" 9 "java/lang/String" "value" "[B")) (hx.mv X0.warmed.alike hh0).2.1 (g := (mkF m 1 #[.val (.ref x)] [.ref x])) rfl (rest := []) rfl (hb hbytes d1)
  have hh2 := q2.trans hh0
  have hx2 := hx.mv X2.warmed.alike hh2
  have c3 : Steps p.tables e below (s₁.setTop (entryFrame m #[.ref x] 1)) (T2.setTop (mkF m 6 #[.val (.ref x)] [.ref x, .int (Int32.ofNat V.slots.size)])) := (c1.trans (st2 _ (Steps.refl _))).trans (by
    refine X2.alen hexec hx2.2.2.2.1 rfl rfl (hb hbytes d4) ?_
    refine XS.aloadN X2.here hexec rfl (hb hbytes d5) rfl rfl ?_
    exact Steps.refl _)
  obtain ⟨v4, T4, X4, E4, g4⟩ := X2.callV hexec (Cdr.law l x cd z) hown (wks W (virtW "java/lang/String" 335 "java/lang/String" Cdr.yN Cdr.yN)) rfl (by decide) (wk W Cdr.tab) (W := 1) (Nat.le_of_ble_eq_true rfl) (Nat.le_of_ble_eq_true rfl) (Nat.le_refl _) (Nat.le_refl _) (hx2.1.fc X2.warmed.alike) hx2.1.is (g := (mkF m 6 #[.val (.ref x)] [.ref x, .int (Int32.ofNat V.slots.size)])) rfl (by rw [hml]; rfl) c3 (argsL := []) (rest := [.int (Int32.ofNat V.slots.size)]) rfl rfl (by show 2 * 0 + (1 + 0) ≤ _; decide) (hb hbytes d6) (⟨rfl, hx2.2.2.1, hx.2.2.2.2.1.cd, s1.there X2.warmed.alike hh2, hz⟩)
  obtain ⟨rfl, q4⟩ := E4
  have c5 : Steps p.tables e below (s₁.setTop (entryFrame m #[.ref x] 1)) (T4.setTop (mkF m 10 #[.val (.ref x)] [.int (Int32.ofNat V.slots.size >>> (cd &&& 31))])) := Steps.trans g4 (by
    refine ishr X4.here hexec rfl (hb hbytes d9) rfl ?_
    exact Steps.refl _)
  rw [hx.2.2.2.2.1.len v31] at c5
  exact ⟨T4, some (.int (Int32.ofNat n)), _, _, _, X4, rfl, rfl, rfl, (fun h => by cases h), ⟨rfl, q4.trans hh2⟩, fun fs hl => c5.trans (X4.ireturnOut hexec hret rfl (Or.inl rfl) (hb hbytes d10) hl)⟩
theorem pays {l : Launch} {R : Room} {p : Program} {e : Env} {below : List Frame} {s : State} {sargs : Array Value} {len W : Nat} (x t : Addr) (V : Cell) (cd : Int32) (n : Nat) (f : Nat → Int32) (z : Int32) (htab : tab.before sargs s = true) (hfr : 2 ≤ R.frames) (hlo : W + 25 ≤ R.locals) :
    Back l R p e below s sargs yN len W (fun A₁ a₁ => A₁.cells + 0 ≤ R.cells ∧ A₁.slots + 0 ≤ R.slots ∧ P x t V cd n f z a₁ A₁.U) (fun A₁ _ v₁ B₁ => E n v₁ A₁.U B₁.U ∧ B₁.locs = A₁.locs ++ [] ∧ B₁.cells = A₁.cells + 0 ∧ B₁.slots = A₁.slots + 0) :=
  (law l x t V cd n f z).pays htab hfr (by omega)
end Len
namespace IsL
def yN : MethodName := ⟨"java/lang/String", "isLatin1", "()Z"⟩
abbrev yB : ByteArray := jdk_42_method_154_code
theorem d0 : decode yB 0 = .ok (.getstatic 38, 3) := by decide +kernel
theorem d3 : decode yB 3 = .ok (.ifCond (.eq) 14, 3) := by decide +kernel
theorem d6 : decode yB 6 = .ok (.aload_n 0, 1) := by decide +kernel
theorem d7 : decode yB 7 = .ok (.getfield 15, 3) := by decide +kernel
theorem d10 : decode yB 10 = .ok (.ifCond (.ne) 7, 3) := by decide +kernel
theorem d13 : decode yB 13 = .ok (.iconst 1, 1) := by decide +kernel
theorem d14 : decode yB 14 = .ok (.goto 4, 3) := by decide +kernel
theorem d17 : decode yB 17 = .ok (.iconst 0, 1) := by decide +kernel
theorem d18 : decode yB 18 = .ok (.ireturn, 1) := by decide +kernel
def site : List Cond := [.fieldLink "java/lang/String" 38 "java/lang/String" "COMPACT_STRINGS" "Z", .fieldLink "java/lang/String" 15 "java/lang/String" "coder" "B"]
def tab : Cond := tabOf yN yB 1 (some .boolean) site
def P (x : Addr) (cd z : Int32) (args : Array Value) (s : State) : Prop := args = #[.ref x] ∧ Has x "java/lang/String" "coder" "B" (.int cd) s ∧ (cd = 0 ∨ cd = 1) ∧ StaticIs s "java/lang/String" "COMPACT_STRINGS" "Z" (.int z) ∧ ¬ z = 0
def E (cd : Int32) (r : Option Value) (s u : State) : Prop := XT.PureE (some (.int (1 - cd))) r s u
theorem law (l : Launch) (x : Addr) (cd z : Int32) : Law l yN 1 0 0 0 yB 1 (some .boolean) site (P x cd z) (E cd) [] 0 0 := by
  refine Law.of_walk (plainFor_of_name (by decide +kernel)) (by decide +kernel) (by decide +kernel) (by decide) (fun _ _ h => by rw [h.1]; rfl) (fun _ U U' hal hh h => ⟨h.1, h.2.1.mv hal hh, h.2.2.1, h.2.2.2.1.there hal hh, h.2.2.2.2⟩) (fun r U U' V V' h1 hal h2 h => XT.PureE.mv r U U' V V' h1 hal h2 h) ?_
  intro p e s m args below meth c s₁ X0 hexec hbytes hml hret hlk hnm hown hh0 W hP
  obtain ⟨rfl, hx, hc, s1, hz⟩ := hP
  have c1 : Steps p.tables e below (s₁.setTop (entryFrame m #[.ref x] 1)) (s₁.setTop (mkF m 0 #[.val (.ref x)] [])) := entry rfl
  obtain ⟨T2, X2, q2, st2⟩ := X0.sget hexec hown (wk W (.fieldLink "java/lang/String" 38 "java/lang/String" "COMPACT_STRINGS" "Z")) s1 (fun _ _ h => by rw [hh0]; exact h) (g := (mkF m 0 #[.val (.ref x)] [])) rfl (hb hbytes d0)
  have hh2 := q2.trans hh0
  have c3 : Steps p.tables e below (s₁.setTop (entryFrame m #[.ref x] 1)) (T2.setTop (mkF m 7 #[.val (.ref x)] [.ref x])) := (c1.trans (st2 _ (Steps.refl _))).trans (by
    refine XS.ifNo X2.here hexec rfl (hb hbytes d3) rfl (i0_eq_f hz) ?_
    refine XS.aloadN X2.here hexec rfl (hb hbytes d6) rfl rfl ?_
    exact Steps.refl _)
  obtain ⟨T4, X4, q4, st4⟩ := X2.hget hexec hown (wk W (.fieldLink "java/lang/String" 15 "java/lang/String" "coder" "B")) (hx.mv X2.warmed.alike hh2) (g := (mkF m 7 #[.val (.ref x)] [.ref x])) rfl (rest := []) rfl (hb hbytes d7)
  have c5 : Steps p.tables e below (s₁.setTop (entryFrame m #[.ref x] 1)) (T4.setTop (mkF m 10 #[.val (.ref x)] [.int cd])) := c3.trans (st4 _ (Steps.refl _))
  have c6 : Steps p.tables e below (s₁.setTop (entryFrame m #[.ref x] 1)) (T4.setTop (mkF m 18 #[.val (.ref x)] [.int (1 - cd)])) := by
    rcases hc with rfl | rfl
    · exact c5.trans (by
        refine XS.ifNo X4.here hexec rfl (hb hbytes d10) rfl (i0_ne_f rfl) ?_
        refine iconstV X4.here hexec rfl 1 (hb hbytes d13) (by decide) ?_
        refine XS.goto X4.here hexec rfl (pc0 := 14) rfl (hb hbytes d14) (by decide) rfl ?_
        exact Steps.refl _)
    · exact c5.trans (by
        refine XS.ifYes X4.here hexec rfl (pc0 := 10) rfl (hb hbytes d10) rfl (i0_ne_t (by decide)) (by decide) rfl ?_
        refine iconstV X4.here hexec rfl 0 (hb hbytes d17) (by decide) ?_
        exact Steps.refl _)
  exact ⟨T4, some (.int (1 - cd)), _, _, _, X4, rfl, rfl, rfl, (fun h => by cases h), ⟨rfl, q4.trans hh2⟩, fun fs hl => c6.trans (X4.ireturnOut hexec hret (by rcases hc with rfl | rfl <;> rfl) (Or.inr (Or.inl rfl)) (hb hbytes d18) hl)⟩
end IsL
namespace LChA
def yN : MethodName := ⟨"java/lang/StringLatin1", "charAt", "([BI)C"⟩
abbrev yB : ByteArray := jdk_43_method_2_code
theorem d0 : decode yB 0 = .ok (.iload_n 1, 1) := by decide +kernel
theorem d1 : decode yB 1 = .ok (.aload_n 0, 1) := by decide +kernel
theorem d2 : decode yB 2 = .ok (.arraylength, 1) := by decide +kernel
theorem d3 : decode yB 3 = .ok (.invokestatic 9, 3) := by decide +kernel
theorem d6 : decode yB 6 = .ok (.aload_n 0, 1) := by decide +kernel
theorem d7 : decode yB 7 = .ok (.iload_n 1, 1) := by decide +kernel
theorem d8 : decode yB 8 = .ok (.baload, 1) := by decide +kernel
theorem d9 : decode yB 9 = .ok (.sipush 255, 3) := by decide +kernel
theorem d12 : decode yB 12 = .ok (.iand, 1) := by decide +kernel
theorem d13 : decode yB 13 = .ok (.i2c, 1) := by decide +kernel
theorem d14 : decode yB 14 = .ok (.ireturn, 1) := by decide +kernel
def site : List Cond := [JO.Str_checkIndex.tab] ++ staticW "java/lang/StringLatin1" 9 JO.Str_checkIndex.yN
def tab : Cond := tabOf yN yB 2 (some .char) site
def P (t : Addr) (V : Cell) (i : Nat) (u : Int32) (fm : Value) (args : Array Value) (s : State) : Prop := args = #[.ref t, .int (Int32.ofNat i)] ∧ XT.Arr .byte t V s ∧ V.slots[i]? = some (.int u) ∧ (StaticIs s "jdk/internal/util/Preconditions" "SIOOBE_FORMATTER" "Ljava/util/function/BiFunction;" fm ∧ fm.isRef = true)
def E (u : Int32) (r : Option Value) (s w : State) : Prop := XT.PureE (some (.int (chr8 u))) r s w
theorem law (l : Launch) (t : Addr) (V : Cell) (i : Nat) (u : Int32) (fm : Value) : Law l yN 2 2 2 27 yB 2 (some .char) site (P t V i u fm) (E u) [] 0 0 := by
  refine Law.of_walk (plainFor_of_name (by decide +kernel)) (by decide +kernel) (by decide +kernel) (by decide) (fun _ _ h => by rw [h.1]; rfl) (fun _ U U' hal hh h => ⟨h.1, h.2.1.mv hal hh, h.2.2.1, h.2.2.2.1.there hal hh, h.2.2.2.2⟩) (fun r U U' V V' h1 hal h2 h => XT.PureE.mv r U U' V V' h1 hal h2 h) ?_
  intro p e s m args below meth c s₁ X0 hexec hbytes hml hret hlk hnm hown hh0 W hP
  obtain ⟨rfl, hV, hu, s1, rf⟩ := hP
  have v31 := hV.2.2.2
  have hi : i < V.slots.size := (Array.getElem?_eq_some_iff.mp hu).1
  have c1 : Steps p.tables e below (s₁.setTop (entryFrame m #[.ref t, .int (Int32.ofNat i)] 2)) (s₁.setTop (mkF m 0 #[.val (.ref t), .val (.int (Int32.ofNat i))] [])) := entry rfl
  have c2 : Steps p.tables e below (s₁.setTop (entryFrame m #[.ref t, .int (Int32.ofNat i)] 2)) (s₁.setTop (mkF m 3 #[.val (.ref t), .val (.int (Int32.ofNat i))] [.int (Int32.ofNat V.slots.size), .int (Int32.ofNat i)])) := c1.trans (by
    refine XS.iloadN X0.here hexec rfl (hb hbytes d0) rfl ?_
    refine XS.aloadN X0.here hexec rfl (hb hbytes d1) rfl rfl ?_
    refine X0.alen hexec (hV.mv X0.warmed.alike hh0) rfl rfl (hb hbytes d2) ?_
    exact Steps.refl _)
  obtain ⟨v3, T3, X3, E3, g3⟩ := X0.callS hexec (JO.Str_checkIndex.law l (Int32.ofNat i) (Int32.ofNat V.slots.size) fm) hown (wks W (staticW "java/lang/StringLatin1" 9 JO.Str_checkIndex.yN)) (wk W JO.Str_checkIndex.tab) (W := 0) (Nat.le_of_ble_eq_true rfl) (Nat.le_of_ble_eq_true rfl) (Nat.le_refl _) (Nat.le_refl _) (g := (mkF m 3 #[.val (.ref t), .val (.int (Int32.ofNat i))] [.int (Int32.ofNat V.slots.size), .int (Int32.ofNat i)])) rfl (by rw [hml]; rfl) c2 (argsL := [.int (Int32.ofNat i), .int (Int32.ofNat V.slots.size)]) (rest := []) rfl rfl (by show 2 * 0 + 0 ≤ _; decide) (hb hbytes d3) (⟨rfl, rf, s1.there X0.warmed.alike hh0, Int32.ofNat_not_neg (by omega), lt32 v31 hi⟩)
  obtain ⟨rfl, q3⟩ := E3
  have hh3 := q3.trans hh0
  have c4 : Steps p.tables e below (s₁.setTop (entryFrame m #[.ref t, .int (Int32.ofNat i)] 2)) (T3.setTop (mkF m 14 #[.val (.ref t), .val (.int (Int32.ofNat i))] [.int (chr8 u)])) := Steps.trans g3 (by
    refine XS.aloadN X3.here hexec rfl (hb hbytes d6) rfl rfl ?_
    refine XS.iloadN X3.here hexec rfl (hb hbytes d7) rfl ?_
    refine X3.aget hexec (hV.mv X3.warmed.alike hh3) rfl hu rfl rfl (hb hbytes d8) ?_
    refine sipushV X3.here hexec rfl 255 (hb hbytes d9) (by decide) ?_
    refine XS.iand X3.here hexec rfl (hb hbytes d12) rfl ?_
    refine i2c X3.here hexec rfl (hb hbytes d13) rfl ?_
    exact Steps.refl _)
  exact ⟨T3, some (.int (chr8 u)), _, _, _, X3, rfl, rfl, rfl, (fun h => by cases h), ⟨rfl, hh3⟩, fun fs hl => c4.trans (X3.ireturnOut hexec hret (narrow_c _) (Or.inr (Or.inr (Or.inr (Or.inl rfl)))) (hb hbytes d14) hl)⟩
end LChA
end StrChars
namespace StrChars.Road
open Jvm Sem ClassFile Op Lib Jvm.Stand Jvm.Free Jvm.Free.XT
open Jvm.Lib.Cold (StaticIs)
theorem consq {a : Array Value} {s : State} {c : Jvm.Cond} {L : List Jvm.Cond} (h0 : c.before a s = true) (h : ∀ w ∈ L, w.before a s = true) : ∀ w ∈ c :: L, w.before a s = true := fun w hw => (List.mem_cons.mp hw).elim (fun e => e ▸ h0) (h w)
/-- the words of String.length(), either coding -/
abbrev wordsLen : List Jvm.Cond := [.code Len.yN Len.yB 1 (some .int), .initialized ST, .fieldLink ST 9 ST "value" "[B", .fieldLink ST 38 ST "COMPACT_STRINGS" "Z", .fieldLink ST 15 ST "coder" "B", .code Cdr.yN Cdr.yB 1 (some .byte), .methodLink ST 335 Cdr.yN, .declares Cdr.yN, .selects ST Cdr.yN Cdr.yN, .instanceMethod Cdr.yN]
theorem tabLen_of {a : Array Value} {s : State} (h : ∀ w ∈ wordsLen, w.before a s = true) : Len.tab.before a s = true := by
  have hc : Cdr.tab.before a s = true := unparts (wk h (.code Cdr.yN Cdr.yB 1 (some .byte))) (wks h (.initialized Cdr.yN.cls :: Cdr.site))
  have q := consq hc h
  exact unparts (wk q (.code Len.yN Len.yB 1 (some .int))) (wks q (.initialized Len.yN.cls :: Len.site))
theorem movedLen {Z s : State} {a0 args : Array Value} (hZ : Z.Warmed39 s.vm) (hw : ∀ d ∈ wordsLen, d.before a0 Z = true) : ∀ d ∈ wordsLen, d.before args s = true := fun d hd => by
  have q := hw d hd
  have t : ∀ d ∈ wordsLen, d = .arrayClass .byte ∨ (d.onTables && d.keepsFace) = true := by decide +kernel
  rcases t d hd with rfl | t
  · exact RoadKit.mvA hZ q
  · exact RoadKit.mv hZ q t
/-- the bytes of the chars cs, low before high -/
def wideBytes : List Int32 → List Value
  | [] => []
  | c :: cs => .int (lo8 c) :: .int (hi8 c) :: wideBytes cs
theorem wide_lo (d : Value) : ∀ (cs : List Int32) (j : Nat), j < cs.length → (wideBytes cs).getD (2 * j) d = .int (lo8 (cs.getD j 0))
  | [], j, h => absurd h (Nat.not_lt_zero j)
  | c :: cs, 0, _ => rfl
  | c :: cs, j + 1, h => by
    have q := wide_lo d cs j (by simpa using h)
    rw [show 2 * (j + 1) = 2 * j + 1 + 1 from by omega]
    simpa [wideBytes] using q
theorem wide_hi (d : Value) : ∀ (cs : List Int32) (j : Nat), j < cs.length → (wideBytes cs).getD (2 * j + 1) d = .int (hi8 (cs.getD j 0))
  | [], j, h => absurd h (Nat.not_lt_zero j)
  | c :: cs, 0, _ => rfl
  | c :: cs, j + 1, h => by
    have q := wide_hi d cs j (by simpa using h)
    rw [show 2 * (j + 1) + 1 = 2 * j + 1 + 1 + 1 from by omega]
    simpa [wideBytes] using q
theorem low_at (d : Value) (cs : List Int32) (j : Nat) (h : j < cs.length) : (cs.map fun c => Value.int (lo8 c)).getD j d = .int (lo8 (cs.getD j 0)) := by
  simp [List.getD_eq_getElem?_getD, h]
/-- an array of N2 bytes vs codes the chars cs by the coder cd -/
def CodA (cs : List Int32) (cd N2 : Int32) (vs : List Value) : Prop := (cd = 0 ∧ N2 = Int32.ofNat cs.length ∧ vs = (cs.map fun c => Value.int (lo8 c)) ∧ ∀ c ∈ cs, ¬ 255 < c) ∨ (cd = 1 ∧ N2 = Int32.ofNat (2 * cs.length) ∧ vs = wideBytes cs ∧ ∃ c ∈ cs, 255 < c)
theorem CodA.cod {cs : List Int32} {cd N2 : Int32} {vs : List Value} {V : Cell} (h : CodA cs cd N2 vs) (hn : 2 * cs.length < 2 ^ 31) (hs : V.slots.size = N2.toNatClampNeg) (hv : RoadKit.Has V vs (.int 0)) : Cod cd cs.length (fun j => cs.getD j 0) V := by
  rcases h with ⟨rfl, rfl, rfl, h⟩ | ⟨rfl, rfl, rfl, c, hc, hw⟩
  · rw [n32 (by omega)] at hs
    exact Or.inl ⟨rfl, hs, fun j hj => ⟨by rw [hv j (by omega), low_at _ _ _ hj], by
      have e : cs.getD j 0 = cs[j] := by simp [List.getD_eq_getElem?_getD, hj]
      show ¬ 255 < cs.getD j 0
      rw [e]; exact h _ (List.getElem_mem _)⟩⟩
  · rw [n32 (by omega)] at hs
    obtain ⟨j, hj, rfl⟩ := List.getElem_of_mem hc
    exact Or.inr ⟨rfl, hs, fun j hj => ⟨by rw [hv _ (by omega), wide_lo _ _ _ hj], by rw [hv _ (by omega), wide_hi _ _ _ hj]⟩, j, hj, by
      have e : cs.getD j 0 = cs[j] := by simp [List.getD_eq_getElem?_getD, hj]
      show 255 < cs.getD j 0
      rw [e]; exact hw⟩
/-- an object of exactly java/lang/String, its two fields found: as the laws ask it -/
theorem strObj {Z U : State} {a0 : Array Value} {kI : Nat} (wi : (Jvm.Cond.instantiable ST kI).before a0 Z = true) (al : Z.vm.Alike U.vm) {x : Addr} {v0 c0 : Value} (E : RoadKit.Exa Z U.heap x ST) (V : RoadKit.Fld Z U.heap x ST "value" "[B" v0) (C : RoadKit.Fld Z U.heap x ST "coder" "B" c0) :
    ∃ (D : Cell) (fV fC : Field), Blank ST x D U ∧ Found ST "value" "[B" fV U ∧ Found ST "coder" "B" fC U ∧ D.slots[fV.slot]? = some v0 ∧ D.slots[fC.slot]? = some c0 ∧ RoadKit.slotOf Z ST "value" "[B" = fV.slot ∧ RoadKit.slotOf Z ST "coder" "B" = fC.slot := by
  obtain ⟨D, cfV, kV, iV, fV, hD, gV, stV, knV, obV, asV, slV⟩ := V
  obtain ⟨D', cfC, kC, iC, fC, hD', gC, stC, -, -, asC, slC⟩ := C
  cases hD.symm.trans hD'
  obtain ⟨D2, kD, e1, e2, e3, e4, e5⟩ := E
  cases hD.symm.trans e1
  obtain ⟨c2, k2, i1, i2, i3, -⟩ := Cond.instantiable_spec wi
  cases e2.symm.trans i1
  cases e3.symm.trans i2
  obtain ⟨kU, u1, u2⟩ := al.2.2 _ _ e3
  exact ⟨D, fV, fC, ⟨hD, ⟨knV, fun q hq => by rw [hq] at obV; cases obV⟩, by rw [al.findClass]; exact e2, kU, u1, by rw [u2]; exact i3, by rw [u2]; exact e5 i3⟩, ⟨SBG.found_only al ⟨cfV, kV, iV, gV⟩, stV⟩, ⟨SBG.found_only al ⟨cfC, kC, iC, gC⟩, stC⟩, slV, slC, by simp [RoadKit.slotOf, gV], by simp [RoadKit.slotOf, gC]⟩
theorem sta_is {Z U : State} (al : Z.vm.Alike U.vm) {C n d : String} {v : Value} (S : RoadKit.Sta Z U.heap C n d v) : StaticIs U C n d v := by
  obtain ⟨cfS, iS, kS, fS, st, cS, t1, t2, t3, t4, t5, t6, t7⟩ := S
  exact StaticIs.there (s := { Z with heap := U.heap }) ⟨cfS, iS, kS, fS, st, cS, t1, t2, t3, t4, t5, (fun q => by rw [q] at t6; cases t6), t7⟩ al rfl
/-- **length() OF SUCH A STRING** -/
theorem lenW {p : Program} {l : Launch} {e : Env} {R : Room} {s : State} {args : Array Value} {below : List Frame} {len W : Nat} {Z : State} {a0 : Array Value} {h : Heap} (hZ : Z.Warmed39 s.vm) (hw : ∀ d ∈ wordsLen, d.before a0 Z = true) {kI : Nat} (wi : (Jvm.Cond.instantiable ST kI).before a0 Z = true)
    {x t : Addr} {kb : ClassId} {cs : List Int32} {cd N2 z : Int32} {vs : List Value} (E : RoadKit.Exa Z h x ST) (V : RoadKit.Fld Z h x ST "value" "[B" (.ref t)) (C : RoadKit.Fld Z h x ST "coder" "B" (.int cd)) (K : RoadKit.Arv Z h t kb .byte N2 vs (.int 0)) (hc : CodA cs cd N2 vs) (hb : ∀ c ∈ cs, ¬ c < 0 ∧ ¬ (65535 : Int32) < c)
    (S : RoadKit.Sta Z h ST "COMPACT_STRINGS" "Z" (.int z)) (hz : ¬ z = 0) (l2 : cs.length ≤ 4000) (hfr : 2 ≤ R.frames) (hlo : W + 25 ≤ R.locals) :
    Back l R p e below s args (⟨"java/lang/String", "length", "()I"⟩ : MethodName) len W (fun P a => a = #[.ref x] ∧ P.U.heap = h ∧ P.cells + 0 ≤ R.cells ∧ P.slots + 0 ≤ R.slots)
      (fun P _ v B => ∃ L, (v = some (.int (Int32.ofNat cs.length)) ∧ L = [] ∧ B.U.heap = h) ∧ B.locs = P.locs ++ L ∧ B.cells = P.cells + 0 ∧ B.slots = P.slots + 0) := by
  obtain ⟨A, K1, K2, K3, K4, K5, K6⟩ := K
  have hcod := hc.cod (by omega) K3 K5
  intro m meth c P g ig mk a X hg hsize hdg hW hn hp'
  obtain ⟨rfl, rfl, r1, r2⟩ := hp'
  have al : Z.vm.Alike P.U.vm := hZ.alike.trans X.warmed.alike
  obtain ⟨D, fV, fC, hB, F1, F2, g1, g2, -, -⟩ := strObj wi al E V C
  have hx : Txt x t A cd cs.length (fun j => cs.getD j 0) P.U := ⟨⟨_, hB.2.2.1, D, hB.1, rfl, by cases q : D.vm <;> first | rfl | exact absurd q (hB.2.1.2 _)⟩, Has.of hB F1 g1, Has.of hB F2 g2, ⟨K1.1, State.isArrayOf_alike al K1.2.1, K1.2.2, by rcases hcod with ⟨-, q, -⟩ | ⟨-, q, -⟩ <;> omega⟩, hcod, fun j hj => by
    have e : cs.getD j 0 = cs[j] := by simp [List.getD_eq_getElem?_getD, hj]
    show ¬ cs.getD j 0 < 0 ∧ ¬ 65535 < cs.getD j 0
    rw [e]; exact hb _ (List.getElem_mem _)⟩
  obtain ⟨v, B, X', ⟨⟨hv, hh⟩, hl, hk, hs⟩, st⟩ := Len.pays x t A cd cs.length (fun j => cs.getD j 0) z (tabLen_of (movedLen hZ hw)) hfr hlo m meth c P g ig mk _ X hg hsize hdg hW hn ⟨r1, r2, rfl, hx, sta_is al S, hz⟩
  exact ⟨v, B, X', ⟨[], ⟨hv, rfl, hh⟩, hl, hk, hs⟩, st⟩
end StrChars.Road
namespace StrChars
open Jvm Sem ClassFile Op Lib Jvm.Stand Jvm.Free.XT Jvm.Free.ALB Jvm.Free.JM Jvm.Free
open Jvm.Lib.Cold (StaticIs)
namespace Emp
def yN : MethodName := ⟨"java/lang/String", "isEmpty", "()Z"⟩
abbrev yB : ByteArray := jdk_42_method_55_code
theorem d0 : decode yB 0 = .ok (.aload_n 0, 1) := by decide +kernel
theorem d1 : decode yB 1 = .ok (.getfield 9, 3) := by decide +kernel
theorem d4 : decode yB 4 = .ok (.arraylength, 1) := by decide +kernel
theorem d5 : decode yB 5 = .ok (.ifCond (.ne) 7, 3) := by decide +kernel
theorem d8 : decode yB 8 = .ok (.iconst 1, 1) := by decide +kernel
theorem d9 : decode yB 9 = .ok (.goto 4, 3) := by decide +kernel
theorem d12 : decode yB 12 = .ok (.iconst 0, 1) := by decide +kernel
theorem d13 : decode yB 13 = .ok (.ireturn, 1) := by decide +kernel
def site : List Cond := [.fieldLink "java/lang/String" 9 "java/lang/String" "value" "[B"]
def tab : Cond := tabOf yN yB 1 (some .boolean) site
def P (x t : Addr) (V : Cell) (cd : Int32) (n : Nat) (f : Nat → Int32) (args : Array Value) (s : State) : Prop := args = #[.ref x] ∧ Txt x t V cd n f s
def E (n : Nat) (r : Option Value) (s u : State) : Prop := XT.PureE (some (.int (if n = 0 then 1 else 0))) r s u
/-- isEmpty() of a String of n chars -/
theorem law (l : Launch) (x t : Addr) (V : Cell) (cd : Int32) (n : Nat) (f : Nat → Int32) : Law l yN 1 0 0 0 yB 1 (some .boolean) site (P x t V cd n f) (E n) [] 0 0 := by
  refine Law.of_walk (plainFor_of_name (by decide +kernel)) (by decide +kernel) (by decide +kernel) (by decide) (fun _ _ h => by rw [h.1]; rfl) (fun _ U U' hal hh h => ⟨h.1, h.2.mv hal hh⟩) (fun r U U' V V' h1 hal h2 h => XT.PureE.mv r U U' V V' h1 hal h2 h) ?_
  intro p e s m args below meth c s₁ X0 hexec hbytes hml hret hlk hnm hown hh0 W hP
  obtain ⟨rfl, hx⟩ := hP
  have v31 := hx.2.2.2.1.2.2.2
  have c1 : Steps p.tables e below (s₁.setTop (entryFrame m #[.ref x] 1)) (s₁.setTop (mkF m 1 #[.val (.ref x)] [.ref x])) := Steps.trans (entry rfl) (by
    show Steps p.tables e below (s₁.setTop (mkF m 0 #[.val (.ref x)] [])) _
    refine XS.aloadN X0.here hexec rfl (hb hbytes d0) rfl rfl ?_
    exact Steps.refl _)
  obtain ⟨T2, X2, q2, st2⟩ := X0.hget hexec hown (wk W (.fieldLink "java/lang/String" 9 "java/lang/String" "value" "[B")) (hx.mv X0.warmed.alike hh0).2.1 (g := (mkF m 1 #[.val (.ref x)] [.ref x])) rfl (rest := []) rfl (hb hbytes d1)
  have hh2 := q2.trans hh0
  have hx2 := hx.mv X2.warmed.alike hh2
  have c3 : Steps p.tables e below (s₁.setTop (entryFrame m #[.ref x] 1)) (T2.setTop (mkF m 5 #[.val (.ref x)] [.int (Int32.ofNat V.slots.size)])) := (c1.trans (st2 _ (Steps.refl _))).trans (by
    refine X2.alen hexec hx2.2.2.2.1 rfl rfl (hb hbytes d4) ?_
    exact Steps.refl _)
  have hz : V.slots.size = 0 ↔ n = 0 := by
    rcases hx.2.2.2.2.1 with ⟨-, q, -⟩ | ⟨-, q, -⟩ <;> omega
  by_cases h0 : n = 0
  · have c4 : Steps p.tables e below (s₁.setTop (entryFrame m #[.ref x] 1)) (T2.setTop (mkF m 13 #[.val (.ref x)] [.int 1])) := c3.trans (by
      refine XS.ifNo X2.here hexec rfl (hb hbytes d5) rfl (i0_ne_f (by rw [hz.mpr h0]; rfl)) ?_
      refine iconstV X2.here hexec rfl 1 (hb hbytes d8) (by decide) ?_
      refine XS.goto X2.here hexec rfl (pc0 := 9) rfl (hb hbytes d9) (by decide) rfl ?_
      exact Steps.refl _)
    exact ⟨T2, some (.int 1), _, _, _, X2, rfl, rfl, rfl, (fun h => by cases h), ⟨by rw [if_pos h0], hh2⟩, fun fs hl => c4.trans (X2.ireturnOut hexec hret rfl (Or.inr (Or.inl rfl)) (hb hbytes d13) hl)⟩
  · have c4 : Steps p.tables e below (s₁.setTop (entryFrame m #[.ref x] 1)) (T2.setTop (mkF m 13 #[.val (.ref x)] [.int 0])) := c3.trans (by
      refine XS.ifYes X2.here hexec rfl (pc0 := 5) rfl (hb hbytes d5) rfl (i0_ne_t (nz32 v31 (by omega))) (by decide) rfl ?_
      refine iconstV X2.here hexec rfl 0 (hb hbytes d12) (by decide) ?_
      exact Steps.refl _)
    exact ⟨T2, some (.int 0), _, _, _, X2, rfl, rfl, rfl, (fun h => by cases h), ⟨by rw [if_neg h0], hh2⟩, fun fs hl => c4.trans (X2.ireturnOut hexec hret rfl (Or.inr (Or.inl rfl)) (hb hbytes d13) hl)⟩
theorem pays {l : Launch} {R : Room} {p : Program} {e : Env} {below : List Frame} {s : State} {sargs : Array Value} {len W : Nat} (x t : Addr) (V : Cell) (cd : Int32) (n : Nat) (f : Nat → Int32) (htab : tab.before sargs s = true) (hfr : 1 ≤ R.frames) (hlo : W + 12 ≤ R.locals) :
    Back l R p e below s sargs yN len W (fun A₁ a₁ => A₁.cells + 0 ≤ R.cells ∧ A₁.slots + 0 ≤ R.slots ∧ P x t V cd n f a₁ A₁.U) (fun A₁ _ v₁ B₁ => E n v₁ A₁.U B₁.U ∧ B₁.locs = A₁.locs ++ [] ∧ B₁.cells = A₁.cells + 0 ∧ B₁.slots = A₁.slots + 0) :=
  (law l x t V cd n f).pays htab hfr (by omega)
end Emp
end StrChars
namespace StrChars.Road
open Jvm Sem ClassFile Op Lib Jvm.Stand Jvm.Free Jvm.Free.XT
open Jvm.Lib.Cold (StaticIs)
/-- the words of String.isEmpty() -/
abbrev wordsEmp : List Jvm.Cond := [.code Emp.yN Emp.yB 1 (some .boolean), .initialized ST, .fieldLink ST 9 ST "value" "[B"]
theorem tabEmp_of {a : Array Value} {s : State} (h : ∀ w ∈ wordsEmp, w.before a s = true) : Emp.tab.before a s = true := unparts (wk h (.code Emp.yN Emp.yB 1 (some .boolean))) (wks h (.initialized Emp.yN.cls :: Emp.site))
theorem movedEmp {Z s : State} {a0 args : Array Value} (hZ : Z.Warmed39 s.vm) (hw : ∀ d ∈ wordsEmp, d.before a0 Z = true) : ∀ d ∈ wordsEmp, d.before args s = true := fun d hd => by
  have t : ∀ d ∈ wordsEmp, (d.onTables && d.keepsFace) = true := by decide +kernel
  exact RoadKit.mv hZ (hw d hd) (t d hd)
/-- the road's facts of a String, as the laws ask it -/
theorem txt_of {Z U : State} {a0 : Array Value} {kI : Nat} (wi : (Jvm.Cond.instantiable ST kI).before a0 Z = true) (al : Z.vm.Alike U.vm) {x t : Addr} {kb : ClassId} {cs : List Int32} {cd N2 : Int32} {vs : List Value} (E : RoadKit.Exa Z U.heap x ST) (V : RoadKit.Fld Z U.heap x ST "value" "[B" (.ref t)) (C : RoadKit.Fld Z U.heap x ST "coder" "B" (.int cd)) (K : RoadKit.Arv Z U.heap t kb .byte N2 vs (.int 0)) (hc : CodA cs cd N2 vs) (hb : ∀ c ∈ cs, ¬ c < 0 ∧ ¬ (65535 : Int32) < c) (l2 : cs.length ≤ 4000) :
    ∃ A, Txt x t A cd cs.length (fun j => cs.getD j 0) U := by
  obtain ⟨A, K1, K2, K3, K4, K5, K6⟩ := K
  have hcod := hc.cod (by omega) K3 K5
  obtain ⟨D, fV, fC, hB, F1, F2, g1, g2, -, -⟩ := strObj wi al E V C
  exact ⟨A, ⟨_, hB.2.2.1, D, hB.1, rfl, by cases q : D.vm <;> first | rfl | exact absurd q (hB.2.1.2 _)⟩, Has.of hB F1 g1, Has.of hB F2 g2, ⟨K1.1, State.isArrayOf_alike al K1.2.1, K1.2.2, by rcases hcod with ⟨-, q, -⟩ | ⟨-, q, -⟩ <;> omega⟩, hcod, fun j hj => by
    have e : cs.getD j 0 = cs[j] := by simp [List.getD_eq_getElem?_getD, hj]
    show ¬ cs.getD j 0 < 0 ∧ ¬ 65535 < cs.getD j 0
    rw [e]; exact hb _ (List.getElem_mem _)⟩
/-- **isEmpty() OF SUCH A STRING** -/
theorem empW {p : Program} {l : Launch} {e : Env} {R : Room} {s : State} {args : Array Value} {below : List Frame} {len W : Nat} {Z : State} {a0 : Array Value} {h : Heap} (hZ : Z.Warmed39 s.vm) (hw : ∀ d ∈ wordsEmp, d.before a0 Z = true) {kI : Nat} (wi : (Jvm.Cond.instantiable ST kI).before a0 Z = true)
    {x t : Addr} {kb : ClassId} {cs : List Int32} {cd N2 : Int32} {vs : List Value} (E : RoadKit.Exa Z h x ST) (V : RoadKit.Fld Z h x ST "value" "[B" (.ref t)) (C : RoadKit.Fld Z h x ST "coder" "B" (.int cd)) (K : RoadKit.Arv Z h t kb .byte N2 vs (.int 0)) (hc : CodA cs cd N2 vs) (hb : ∀ c ∈ cs, ¬ c < 0 ∧ ¬ (65535 : Int32) < c) (l2 : cs.length ≤ 4000) (hfr : 1 ≤ R.frames) (hlo : W + 12 ≤ R.locals) :
    Back l R p e below s args (⟨"java/lang/String", "isEmpty", "()Z"⟩ : MethodName) len W (fun P a => a = #[.ref x] ∧ P.U.heap = h ∧ P.cells + 0 ≤ R.cells ∧ P.slots + 0 ≤ R.slots)
      (fun P _ v B => ∃ L, (v = some (.int (if cs.length = 0 then 1 else 0)) ∧ L = [] ∧ B.U.heap = h) ∧ B.locs = P.locs ++ L ∧ B.cells = P.cells + 0 ∧ B.slots = P.slots + 0) := by
  intro m meth c P g ig mk a X hg hsize hdg hW hn hp'
  obtain ⟨rfl, rfl, r1, r2⟩ := hp'
  have al : Z.vm.Alike P.U.vm := hZ.alike.trans X.warmed.alike
  obtain ⟨A, hx⟩ := txt_of wi al E V C K hc hb l2
  obtain ⟨v, B, X', ⟨⟨hv, hh⟩, hl, hk, hs⟩, st⟩ := Emp.pays x t A cd cs.length (fun j => cs.getD j 0) (tabEmp_of (movedEmp hZ hw)) hfr hlo m meth c P g ig mk _ X hg hsize hdg hW hn ⟨r1, r2, rfl, hx⟩
  exact ⟨v, B, X', ⟨[], ⟨hv, rfl, hh⟩, hl, hk, hs⟩, st⟩
end StrChars.Road
namespace StrChars
open Jvm Sem ClassFile Op Lib Jvm.Stand Jvm.Free.XT Jvm.Free.ALB Jvm.Free.JM Jvm.Free
open Jvm.Lib.Cold (StaticIs)
namespace ChN
def yN : MethodName := ⟨"java/lang/String", "charAt", "(I)C"⟩
abbrev yB : ByteArray := jdk_42_method_56_code
theorem d0 : decode yB 0 = .ok (.aload_n 0, 1) := by decide +kernel
theorem d1 : decode yB 1 = .ok (.invokevirtual 492, 3) := by decide +kernel
theorem d4 : decode yB 4 = .ok (.ifCond (.eq) 12, 3) := by decide +kernel
theorem d7 : decode yB 7 = .ok (.aload_n 0, 1) := by decide +kernel
theorem d8 : decode yB 8 = .ok (.getfield 9, 3) := by decide +kernel
theorem d11 : decode yB 11 = .ok (.iload_n 1, 1) := by decide +kernel
theorem d12 : decode yB 12 = .ok (.invokestatic 495, 3) := by decide +kernel
theorem d15 : decode yB 15 = .ok (.ireturn, 1) := by decide +kernel
def site : List Cond := [.fieldLink "java/lang/String" 9 "java/lang/String" "value" "[B", IsL.tab, LChA.tab] ++ virtW "java/lang/String" 492 "java/lang/String" IsL.yN IsL.yN ++ staticW "java/lang/String" 495 LChA.yN
def tab : Cond := tabOf yN yB 2 (some .char) site
def P (x t : Addr) (V : Cell) (n : Nat) (f : Nat → Int32) (z : Int32) (fm : Value) (i : Nat) (args : Array Value) (s : State) : Prop := args = #[.ref x, .int (Int32.ofNat i)] ∧ Txt x t V 0 n f s ∧ i < n ∧ StaticIs s "java/lang/String" "COMPACT_STRINGS" "Z" (.int z) ∧ ¬ z = 0 ∧ StaticIs s "jdk/internal/util/Preconditions" "SIOOBE_FORMATTER" "Ljava/util/function/BiFunction;" fm ∧ fm.isRef = true
def E (f : Nat → Int32) (i : Nat) (r : Option Value) (s u : State) : Prop := XT.PureE (some (.int (f i))) r s u
/-- charAt(i) of a Latin-1 String of n chars, i < n: f i -/
theorem law (l : Launch) (x t : Addr) (V : Cell) (n : Nat) (f : Nat → Int32) (z : Int32) (fm : Value) (i : Nat) : Law l yN 2 1 3 40 yB 2 (some .char) site (P x t V n f z fm i) (E f i) [] 0 0 := by
  refine Law.of_walk (plainFor_of_name (by decide +kernel)) (by decide +kernel) (by decide +kernel) (by decide) (fun _ _ h => by rw [h.1]; rfl) (fun _ U U' hal hh h => ⟨h.1, h.2.1.mv hal hh, h.2.2.1, h.2.2.2.1.there hal hh, h.2.2.2.2.1, h.2.2.2.2.2.1.there hal hh, h.2.2.2.2.2.2⟩) (fun r U U' V V' h1 hal h2 h => XT.PureE.mv r U U' V V' h1 hal h2 h) ?_
  intro p e s m args below meth c s₁ X0 hexec hbytes hml hret hlk hnm hown hh0 W hP
  obtain ⟨rfl, hx, hi, s1, hz, s3, rf⟩ := hP
  have v31 := hx.2.2.2.1.2.2.2
  have hr := hx.2.2.2.2.2 i hi
  have hx0 := hx.mv X0.warmed.alike hh0
  have c1 : Steps p.tables e below (s₁.setTop (entryFrame m #[.ref x, .int (Int32.ofNat i)] 2)) (s₁.setTop (mkF m 1 #[.val (.ref x), .val (.int (Int32.ofNat i))] [.ref x])) := Steps.trans (entry rfl) (by
    show Steps p.tables e below (s₁.setTop (mkF m 0 #[.val (.ref x), .val (.int (Int32.ofNat i))] [])) _
    refine XS.aloadN X0.here hexec rfl (hb hbytes d0) rfl rfl ?_
    exact Steps.refl _)
  obtain ⟨v2, T2, X2, E2, g2⟩ := X0.callV hexec (IsL.law l x 0 z) hown (wks W (virtW "java/lang/String" 492 "java/lang/String" IsL.yN IsL.yN)) rfl (by decide) (wk W IsL.tab) (W := 0) (Nat.le_of_ble_eq_true rfl) (Nat.le_of_ble_eq_true rfl) (Nat.le_refl _) (Nat.le_refl _) (hx0.1.fc X0.warmed.alike) hx0.1.is (g := (mkF m 1 #[.val (.ref x), .val (.int (Int32.ofNat i))] [.ref x])) rfl (by rw [hml]; rfl) c1 (argsL := []) (rest := []) rfl rfl (by show 2 * 0 + 0 ≤ _; decide) (hb hbytes d1) (⟨rfl, hx0.2.2.1, hx.2.2.2.2.1.cd, s1.there X0.warmed.alike hh0, hz⟩)
  obtain ⟨rfl, q2⟩ := E2
  have hh2 := q2.trans hh0
  have hx2 := hx.mv X2.warmed.alike hh2
  obtain ⟨-, k1, k2⟩ | ⟨k0, -⟩ := hx.2.2.2.2.1
  · have c3 : Steps p.tables e below (s₁.setTop (entryFrame m #[.ref x, .int (Int32.ofNat i)] 2)) (T2.setTop (mkF m 8 #[.val (.ref x), .val (.int (Int32.ofNat i))] [.ref x])) := Steps.trans g2 (by
      refine XS.ifNo X2.here hexec rfl (hb hbytes d4) rfl (i0_eq_f (by decide)) ?_
      refine XS.aloadN X2.here hexec rfl (hb hbytes d7) rfl rfl ?_
      exact Steps.refl _)
    obtain ⟨T4, X4, q4, st4⟩ := X2.hget hexec hown (wk W (.fieldLink "java/lang/String" 9 "java/lang/String" "value" "[B")) hx2.2.1 (g := (mkF m 8 #[.val (.ref x), .val (.int (Int32.ofNat i))] [.ref x])) rfl (rest := []) rfl (hb hbytes d8)
    have hh4 := q4.trans hh2
    have c5 : Steps p.tables e below (s₁.setTop (entryFrame m #[.ref x, .int (Int32.ofNat i)] 2)) (T4.setTop (mkF m 12 #[.val (.ref x), .val (.int (Int32.ofNat i))] [.int (Int32.ofNat i), .ref t])) := (c3.trans (st4 _ (Steps.refl _))).trans (by
      refine XS.iloadN X4.here hexec rfl (hb hbytes d11) rfl ?_
      exact Steps.refl _)
    obtain ⟨v6, T6, X6, E6, g6⟩ := X4.callS hexec (LChA.law l t V i (lo8 (f i)) fm) hown (wks W (staticW "java/lang/String" 495 LChA.yN)) (wk W LChA.tab) (W := 0) (Nat.le_of_ble_eq_true rfl) (Nat.le_of_ble_eq_true rfl) (Nat.le_refl _) (Nat.le_refl _) (g := (mkF m 12 #[.val (.ref x), .val (.int (Int32.ofNat i))] [.int (Int32.ofNat i), .ref t])) rfl (by rw [hml]; rfl) c5 (argsL := [.ref t, .int (Int32.ofNat i)]) (rest := []) rfl rfl (by show 2 * 0 + 0 ≤ _; decide) (hb hbytes d12) (⟨rfl, hx.2.2.2.1.mv X4.warmed.alike hh4, (k2 i hi).1, s3.there X4.warmed.alike hh4, rf⟩)
    obtain ⟨rfl, q6⟩ := E6
    rw [chr8_lo8 hr.1 (k2 i hi).2] at g6
    exact ⟨T6, some (.int (f i)), _, _, _, X6, rfl, rfl, rfl, (fun h => by cases h), ⟨rfl, q6.trans hh4⟩, fun fs hl => Steps.trans g6 (X6.ireturnOut hexec hret (narrow_ch hr.1 hr.2) (Or.inr (Or.inr (Or.inr (Or.inl rfl)))) (hb hbytes d15) hl)⟩
  · exact absurd k0 (by decide)
theorem pays {l : Launch} {R : Room} {p : Program} {e : Env} {below : List Frame} {s : State} {sargs : Array Value} {len W : Nat} (x t : Addr) (V : Cell) (n : Nat) (f : Nat → Int32) (z : Int32) (fm : Value) (i : Nat) (htab : tab.before sargs s = true) (hfr : 4 ≤ R.frames) (hlo : W + 53 ≤ R.locals) :
    Back l R p e below s sargs yN len W (fun A₁ a₁ => A₁.cells + 0 ≤ R.cells ∧ A₁.slots + 0 ≤ R.slots ∧ P x t V n f z fm i a₁ A₁.U) (fun A₁ _ v₁ B₁ => E f i v₁ A₁.U B₁.U ∧ B₁.locs = A₁.locs ++ [] ∧ B₁.cells = A₁.cells + 0 ∧ B₁.slots = A₁.slots + 0) :=
  (law l x t V n f z fm i).pays htab hfr (by omega)
end ChN
end StrChars
namespace StrChars.Road
open Jvm Sem ClassFile Op Lib Jvm.Stand Jvm.Free Jvm.Free.XT
open Jvm.Lib.Cold (StaticIs)
/-- the words of String.charAt(int), the Latin-1 road alone -/
abbrev wordsChN : List Jvm.Cond := [.code ChN.yN ChN.yB 2 (some .char), .initialized ST, .fieldLink ST 9 ST "value" "[B", .fieldLink ST 38 ST "COMPACT_STRINGS" "Z", .fieldLink ST 15 ST "coder" "B", .code IsL.yN IsL.yB 1 (some .boolean), .methodLink ST 492 IsL.yN, .declares IsL.yN, .selects ST IsL.yN IsL.yN, .instanceMethod IsL.yN,
  .methodLink ST 495 LChA.yN, .static LChA.yN, .code LChA.yN LChA.yB 2 (some .char), .initialized "java/lang/StringLatin1", .methodLink "java/lang/StringLatin1" 9 JO.Str_checkIndex.yN, .static JO.Str_checkIndex.yN, .code JO.Str_checkIndex.yN JO.Str_checkIndex.yB 2 none,
  .fieldLink ST 1053 "jdk/internal/util/Preconditions" "SIOOBE_FORMATTER" "Ljava/util/function/BiFunction;", .methodLink ST 1059 JC.PreCheck.yN, .static JC.PreCheck.yN, .code JC.PreCheck.yN JC.PreCheck.yB 3 (some .int), .initialized "jdk/internal/util/Preconditions"]
theorem tabChN_of {a : Array Value} {s : State} (h : ∀ w ∈ wordsChN, w.before a s = true) : ChN.tab.before a s = true := by
  have hp : JC.PreCheck.tab.before a s = true := unparts (wk h (.code JC.PreCheck.yN JC.PreCheck.yB 3 (some .int))) (wks h (.initialized JC.PreCheck.yN.cls :: JC.PreCheck.site))
  have qk := consq hp h
  have hk : JO.Str_checkIndex.tab.before a s = true := unparts (wk qk (.code JO.Str_checkIndex.yN JO.Str_checkIndex.yB 2 none)) (wks qk (.initialized JO.Str_checkIndex.yN.cls :: JO.Str_checkIndex.site))
  have ql := consq hk h
  have hl : LChA.tab.before a s = true := unparts (wk ql (.code LChA.yN LChA.yB 2 (some .char))) (wks ql (.initialized LChA.yN.cls :: LChA.site))
  have hi : IsL.tab.before a s = true := unparts (wk h (.code IsL.yN IsL.yB 1 (some .boolean))) (wks h (.initialized IsL.yN.cls :: IsL.site))
  have q := consq hi (consq hl h)
  exact unparts (wk q (.code ChN.yN ChN.yB 2 (some .char))) (wks q (.initialized ChN.yN.cls :: ChN.site))
theorem movedChN {Z s : State} {a0 args : Array Value} (hZ : Z.Warmed39 s.vm) (hw : ∀ d ∈ wordsChN, d.before a0 Z = true) : ∀ d ∈ wordsChN, d.before args s = true := fun d hd => by
  have t : ∀ d ∈ wordsChN, (d.onTables && d.keepsFace) = true := by decide +kernel
  exact RoadKit.mv hZ (hw d hd) (t d hd)
/-- **charAt(i) OF A LATIN-1 STRING**, i < n: the char -/
theorem chN {p : Program} {l : Launch} {e : Env} {R : Room} {s : State} {args : Array Value} {below : List Frame} {len W : Nat} {Z : State} {a0 : Array Value} {h : Heap} (hZ : Z.Warmed39 s.vm) (hw : ∀ d ∈ wordsChN, d.before a0 Z = true) {kI : Nat} (wi : (Jvm.Cond.instantiable ST kI).before a0 Z = true)
    {x t : Addr} {kb : ClassId} {cs : List Int32} {N2 z : Int32} {vs : List Value} {fm : Value} {i : Nat} {j : Int32} (E : RoadKit.Exa Z h x ST) (V : RoadKit.Fld Z h x ST "value" "[B" (.ref t)) (C : RoadKit.Fld Z h x ST "coder" "B" (.int 0)) (K : RoadKit.Arv Z h t kb .byte N2 vs (.int 0)) (hc : CodA cs 0 N2 vs) (hb : ∀ c ∈ cs, ¬ c < 0 ∧ ¬ (65535 : Int32) < c)
    (S : RoadKit.Sta Z h ST "COMPACT_STRINGS" "Z" (.int z)) (hz : ¬ z = 0) (F : RoadKit.Sta Z h "jdk/internal/util/Preconditions" "SIOOBE_FORMATTER" "Ljava/util/function/BiFunction;" fm) (rf : fm.isRef = true) (l2 : cs.length ≤ 4000) (hi : i < cs.length) (hj : j = Int32.ofNat i) (hfr : 4 ≤ R.frames) (hlo : W + 53 ≤ R.locals) :
    Back l R p e below s args (⟨"java/lang/String", "charAt", "(I)C"⟩ : MethodName) len W (fun P a => a = #[.ref x, .int j] ∧ P.U.heap = h ∧ P.cells + 0 ≤ R.cells ∧ P.slots + 0 ≤ R.slots)
      (fun P _ v B => ∃ L, (v = some (.int (cs.getD i 0)) ∧ L = [] ∧ B.U.heap = h) ∧ B.locs = P.locs ++ L ∧ B.cells = P.cells + 0 ∧ B.slots = P.slots + 0) := by
  subst hj
  intro m meth c P g ig mk a X hg hsize hdg hW hn hp'
  obtain ⟨rfl, rfl, r1, r2⟩ := hp'
  have al : Z.vm.Alike P.U.vm := hZ.alike.trans X.warmed.alike
  obtain ⟨A, hx⟩ := txt_of wi al E V C K hc hb l2
  obtain ⟨v, B, X', ⟨⟨hv, hh⟩, hl, hk, hs⟩, st⟩ := ChN.pays x t A cs.length (fun j => cs.getD j 0) z fm i (tabChN_of (movedChN hZ hw)) hfr hlo m meth c P g ig mk _ X hg hsize hdg hW hn ⟨r1, r2, rfl, hx, hi, sta_is al S, hz, sta_is al F, rf⟩
  exact ⟨v, B, X', ⟨[], ⟨hv, rfl, hh⟩, hl, hk, hs⟩, st⟩
/-- what backV says of its String, as the contracts of this text ask it: cs's low bytes, coder 0 -/
theorem codOf {cs : List Int32} {n : Nat} (hn : cs.length = n) (hb : ∀ c ∈ cs, ¬ 255 < c) : CodA cs 0 (Int32.ofNat n) ((cs.map lo8).map Value.int) := Or.inl ⟨rfl, by rw [hn], by simp [List.map_map, Function.comp_def], hb⟩
end StrChars.Road
end Jvm.Pilot.@@N@@
namespace Jvm.Pilot.@@N@@
open Jvm Jvm.ClassFile Sem Op Lib Jvm.Free Jvm.Stand Jvm.LawKit Jvm.RoadKit Bundle Jvm.Pilot.@@N@@.Jvm.D
theorem own_and255 (x : Int32) : ¬ nar .char ((x &&& (255 : Int32)).toUInt32.toUInt16.toUInt32.toInt32) < 0 ∧ ¬ (255 : Int32) < nar .char ((x &&& (255 : Int32)).toUInt32.toUInt16.toUInt32.toInt32) := by
  have t : ∀ k : Fin 256, ¬ nar .char ((Int32.ofNat k.val).toUInt32.toUInt16.toUInt32.toInt32) < 0 ∧ ¬ (255 : Int32) < nar .char ((Int32.ofNat k.val).toUInt32.toUInt16.toUInt32.toInt32) := by decide +kernel
  have h : (x &&& 255).toBitVec.toNat < 256 := by
    simp only [Int32.toBitVec_and, BitVec.toNat_and]
    exact Nat.lt_succ_of_le Nat.and_le_right
  have e : (x &&& 255) = Int32.ofNat (x &&& 255).toBitVec.toNat := by
    apply Int32.toBitVec_inj.mp
    show _ = BitVec.ofNat 32 _
    rw [BitVec.ofNat_toNat]; simp
  rw [e]
  exact t ⟨_, h⟩
theorem own_up (cs : List Int32) (h : ∀ c ∈ cs, ¬ c < 0 ∧ ¬ (255 : Int32) < c) : ∀ c ∈ cs, ¬ c < 0 ∧ ¬ (65535 : Int32) < c := fun c hc => ⟨(h c hc).1, fun q => (h c hc).2 (by rw [Int32.lt_iff_toInt_lt] at q ⊢; have e1 : (65535 : Int32).toInt = 65535 := rfl; have e2 : (255 : Int32).toInt = 255 := rfl; omega)⟩
theorem own_n32 {i : Nat} (h : i ≤ 4000) : i.toInt32.toNatClampNeg = i := by
  simp only [Int32.toNatClampNeg, len_toInt (show i < 2 ^ 31 by omega)]; rfl
theorem own_nn {i : Nat} (h : i ≤ 4000) : ¬ i.toInt32 < 0 := by
  rw [Int32.lt_iff_toInt_lt, len_toInt (by omega)]
  have e0 : (0 : Int32).toInt = 0 := by decide
  omega
theorem own_lt32 {i j : Nat} (hi : i ≤ 4000) (hj : j ≤ 4000) : (i.toInt32 < j.toInt32) ↔ i < j := by
  rw [Int32.lt_iff_toInt_lt, len_toInt (by omega), len_toInt (by omega)]; omega
theorem own_le32 {i j : Nat} (hi : i ≤ 4000) (hj : j ≤ 4000) : (i.toInt32 ≤ j.toInt32) ↔ i ≤ j := by
  rw [Int32.le_iff_toInt_le, len_toInt (by omega), len_toInt (by omega)]; omega
theorem own_inj32 {i j : Nat} (hi : i ≤ 4000) (hj : j ≤ 4000) (q : i.toInt32 = j.toInt32) : i = j := by
  have := congrArg Int32.toInt q
  rw [len_toInt (by omega), len_toInt (by omega)] at this
  omega
theorem own_add1 {i : Nat} (hi : i ≤ 4000) : i.toInt32 + 1 = (i + 1).toInt32 := by
  rw [← Int32.toInt_inj, len_toInt (by omega)]
  have h1 := c_iadd i.toInt32 1
  have e1 : (1 : Int32).toInt = 1 := by decide
  have e2 := len_toInt (n := i) (by omega)
  have r := rng32 (i.toInt32 + 1)
  omega
theorem own_shl {i : Nat} (h : i ≤ 4) : i.toInt32 <<< ((1 : Int32) &&& 31) = (2 * i).toInt32 := by
  have t : ∀ k : Fin 5, k.val.toInt32 <<< ((1 : Int32) &&& 31) = (2 * k.val).toInt32 := by decide +kernel
  exact t ⟨i, by omega⟩
theorem own_nar2 (y : Int32) : nar .char (nar .char y) = nar .char y := by
  have e : ∀ u : UInt16, u.toUInt32.toInt32.toUInt32.toUInt16 = u := fun u => UInt16.toUInt16_toUInt32 u
  show (y.toUInt32.toUInt16.toUInt32.toInt32).toUInt32.toUInt16.toUInt32.toInt32 = y.toUInt32.toUInt16.toUInt32.toInt32
  rw [e]
theorem own_nc {x : Int32} (h0 : ¬ x < 0) (h1 : ¬ (65535 : Int32) < x) : nar .char x = x := by
  have q := StrChars.pair_says h0 h1
  calc nar .char x = nar .char (StrChars.pairCh (StrChars.lo8 x) (StrChars.hi8 x)) := by rw [q]
    _ = StrChars.pairCh (StrChars.lo8 x) (StrChars.hi8 x) := own_nar2 _
    _ = x := q
theorem own_b0 (x : Int32) : nar .byte ((x >>> ((0 : Int32) &&& 31)).toInt8.toInt32) = StrChars.lo8 x := by
  rw [StrChars.shr0]; simp [nar, StrChars.lo8]
theorem own_b8 (x : Int32) : nar .byte ((x >>> ((8 : Int32) &&& 31)).toInt8.toInt32) = StrChars.hi8 x := by
  simp [nar, StrChars.hi8, StrChars.lo8]
def own_wb : Nat → List Int32 → List Value
  | _, [] => []
  | 0, _ :: cs => .int 0 :: .int 0 :: own_wb 0 cs
  | i + 1, c :: cs => .int (StrChars.lo8 c) :: .int (StrChars.hi8 c) :: own_wb i cs
theorem own_wb_len : ∀ (cs : List Int32) (i : Nat), (own_wb i cs).length = 2 * cs.length
  | [], _ => by simp [own_wb]
  | _ :: cs, 0 => by simp only [own_wb, List.length_cons, own_wb_len cs 0]; omega
  | _ :: cs, i + 1 => by simp only [own_wb, List.length_cons, own_wb_len cs i]; omega
theorem own_wb0 : ∀ (cs : List Int32) (k : Nat), (own_wb 0 cs).getD k (.int 0) = ([] : List Value).getD k (.int 0)
  | [], _ => rfl
  | _ :: _, 0 => rfl
  | _ :: _, 1 => rfl
  | _ :: cs, k + 2 => own_wb0 cs k
theorem own_wb_set : ∀ (cs : List Int32) (i : Nat), i < cs.length → ((own_wb i cs).set (2 * i) (.int (StrChars.lo8 (cs.getD i 0)))).set (2 * i + 1) (.int (StrChars.hi8 (cs.getD i 0))) = own_wb (i + 1) cs
  | [], _, h => absurd h (Nat.not_lt_zero _)
  | _ :: cs, 0, _ => by cases cs <;> rfl
  | c :: cs, i + 1, h => by
    have q := own_wb_set cs i (by simpa using h)
    rw [show 2 * (i + 1) = 2 * i + 1 + 1 from by omega]
    simp only [own_wb, List.set_cons_succ, List.getD_cons_succ]
    rw [q]
theorem own_wb_fin : ∀ cs : List Int32, own_wb cs.length cs = StrChars.Road.wideBytes cs
  | [] => rfl
  | c :: cs => by simp only [List.length_cons, own_wb, StrChars.Road.wideBytes, own_wb_fin cs]
theorem own_gm (xs : List Int32) (i : Nat) (h : i < xs.length) : (xs.map Value.int).getD i (.int (0 : Int32)) = .int (xs.getD i 0) := by
  simp [List.getD_eq_getElem?_getD, h]
theorem own_mem {xs : List Int32} {i : Nat} (h : i < xs.length) : xs.getD i 0 ∈ xs := by
  have e : xs.getD i 0 = xs[i] := by simp [List.getD_eq_getElem?_getD, h]
  rw [e]; exact List.getElem_mem _
theorem own_inb {cl : Cell} {n i : Nat} (S : cl.slots.size = n) (hi : i < n) (hn : n ≤ 4000) : ¬ (i.toInt32 < 0 ∨ cl.slots.size ≤ i.toInt32.toNatClampNeg) := by
  rw [own_n32 (by omega)]
  exact fun q => q.elim (own_nn (by omega)) (fun q => by omega)
/-- what getChar's and charAt's UTF-16 roads ask of the i-th char -/
theorem own_g16 {xs : List Int32} {i : Nat} (h4 : xs.length ≤ 4) (hi : i < xs.length) (hc : ∀ c ∈ xs, ¬ c < 0 ∧ ¬ (65535 : Int32) < c) :
    (¬ (i.toInt32 <<< ((1 : Int32) &&& 31)) < 0 ∧ (i.toInt32 <<< ((1 : Int32) &&& 31)) < (2 * xs.length).toInt32) ∧ (StrChars.Road.wideBytes xs).getD (i.toInt32 <<< ((1 : Int32) &&& 31)).toNatClampNeg (.int 0) = .int (StrChars.lo8 (xs.getD i 0)) ∧
    (¬ ((i.toInt32 <<< ((1 : Int32) &&& 31)) + 1) < 0 ∧ ((i.toInt32 <<< ((1 : Int32) &&& 31)) + 1) < (2 * xs.length).toInt32) ∧ (StrChars.Road.wideBytes xs).getD ((i.toInt32 <<< ((1 : Int32) &&& 31)) + 1).toNatClampNeg (.int 0) = .int (StrChars.hi8 (xs.getD i 0)) ∧
    nar .char (StrChars.pairCh (StrChars.lo8 (xs.getD i 0)) (StrChars.hi8 (xs.getD i 0))) = xs.getD i 0 ∧ nar .char (xs.getD i 0) = xs.getD i 0 ∧ i.toInt32 < ((2 * xs.length).toInt32 >>> ((1 : Int32) &&& 31)) := by
  rw [own_shl (by omega), own_add1 (by omega), own_n32 (by omega), own_n32 (by omega)]
  have q := hc _ (own_mem hi)
  have e := own_nc q.1 q.2
  refine ⟨⟨own_nn (by omega), (own_lt32 (by omega) (by omega)).mpr (by omega)⟩, StrChars.Road.wide_lo _ _ _ hi, ⟨own_nn (by omega), (own_lt32 (by omega) (by omega)).mpr (by omega)⟩, StrChars.Road.wide_hi _ _ _ hi, by rw [StrChars.pair_says q.1 q.2]; exact e, e, ?_⟩
  have s := StrChars.shr1 (n := xs.length) (by omega)
  show i.toInt32 < (Int32.ofNat (2 * xs.length) >>> ((1 : Int32) &&& 31))
  rw [s]
  exact (own_lt32 (by omega) (by omega)).mpr hi
/-- a String of either coder that spells cs -/
def own_Sx (Z : State) (h : Heap) (a : Addr) (cs : List Int32) : Prop := ∃ (t : Addr) (kb : ClassId) (cd N2 : Int32) (vs : List Value), Exa Z h a "java/lang/String" ∧ Fld Z h a "java/lang/String" "value" "[B" (.ref t) ∧ Fld Z h a "java/lang/String" "coder" "B" (.int cd) ∧ Arv Z h t kb .byte N2 vs (.int 0) ∧ StrChars.Road.CodA cs cd N2 vs ∧ (∀ c ∈ cs, ¬ c < 0 ∧ ¬ (65535 : Int32) < c) ∧ cs.length ≤ 4000 ∧ (cd = 1 → cs.length ≤ 4)
theorem own_Sx.ext {Z : State} {h h' : Heap} {a : Addr} {cs : List Int32} (S : own_Sx Z h a cs) (E : Ext h h') : own_Sx Z h' a cs := by
  obtain ⟨t, kb, cd, N2, vs, h1, h2, h3, h4, h5⟩ := S
  exact ⟨t, kb, cd, N2, vs, h1.ext E, h2.ext E, h3.ext E, h4.ext E, h5⟩
theorem own_Sx.keep {Z : State} {h h' : Heap} {a : Addr} {cs : List Int32} (S : own_Sx Z h a cs) (K : Keep h h' []) (q : a ∉ ([] : List Addr)) : own_Sx Z h' a cs := S.ext ⟨K.1, fun x c r => K.2.1 x c r (List.not_mem_nil)⟩
theorem own_Sx.exa {Z : State} {h : Heap} {a : Addr} {cs : List Int32} (S : own_Sx Z h a cs) : Exa Z h a "java/lang/String" := by
  obtain ⟨t, kb, cd, N2, vs, h1, -⟩ := S
  exact h1
theorem own_Sx.lt {Z : State} {h : Heap} {a : Addr} {cs : List Int32} (S : own_Sx Z h a cs) : a < h.size := S.exa.lt
theorem own_Sx.ofSt {Z : State} {h : Heap} {a : Addr} {cs : List Int32} (S : own_St Z h a cs) : own_Sx Z h a cs := by
  obtain ⟨t, kb, h1, h2, h3, h4, h5, h6⟩ := S
  exact ⟨t, kb, 0, _, _, h1, h2, h3, h4, StrChars.Road.codOf rfl fun c hc => (h5 c hc).2, own_up cs h5, h6, fun q => absurd q (by decide)⟩
def own_okP (x : Int32) : Prop := (¬ x < 65 ∧ ¬ (90 : Int32) < x) ∨ (¬ x < 97 ∧ ¬ (122 : Int32) < x) ∨ (¬ x < 48 ∧ ¬ (57 : Int32) < x) ∨ x = 46 ∨ x = 95 ∨ x = 45
instance (x : Int32) : Decidable (own_okP x) := inferInstanceAs (Decidable ((¬ x < 65 ∧ ¬ (90 : Int32) < x) ∨ (¬ x < 97 ∧ ¬ (122 : Int32) < x) ∨ (¬ x < 48 ∧ ¬ (57 : Int32) < x) ∨ x = 46 ∨ x = 95 ∨ x = 45))
def own_ok01 (x : Int32) : Int32 := if own_okP x then 1 else 0
def own_wf (cs : List Int32) : Prop := 0 < cs.length ∧ cs.length ≤ 128 ∧ ∀ c ∈ cs, own_okP c
instance (cs : List Int32) : Decidable (own_wf cs) := inferInstanceAs (Decidable (0 < cs.length ∧ cs.length ≤ 128 ∧ ∀ c ∈ cs, own_okP c))
theorem own_ok128 {x : Int32} (h : ¬ x < 128) : ¬ own_okP x := by
  unfold own_okP
  simp only [Int32.lt_iff_toInt_lt, ← Int32.toInt_inj] at h ⊢
  have e1 : (128 : Int32).toInt = 128 := by decide
  have e2 : (90 : Int32).toInt = 90 := by decide
  have e3 : (122 : Int32).toInt = 122 := by decide
  have e4 : (57 : Int32).toInt = 57 := by decide
  have e5 : (46 : Int32).toInt = 46 := by decide
  have e6 : (95 : Int32).toInt = 95 := by decide
  have e7 : (45 : Int32).toInt = 45 := by decide
  omega
theorem own_128 {n : Nat} (h : n ≤ 4000) : ((128 : Int32) < n.toInt32) ↔ 128 < n := own_lt32 (i := 128) (by omega) h
theorem own_okAll {xs : List Int32} {i : Nat} (hi : i = xs.length) (h : ∀ k, k < i → own_okP (xs.getD k 0)) : ∀ c ∈ xs, own_okP c := by
  intro c hc
  obtain ⟨k, hk, rfl⟩ := List.getElem_of_mem hc
  have := h k (by omega)
  have e : xs.getD k 0 = xs[k] := by simp [List.getD_eq_getElem?_getD, hk]
  rwa [e] at this
theorem own_first : ∀ xs : List Int32, ¬ (∀ c ∈ xs, ¬ (255 : Int32) < c) → ∃ j, j < xs.length ∧ (255 : Int32) < xs.getD j 0 ∧ ∀ i, i < j → ¬ (255 : Int32) < xs.getD i 0
  | [], h => absurd (fun _ q => nomatch q) h
  | c :: cs, h => by
    by_cases q : (255 : Int32) < c
    · exact ⟨0, Nat.succ_pos _, q, fun i hi => absurd hi (Nat.not_lt_zero i)⟩
    · obtain ⟨j, h1, h2, h3⟩ := own_first cs fun r => h fun d hd => (List.mem_cons.mp hd).elim (fun u => u ▸ q) (r d)
      refine ⟨j + 1, Nat.succ_lt_succ h1, h2, fun i hi => ?_⟩
      cases i with
      | zero => exact q
      | succ i => exact h3 i (by omega)
theorem own_rngc (x : Int32) : ¬ nar .char x < 0 ∧ ¬ (65535 : Int32) < nar .char x := by
  have h := fits_nar_char x
  simp only [fits, Bool.and_eq_true, decide_eq_true_eq] at h
  rw [Int32.le_iff_toInt_le, Int32.le_iff_toInt_le] at h
  rw [Int32.lt_iff_toInt_lt, Int32.lt_iff_toInt_lt]
  omega
/-- an array of n bytes, whatever they are -/
def own_By (Z : State) (h : Heap) (a : Addr) (n : Nat) : Prop := ∃ cl : Cell, Arr Z h a cl .byte ∧ cl.slots.size = n
theorem own_coder {n : Nat} (h0 : 0 < n) (h4 : n ≤ 4) : nar .byte ((((n.toInt32 - (2 * n).toInt32).toUInt32 >>> ((31 : Int32) &&& 31).toUInt32).toInt32).toInt8.toInt32) = 1 := by
  have t : ∀ k : Fin 5, k.val = 0 ∨ nar .byte ((((k.val.toInt32 - (2 * k.val).toInt32).toUInt32 >>> ((31 : Int32) &&& 31).toUInt32).toInt32).toInt8.toInt32) = 1 := by decide +kernel
  rcases t ⟨n, by omega⟩ with q | q
  · exact absurd (show n = 0 from q) (by omega)
  · exact q
theorem own_orR {args : Array Value} {first s : State} {o : Option Outcome} {idx : List Nat} {G X : Cond} {P : Prop} [Decidable P] (hG : G.value args first o s idx = some (decide P)) (hP : ¬ P) (h : (Cond.or G X).value args first o s idx = some true) : X.value args first o s idx = some true := by
  rw [Cond.or_of_right (by rw [hG, decide_eq_false hP])] at h; exact h
theorem own_el {s : State} {t : Term} {args : Array Value} {x : Addr} {cl : Cell} (ht : ∀ idx, t.eval args s none idx s = some (.ref x)) (hc : s.heap[x]? = some cl) {i : Nat} (hi : i < 2 ^ 31) {v : Int32} (w : (Cond.eq (.elem t (.index 0)) (.int v)).value args s none s [i] = some true) : cl.slots[i]? = some (.int v) := by
  have q := own_evi (u := .int v) rfl w
  have r := (elem_in q (ht [i]) (Term.index_eval _) hc).2
  rw [own_nat32 hi] at r
  exact r
theorem own_allk {s : State} {t : Term} {args : Array Value} {x : Addr} {cl : Cell} {b : Cond} {n : Int32} (ht : t.eval args s none [] s = some (.ref x)) (hc : s.heap[x]? = some cl) (hl : (Cond.eq (.length t) (.int n)).value args s none s [] = some true) (h : (Cond.all t b).value args s none s [] = some true) : ∀ i, i < cl.slots.size → b.value args s none s [i] = some true := by
  have e := own_evi (k := n) (u := .int n) rfl hl
  obtain ⟨x', cl', e1, e2, e3⟩ := Term.length_spec e
  cases ht.symm.trans e1
  have e4 : cl' = cl := by
    simp only [State.arrayAt?, Option.bind_eq_bind, hc, Option.bind_some] at e2
    obtain ⟨k1, -, e2⟩ := Option.bind_eq_some_iff.mp e2
    split at e2
    · cases e2
    · split at e2
      · exact (Option.some.inj e2).symm
      · cases e2
  subst e4
  exact fun i hi => Cond.all_elim ht e2 h i hi
theorem own_r3 {s : State} {t : Term} {args : Array Value} {x : Addr} {cl : Cell} (ht : ∀ idx, t.eval args s none idx s = some (.ref x)) (hc : s.heap[x]? = some cl) {k : Nat} (l h : Nat) {v lo hi : Int32} (el : lo = l.toInt32) (eh : hi = h.toInt32) (hk : k < 128) (hl : l ≤ k) (hh : k < h) (h4 : h ≤ 4000)
    (a : (Cond.or (.lt (.index 0) (.int lo)) (.or (.le (.int hi) (.index 0)) (.eq (.elem t (.index 0)) (.int v)))).value args s none s [k] = some true) : cl.slots[k]? = some (.int v) := by
  subst el eh
  have i0 : (Term.index 0).eval args s none [k] s = some (.int k.toInt32) := Term.index_eval k
  have q1 := own_orR (Cond.lt_ints i0 (Term.int_eval _)) (fun q => by have := (own_lt32 (by omega) (by omega)).mp q; omega) a
  have q2 := own_orR (Cond.le_ints (Term.int_eval _) i0) (fun q => by have := (own_le32 (by omega) (by omega)).mp q; omega) q1
  exact own_el ht hc (by omega) q2
theorem own_r2l {s : State} {t : Term} {args : Array Value} {x : Addr} {cl : Cell} (ht : ∀ idx, t.eval args s none idx s = some (.ref x)) (hc : s.heap[x]? = some cl) {k : Nat} (h : Nat) {v hi : Int32} (eh : hi = h.toInt32) (hk : k < 128) (hh : k < h) (h4 : h ≤ 4000)
    (a : (Cond.or (.le (.int hi) (.index 0)) (.eq (.elem t (.index 0)) (.int v))).value args s none s [k] = some true) : cl.slots[k]? = some (.int v) := by
  subst eh
  have i0 : (Term.index 0).eval args s none [k] s = some (.int k.toInt32) := Term.index_eval k
  have q2 := own_orR (Cond.le_ints (Term.int_eval _) i0) (fun q => by have := (own_le32 (by omega) (by omega)).mp q; omega) a
  exact own_el ht hc (by omega) q2
theorem own_r2r {s : State} {t : Term} {args : Array Value} {x : Addr} {cl : Cell} (ht : ∀ idx, t.eval args s none idx s = some (.ref x)) (hc : s.heap[x]? = some cl) {k : Nat} (l : Nat) {v lo : Int32} (el : lo = l.toInt32) (hk : k < 128) (hl : l ≤ k)
    (a : (Cond.or (.lt (.index 0) (.int lo)) (.eq (.elem t (.index 0)) (.int v))).value args s none s [k] = some true) : cl.slots[k]? = some (.int v) := by
  subst el
  have i0 : (Term.index 0).eval args s none [k] s = some (.int k.toInt32) := Term.index_eval k
  have q1 := own_orR (Cond.lt_ints i0 (Term.int_eval _)) (fun q => by have := (own_lt32 (by omega) (by omega)).mp q; omega) a
  exact own_el ht hc (by omega) q1
theorem own_okT (k : Nat) (hk : k < 128) : own_ok01 k.toInt32 = if k < 45 then 0 else if k = 45 then 1 else if k = 46 then 1 else if k = 47 then 0 else if k < 58 then 1 else if k < 65 then 0 else if k < 91 then 1 else if k < 95 then 0 else if k = 95 then 1 else if k = 96 then 0 else if k < 123 then 1 else 0 := by
  have t : ∀ k : Fin 128, own_ok01 k.val.toInt32 = if k.val < 45 then 0 else if k.val = 45 then 1 else if k.val = 46 then 1 else if k.val = 47 then 0 else if k.val < 58 then 1 else if k.val < 65 then 0 else if k.val < 91 then 1 else if k.val < 95 then 0 else if k.val = 95 then 1 else if k.val = 96 then 0 else if k.val < 123 then 1 else 0 := by decide +kernel
  exact t ⟨k, hk⟩
theorem own_tbl {s : State} {t : Term} {args : Array Value} {x : Addr} {cl : Cell} (ht : ∀ idx, t.eval args s none idx s = some (.ref x)) (hc : s.heap[x]? = some cl) (hs : cl.slots.size = 128)
    (a1 : ∀ i, i < cl.slots.size → (Cond.or (.le (.int 45) (.index 0)) (.eq (.elem t (.index 0)) (.int 0))).value args s none s [i] = some true)
    (e45 : cl.slots[(45 : Int32).toNatClampNeg]? = some (.int 1)) (e46 : cl.slots[(46 : Int32).toNatClampNeg]? = some (.int 1)) (e47 : cl.slots[(47 : Int32).toNatClampNeg]? = some (.int 0))
    (a2 : ∀ i, i < cl.slots.size → (Cond.or (.lt (.index 0) (.int 48)) (.or (.le (.int 58) (.index 0)) (.eq (.elem t (.index 0)) (.int 1)))).value args s none s [i] = some true)
    (a3 : ∀ i, i < cl.slots.size → (Cond.or (.lt (.index 0) (.int 58)) (.or (.le (.int 65) (.index 0)) (.eq (.elem t (.index 0)) (.int 0)))).value args s none s [i] = some true)
    (a4 : ∀ i, i < cl.slots.size → (Cond.or (.lt (.index 0) (.int 65)) (.or (.le (.int 91) (.index 0)) (.eq (.elem t (.index 0)) (.int 1)))).value args s none s [i] = some true)
    (a5 : ∀ i, i < cl.slots.size → (Cond.or (.lt (.index 0) (.int 91)) (.or (.le (.int 95) (.index 0)) (.eq (.elem t (.index 0)) (.int 0)))).value args s none s [i] = some true)
    (e95 : cl.slots[(95 : Int32).toNatClampNeg]? = some (.int 1)) (e96 : cl.slots[(96 : Int32).toNatClampNeg]? = some (.int 0))
    (a6 : ∀ i, i < cl.slots.size → (Cond.or (.lt (.index 0) (.int 97)) (.or (.le (.int 123) (.index 0)) (.eq (.elem t (.index 0)) (.int 1)))).value args s none s [i] = some true)
    (a7 : ∀ i, i < cl.slots.size → (Cond.or (.lt (.index 0) (.int 123)) (.eq (.elem t (.index 0)) (.int 0))).value args s none s [i] = some true) :
    ∀ k, k < 128 → cl.slots[k]? = some (.int (own_ok01 k.toInt32)) := by
  intro k hk
  rw [own_okT k hk]
  have hk' : k < cl.slots.size := by omega
  by_cases c1 : k < 45
  · rw [if_pos c1]
    exact own_r2l ht hc 45 (by decide) hk (by omega) (by omega) (a1 k hk')
  rw [if_neg c1]
  by_cases c2 : k = 45
  · rw [if_pos c2]
    rw [c2]; exact e45
  rw [if_neg c2]
  by_cases c3 : k = 46
  · rw [if_pos c3]
    rw [c3]; exact e46
  rw [if_neg c3]
  by_cases c4 : k = 47
  · rw [if_pos c4]
    rw [c4]; exact e47
  rw [if_neg c4]
  by_cases c5 : k < 58
  · rw [if_pos c5]
    exact own_r3 ht hc 48 58 (by decide) (by decide) hk (by omega) (by omega) (by omega) (a2 k hk')
  rw [if_neg c5]
  by_cases c6 : k < 65
  · rw [if_pos c6]
    exact own_r3 ht hc 58 65 (by decide) (by decide) hk (by omega) (by omega) (by omega) (a3 k hk')
  rw [if_neg c6]
  by_cases c7 : k < 91
  · rw [if_pos c7]
    exact own_r3 ht hc 65 91 (by decide) (by decide) hk (by omega) (by omega) (by omega) (a4 k hk')
  rw [if_neg c7]
  by_cases c8 : k < 95
  · rw [if_pos c8]
    exact own_r3 ht hc 91 95 (by decide) (by decide) hk (by omega) (by omega) (by omega) (a5 k hk')
  rw [if_neg c8]
  by_cases c9 : k = 95
  · rw [if_pos c9]
    rw [c9]; exact e95
  rw [if_neg c9]
  by_cases c10 : k = 96
  · rw [if_pos c10]
    rw [c10]; exact e96
  rw [if_neg c10]
  by_cases c11 : k < 123
  · rw [if_pos c11]
    exact own_r3 ht hc 97 123 (by decide) (by decide) hk (by omega) (by omega) (by omega) (a6 k hk')
  rw [if_neg c11]
  exact own_r2r ht hc 123 (by decide) hk (by omega) (a7 k hk')
theorem own_wS : ∀ d ∈ Bundle.stringAtoms, d ∈ tables_1 := by decide +kernel
theorem own_wB : ∀ d ∈ StrChars.Road.words, d ∈ tables_1 := by decide +kernel
theorem own_wC : ∀ d ∈ StrChars.Road.wordsChN, d ∈ tables_1 := by decide +kernel
theorem own_wL : ∀ d ∈ StrChars.Road.wordsLen, d ∈ tables_1 := by decide +kernel
theorem own_wM : ∀ d ∈ StrChars.Road.wordsEmp, d ∈ tables_1 := by decide +kernel
theorem own_lenS {p : Program} {l : Launch} {e : Env} {R : Room} {s : State} {args : Array Value} {below : List Frame} {len W : Nat} {Z : State} {a0 : Array Value} {h : Heap} (hZ : Z.Warmed39 s.vm) (hw : ∀ d ∈ tables_1, d.before a0 Z = true)
    {x : Addr} {cs : List Int32} (A : own_Sx Z h x cs) {z : Int32} (hz : cs.length.toInt32 = z) {g : Int32} (S : Sta Z h "java/lang/String" "COMPACT_STRINGS" "Z" (.int g)) (hg : ¬ g = 0) (hfr : 2 ≤ R.frames) (hlo : W + 25 ≤ R.locals) :
    Back l R p e below s args (⟨"java/lang/String", "length", "()I"⟩ : MethodName) len W (fun P a => a = #[.ref x] ∧ P.U.heap = h ∧ P.cells + 0 ≤ R.cells ∧ P.slots + 0 ≤ R.slots)
      (fun P _ v B => ∃ L, (v = some (.int z) ∧ L = [] ∧ B.U.heap = h) ∧ B.locs = P.locs ++ L ∧ B.cells = P.cells + 0 ∧ B.slots = P.slots + 0) := by
  obtain ⟨t, kb, cd, N2, vs, h1, h2, h3, h4, h5, h6, h7, h8⟩ := A
  subst hz
  exact StrChars.Road.lenW hZ (fun d hd => hw d (own_wL d hd)) (kI := 4) (hw _ (List.mem_of_getElem? (i := 4) rfl)) h1 h2 h3 h4 h5 h6 S hg h7 hfr hlo
theorem own_empS {p : Program} {l : Launch} {e : Env} {R : Room} {s : State} {args : Array Value} {below : List Frame} {len W : Nat} {Z : State} {a0 : Array Value} {h : Heap} (hZ : Z.Warmed39 s.vm) (hw : ∀ d ∈ tables_1, d.before a0 Z = true)
    {x : Addr} {cs : List Int32} (A : own_Sx Z h x cs) (hfr : 1 ≤ R.frames) (hlo : W + 12 ≤ R.locals) :
    Back l R p e below s args (⟨"java/lang/String", "isEmpty", "()Z"⟩ : MethodName) len W (fun P a => a = #[.ref x] ∧ P.U.heap = h ∧ P.cells + 0 ≤ R.cells ∧ P.slots + 0 ≤ R.slots)
      (fun P _ v B => ∃ L, (v = some (.int (if cs.length = 0 then 1 else 0)) ∧ L = [] ∧ B.U.heap = h) ∧ B.locs = P.locs ++ L ∧ B.cells = P.cells + 0 ∧ B.slots = P.slots + 0) := by
  obtain ⟨t, kb, cd, N2, vs, h1, h2, h3, h4, h5, h6, h7, h8⟩ := A
  exact StrChars.Road.empW hZ (fun d hd => hw d (own_wM d hd)) (kI := 4) (hw _ (List.mem_of_getElem? (i := 4) rfl)) h1 h2 h3 h4 h5 h6 h7 hfr hlo
theorem d27_0 : decode jdk_52_method_6_code 0 = .ok (.aload_n 0, 1) := by decide +kernel
theorem d27_1 : decode jdk_52_method_6_code 1 = .ok (.arraylength, 1) := by decide +kernel
theorem d27_2 : decode jdk_52_method_6_code 2 = .ok (.iconst 1, 1) := by decide +kernel
theorem d27_3 : decode jdk_52_method_6_code 3 = .ok (.ishr, 1) := by decide +kernel
theorem d27_4 : decode jdk_52_method_6_code 4 = .ok (.ireturn, 1) := by decide +kernel
theorem pn_0 : plainName "java/lang/StringUTF16" = true := by first | (simp [plainName, overriddenIn]; done) | decide +kernel
theorem ef_27 (m : MethodId) (vt : Addr) : entryFrame m #[(.ref vt)] 1 = mkF m 0 #[rv vt] [] := by first | (simp [entryFrame, mkF, argsToLocals, Value.category]; done) | rfl
def Q27 (Z : State) (vt : Addr) (kb : ClassId) (N2 : Int32) (vs : List Value) (h0 : Heap) (n0 : Nat) (v : Option Value) (h : Heap) (L : List Loc) : Prop := v = some (.int (N2 >>> ((1 : Int32) &&& 31))) ∧ Fr n0 L ∧ h = h0
set_option maxRecDepth 65536 in
set_option maxHeartbeats 40000000 in
theorem rm27 (l : Launch) (Z : State) (a0 : Array Value) (hw : ∀ d ∈ tables_1, d.before a0 Z = true) (ws : List Jvm.Cond) (vt : Addr) (kb : ClassId) (N2 : Int32) (vs : List Value) (h0 : Heap) (n0 : Nat) (Z0 : n0 ≤ h0.size) (Vb : Arv Z h0 vt kb .byte N2 vs (.int 0)) :
    MetFree l (⟨"java/lang/StringUTF16", "length", "([B)I"⟩ : MethodName) (head1 (Jvm.Cond.code (⟨"java/lang/StringUTF16", "length", "([B)I"⟩ : MethodName) jdk_52_method_6_code 1 (some .int) :: ws) ({ frames := 0, cells := 0, slots := 0, locals := 0 } : Room)) (fun a U => a = #[(.ref vt)] ∧ Z.Warmed39 U.vm ∧ U.heap = h0) (fun _ _ _ _ _ => True) (fun _ U o U' => ∃ v L, o = .returned v ∧ Q27 Z vt kb N2 vs h0 n0 v U'.heap L ∧ FrameEnd U o U' L ({ frames := 0, cells := 0, slots := 0, locals := 0 } : Room).cells ({ frames := 0, cells := 0, slots := 0, locals := 0 } : Room).slots) := by
  refine MetFree.of_bodySF (plainFor_of_name pn_0) hisR ?_
  intro p e s m args below meth c s₁ Bd hml0 hP hK
  obtain ⟨rfl, hZ, hh⟩ := hP
  have hx := Bd.exec
  have hby := Bd.bytes
  have hml : c.maxLocals = 1 := hml0
  have hown : s.vm.findClass "java/lang/StringUTF16" = some m.cls := findClass_of_methodNamed Bd.named
  have hnm := (name_of_methodNamed Bd.named Bd.method).1
  have hlk : meth.locks = false := Bd.notSynchronized
  have hrt := Bd.returns
  have X0 : Stand p l e ({ frames := 0, cells := 0, slots := 0, locals := 0 } : Room) s m #[(.ref vt)] below meth c s₁ [] 0 0 := Stand.of_body Bd
  have e0 : s₁.heap = h0 := by rw [← hh, Bd.state]; rfl
  have N0 := Fr.nil n0
  show own_Endz p.tables e below (own_EndQ s ({ frames := 0, cells := 0, slots := 0, locals := 0 } : Room).cells ({ frames := 0, cells := 0, slots := 0, locals := 0 } : Room).slots (Q27 Z vt kb N2 vs h0 n0)) (s₁.setTop (entryFrame m #[(.ref vt)] 1))
  refine own_cast (ef_27 m vt) ?_
  refine own_go (b := s₁.setTop (mkF m 1 #[rv vt] [(.ref vt)])) (fun t k => XS.aloadN X0.here hx rfl (hb hby d27_0) rfl rfl k) ?_
  obtain ⟨cl1, Ar1, qc1, Sz1, Ng1, Hs1, Ft1⟩ := id Vb
  refine own_go (b := s₁.setTop (mkF m 2 #[rv vt] [(.int (cl1.slots.size.toInt32))])) (fun t k => X0.arraylength hx (own_at e0 Ar1.1) (State.isArrayOf_alike hZ.alike Ar1.2.1) (g := (mkF m 1 #[rv vt] [(.ref vt)])) rfl rfl (hb hby d27_1) t k) ?_
  rw [(len_of Sz1 Ng1)]
  refine own_go (b := s₁.setTop (mkF m 3 #[rv vt] [(.int 1), (.int N2)])) (fun t k => XS.iconst X0.here hx rfl (hb hby d27_2) k) ?_
  refine own_go (b := s₁.setTop (mkF m 4 #[rv vt] [(.int (N2 >>> ((1 : Int32) &&& 31)))])) (fun t k => XS.ishr X0.here hx rfl (hb hby d27_3) rfl k) ?_
  exact own_retI X0 hx hlk hrt (hb hby d27_4) (Nat.le_of_ble_eq_true rfl) (Nat.le_of_ble_eq_true rfl) (⟨by first | rfl | (simp only [if_true, if_true, if_false]; done) | (simp only [if_true, if_true, if_false]; rfl) | (simp []; done) | (simp []; rfl), N0, e0⟩)
theorem d19_0 : decode jdk_41_method_11_code 0 = .ok (.iload_n 0, 1) := by decide +kernel
theorem d19_1 : decode jdk_41_method_11_code 1 = .ok (.ifCond .lt 8, 3) := by decide +kernel
theorem d19_4 : decode jdk_41_method_11_code 4 = .ok (.iload_n 0, 1) := by decide +kernel
theorem d19_5 : decode jdk_41_method_11_code 5 = .ok (.iload_n 1, 1) := by decide +kernel
theorem d19_6 : decode jdk_41_method_11_code 6 = .ok (.if_icmp .lt 10, 3) := by decide +kernel
theorem d19_9 : decode jdk_41_method_11_code 9 = .ok (.aload_n 2, 1) := by decide +kernel
theorem d19_10 : decode jdk_41_method_11_code 10 = .ok (.iload_n 0, 1) := by decide +kernel
theorem d19_11 : decode jdk_41_method_11_code 11 = .ok (.iload_n 1, 1) := by decide +kernel
theorem d19_12 : decode jdk_41_method_11_code 12 = .ok (.invokestatic 95, 3) := by decide +kernel
theorem d19_15 : decode jdk_41_method_11_code 15 = .ok (.athrow, 1) := by decide +kernel
theorem d19_16 : decode jdk_41_method_11_code 16 = .ok (.iload_n 0, 1) := by decide +kernel
theorem d19_17 : decode jdk_41_method_11_code 17 = .ok (.ireturn, 1) := by decide +kernel
theorem pn_1 : plainName "jdk/internal/util/Preconditions" = true := by first | (simp [plainName, overriddenIn]; done) | decide +kernel
theorem ef_19 (m : MethodId) (ii : Int32) (nn : Int32) (fm : Value) (h_fm : fm.isRef = true) : entryFrame m #[(.int ii), (.int nn), fm] 3 = mkF m 0 #[iv ii, iv nn, .val fm] [] := by
  rcases ref_cases h_fm with rfl | ⟨z, rfl⟩ <;> (first | (simp [entryFrame, mkF, argsToLocals, Value.category]; done) | rfl)
def Q19 (Z : State) (ii : Int32) (nn : Int32) (fm : Value) (h0 : Heap) (n0 : Nat) (v : Option Value) (h : Heap) (L : List Loc) : Prop := v = some (.int ii) ∧ Fr n0 L ∧ h = h0
set_option maxRecDepth 65536 in
set_option maxHeartbeats 40000000 in
theorem rm19 (l : Launch) (Z : State) (a0 : Array Value) (hw : ∀ d ∈ tables_1, d.before a0 Z = true) (ws : List Jvm.Cond) (ii : Int32) (nn : Int32) (fm : Value) (h0 : Heap) (n0 : Nat) (Z0 : n0 ≤ h0.size) (rf : fm.isRef = true) (hi0 : ¬ ii < (0 : Int32)) (hin : ii < nn) :
    MetFree l (⟨"jdk/internal/util/Preconditions", "checkIndex", "(IILjava/util/function/BiFunction;)I"⟩ : MethodName) (head1 (Jvm.Cond.code (⟨"jdk/internal/util/Preconditions", "checkIndex", "(IILjava/util/function/BiFunction;)I"⟩ : MethodName) jdk_41_method_11_code 3 (some .int) :: ws) ({ frames := 0, cells := 0, slots := 0, locals := 0 } : Room)) (fun a U => a = #[(.int ii), (.int nn), fm] ∧ Z.Warmed39 U.vm ∧ U.heap = h0) (fun _ _ _ _ _ => True) (fun _ U o U' => ∃ v L, o = .returned v ∧ Q19 Z ii nn fm h0 n0 v U'.heap L ∧ FrameEnd U o U' L ({ frames := 0, cells := 0, slots := 0, locals := 0 } : Room).cells ({ frames := 0, cells := 0, slots := 0, locals := 0 } : Room).slots) := by
  refine MetFree.of_bodySF (plainFor_of_name pn_1) hisR ?_
  intro p e s m args below meth c s₁ Bd hml0 hP hK
  obtain ⟨rfl, hZ, hh⟩ := hP
  have hx := Bd.exec
  have hby := Bd.bytes
  have hml : c.maxLocals = 3 := hml0
  have hown : s.vm.findClass "jdk/internal/util/Preconditions" = some m.cls := findClass_of_methodNamed Bd.named
  have hnm := (name_of_methodNamed Bd.named Bd.method).1
  have hlk : meth.locks = false := Bd.notSynchronized
  have hrt := Bd.returns
  have X0 : Stand p l e ({ frames := 0, cells := 0, slots := 0, locals := 0 } : Room) s m #[(.int ii), (.int nn), fm] below meth c s₁ [] 0 0 := Stand.of_body Bd
  have e0 : s₁.heap = h0 := by rw [← hh, Bd.state]; rfl
  have N0 := Fr.nil n0
  show own_Endz p.tables e below (own_EndQ s ({ frames := 0, cells := 0, slots := 0, locals := 0 } : Room).cells ({ frames := 0, cells := 0, slots := 0, locals := 0 } : Room).slots (Q19 Z ii nn fm h0 n0)) (s₁.setTop (entryFrame m #[(.int ii), (.int nn), fm] 3))
  refine own_cast (ef_19 m ii nn fm rf) ?_
  refine own_go (b := s₁.setTop (mkF m 1 #[iv ii, iv nn, .val fm] [(.int ii)])) (fun t k => XS.iloadN X0.here hx rfl (hb hby d19_0) rfl  k) ?_
  refine own_go (b := s₁.setTop (mkF m 4 #[iv ii, iv nn, .val fm] [])) (fun t k => XS.ifNo X0.here hx rfl (hb hby d19_1) rfl ((if0 _ _).trans (flt hi0).1) k) ?_
  refine own_go (b := s₁.setTop (mkF m 5 #[iv ii, iv nn, .val fm] [(.int ii)])) (fun t k => XS.iloadN X0.here hx rfl (hb hby d19_4) rfl  k) ?_
  refine own_go (b := s₁.setTop (mkF m 6 #[iv ii, iv nn, .val fm] [(.int nn), (.int ii)])) (fun t k => XS.iloadN X0.here hx rfl (hb hby d19_5) rfl  k) ?_
  refine own_go (b := s₁.setTop (mkF m 16 #[iv ii, iv nn, .val fm] [])) (fun t k => XS.icmpYes X0.here hx rfl (pc0 := 6) (pc' := 16) rfl (hb hby d19_6) rfl (tlt hin).1 (by decide) (by decide) k) ?_
  refine own_go (b := s₁.setTop (mkF m 17 #[iv ii, iv nn, .val fm] [(.int ii)])) (fun t k => XS.iloadN X0.here hx rfl (hb hby d19_16) rfl  k) ?_
  exact own_retI X0 hx hlk hrt (hb hby d19_17) (Nat.le_of_ble_eq_true rfl) (Nat.le_of_ble_eq_true rfl) (⟨by first | rfl | (simp only [if_true, if_true, if_false]; done) | (simp only [if_true, if_true, if_false]; rfl) | (simp []; done) | (simp []; rfl), N0, e0⟩)
theorem d18_0 : decode jdk_42_method_155_code 0 = .ok (.iload_n 0, 1) := by decide +kernel
theorem d18_1 : decode jdk_42_method_155_code 1 = .ok (.iload_n 1, 1) := by decide +kernel
theorem d18_2 : decode jdk_42_method_155_code 2 = .ok (.getstatic 1053, 3) := by decide +kernel
theorem d18_5 : decode jdk_42_method_155_code 5 = .ok (.invokestatic 1059, 3) := by decide +kernel
theorem d18_8 : decode jdk_42_method_155_code 8 = .ok (.pop, 1) := by decide +kernel
theorem d18_9 : decode jdk_42_method_155_code 9 = .ok (.return_, 1) := by decide +kernel
theorem pn_2 : plainName "java/lang/String" = true := by first | (simp [plainName, overriddenIn]; done) | decide +kernel
theorem pd_0 : parseMethodDescriptor "(IILjava/util/function/BiFunction;)I" = some ⟨[.int, .int, (.object "java/util/function/BiFunction")], some .int⟩ := by decide +kernel
theorem ef_18 (m : MethodId) (ii : Int32) (nn : Int32) : entryFrame m #[(.int ii), (.int nn)] 2 = mkF m 0 #[iv ii, iv nn] [] := by first | (simp [entryFrame, mkF, argsToLocals, Value.category]; done) | rfl
def Q18 (Z : State) (ii : Int32) (nn : Int32) (fm : Value) (h0 : Heap) (n0 : Nat) (v : Option Value) (h : Heap) (L : List Loc) : Prop := v = none ∧ Fr n0 L ∧ h = h0
set_option maxRecDepth 65536 in
set_option maxHeartbeats 40000000 in
theorem rm18 (l : Launch) (Z : State) (a0 : Array Value) (hw : ∀ d ∈ tables_1, d.before a0 Z = true) (ws : List Jvm.Cond) (ii : Int32) (nn : Int32) (fm : Value) (h0 : Heap) (n0 : Nat) (Z0 : n0 ≤ h0.size) (Sf : Sta Z h0 "jdk/internal/util/Preconditions" "SIOOBE_FORMATTER" "Ljava/util/function/BiFunction;" fm) (rf : fm.isRef = true) (hi0 : ¬ ii < (0 : Int32)) (hin : ii < nn) :
    MetFree l (⟨"java/lang/String", "checkIndex", "(II)V"⟩ : MethodName) (head1 (Jvm.Cond.code (⟨"java/lang/String", "checkIndex", "(II)V"⟩ : MethodName) jdk_42_method_155_code 2 none :: ws) ({ frames := 1, cells := 0, slots := 0, locals := 14 } : Room)) (fun a U => a = #[(.int ii), (.int nn)] ∧ Z.Warmed39 U.vm ∧ U.heap = h0) (fun _ _ _ _ _ => True) (fun _ U o U' => ∃ v L, o = .returned v ∧ Q18 Z ii nn fm h0 n0 v U'.heap L ∧ FrameEnd U o U' L ({ frames := 1, cells := 0, slots := 0, locals := 14 } : Room).cells ({ frames := 1, cells := 0, slots := 0, locals := 14 } : Room).slots) := by
  refine MetFree.of_bodySF (plainFor_of_name pn_2) hisR ?_
  intro p e s m args below meth c s₁ Bd hml0 hP hK
  obtain ⟨rfl, hZ, hh⟩ := hP
  have hx := Bd.exec
  have hby := Bd.bytes
  have hml : c.maxLocals = 2 := hml0
  have hown : s.vm.findClass "java/lang/String" = some m.cls := findClass_of_methodNamed Bd.named
  have hnm := (name_of_methodNamed Bd.named Bd.method).1
  have hlk : meth.locks = false := Bd.notSynchronized
  have hrt := Bd.returns
  have X0 : Stand p l e ({ frames := 1, cells := 0, slots := 0, locals := 14 } : Room) s m #[(.int ii), (.int nn)] below meth c s₁ [] 0 0 := Stand.of_body Bd
  have e0 : s₁.heap = h0 := by rw [← hh, Bd.state]; rfl
  have N0 := Fr.nil n0
  show own_Endz p.tables e below (own_EndQ s ({ frames := 1, cells := 0, slots := 0, locals := 14 } : Room).cells ({ frames := 1, cells := 0, slots := 0, locals := 14 } : Room).slots (Q18 Z ii nn fm h0 n0)) (s₁.setTop (entryFrame m #[(.int ii), (.int nn)] 2))
  refine own_cast (ef_18 m ii nn) ?_
  refine own_go (b := s₁.setTop (mkF m 1 #[iv ii, iv nn] [(.int ii)])) (fun t k => XS.iloadN X0.here hx rfl (hb hby d18_0) rfl  k) ?_
  refine own_go (b := s₁.setTop (mkF m 2 #[iv ii, iv nn] [(.int nn), (.int ii)])) (fun t k => XS.iloadN X0.here hx rfl (hb hby d18_1) rfl  k) ?_
  obtain ⟨T1, X1, e1, st1⟩ := getS2 X0 hx hZ hown (host := "") (Or.inl (hw _ (List.mem_of_getElem? (i := 92) rfl))) Via.refl e0 Sf (g := (mkF m 2 #[iv ii, iv nn] [(.int nn), (.int ii)])) rfl (hb hby d18_2)
  refine own_go (b := T1.setTop (mkF m 5 #[iv ii, iv nn] [fm, (.int nn), (.int ii)])) st1 ?_
  obtain ⟨_, _, ⟨T2, L2, k2, n2⟩, -, X2, ⟨Lc2, hQ2, l2, y2, z2⟩, st2⟩ := Jvm.LawKit.callS X1 hx (y := (⟨"jdk/internal/util/Preconditions", "checkIndex", "(IILjava/util/function/BiFunction;)I"⟩ : MethodName)) hown (mvT hZ (hw _ (List.mem_of_getElem? (i := 94) rfl))) (mvT hZ (hw _ (List.mem_of_getElem? (i := 95) rfl))) (mvT hZ (hw _ (List.mem_of_getElem? (i := 93) rfl))) (mvT hZ (hw _ (List.mem_of_getElem? (i := 96) rfl))) (by decide) (backOf (W := 0) (rm19 l Z a0 hw [] ii nn fm  h0 n0 Z0 rf hi0 hin) hZ (hw _ (List.mem_of_getElem? (i := 96) rfl)) (hw _ (List.mem_of_getElem? (i := 93) rfl)) (by decide) (by decide)) (g := (mkF m 5 #[iv ii, iv nn] [fm, (.int nn), (.int ii)])) rfl (by rw [hml]; rfl) (argsL := [(.int ii), (.int nn), fm]) (rest := []) (lenOf pd_0 rfl) rfl (by show 2 * 0 + _ ≤ _; exact Nat.le_of_eq rfl) (hb hby d18_5) (fun _ _ => ⟨rfl, e1, (by decide : 0 + 0 ≤ _), (by decide : 0 + 0 ≤ _)⟩)
  dsimp only [Pt.U, Pt.locs, Pt.cells, Pt.slots] at X2 l2 y2 z2 st2 hQ2
  subst l2 y2 z2
  obtain ⟨rfl, N2q, e2⟩ := hQ2
  have N2 := Fr.app N0 N2q
  obtain ⟨lq2, X2, N2⟩ : ∃ lq, Stand p l e ({ frames := 1, cells := 0, slots := 0, locals := 14 } : Room) s m #[(.int ii), (.int nn)] below meth c T2 lq 0 0 ∧ Fr n0 lq := ⟨_, X2, N2⟩
  refine own_go (b := T2.setTop (mkF m 8 #[iv ii, iv nn] [(.int ii)])) st2 ?_
  refine own_go (b := T2.setTop (mkF m 9 #[iv ii, iv nn] [])) (fun t k => XS.pop X2.here hx rfl (hb hby d18_8) rfl rfl k) ?_
  exact own_retV X2 hx hlk hrt (hb hby d18_9) (Nat.le_of_ble_eq_true rfl) (Nat.le_of_ble_eq_true rfl) (⟨by first | rfl | (simp only [if_true, if_true, if_false]; done) | (simp only [if_true, if_true, if_false]; rfl) | (simp []; done) | (simp []; rfl), N2, e2⟩)
theorem d26_0 : decode jdk_52_method_91_code 0 = .ok (.iload_n 0, 1) := by decide +kernel
theorem d26_1 : decode jdk_52_method_91_code 1 = .ok (.aload_n 1, 1) := by decide +kernel
theorem d26_2 : decode jdk_52_method_91_code 2 = .ok (.invokestatic 48, 3) := by decide +kernel
theorem d26_5 : decode jdk_52_method_91_code 5 = .ok (.invokestatic 414, 3) := by decide +kernel
theorem d26_8 : decode jdk_52_method_91_code 8 = .ok (.return_, 1) := by decide +kernel
theorem pd_1 : parseMethodDescriptor "([B)I" = some ⟨[(.array .byte)], some .int⟩ := by decide +kernel
theorem pd_2 : parseMethodDescriptor "(II)V" = some ⟨[.int, .int], none⟩ := by decide +kernel
theorem ef_26 (m : MethodId) (ii : Int32) (vt : Addr) : entryFrame m #[(.int ii), (.ref vt)] 2 = mkF m 0 #[iv ii, rv vt] [] := by first | (simp [entryFrame, mkF, argsToLocals, Value.category]; done) | rfl
def Q26 (Z : State) (ii : Int32) (vt : Addr) (kb : ClassId) (N2 : Int32) (vs : List Value) (fm : Value) (h0 : Heap) (n0 : Nat) (v : Option Value) (h : Heap) (L : List Loc) : Prop := v = none ∧ Fr n0 L ∧ h = h0
set_option maxRecDepth 65536 in
set_option maxHeartbeats 40000000 in
theorem rm26 (l : Launch) (Z : State) (a0 : Array Value) (hw : ∀ d ∈ tables_1, d.before a0 Z = true) (ws : List Jvm.Cond) (ii : Int32) (vt : Addr) (kb : ClassId) (N2 : Int32) (vs : List Value) (fm : Value) (h0 : Heap) (n0 : Nat) (Z0 : n0 ≤ h0.size) (Vb : Arv Z h0 vt kb .byte N2 vs (.int 0)) (Sf : Sta Z h0 "jdk/internal/util/Preconditions" "SIOOBE_FORMATTER" "Ljava/util/function/BiFunction;" fm) (rf : fm.isRef = true) (hi0 : ¬ ii < (0 : Int32)) (hin : ii < (N2 >>> ((1 : Int32) &&& 31))) :
    MetFree l (⟨"java/lang/StringUTF16", "checkIndex", "(I[B)V"⟩ : MethodName) (head1 (Jvm.Cond.code (⟨"java/lang/StringUTF16", "checkIndex", "(I[B)V"⟩ : MethodName) jdk_52_method_91_code 2 none :: ws) ({ frames := 2, cells := 0, slots := 0, locals := 27 } : Room)) (fun a U => a = #[(.int ii), (.ref vt)] ∧ Z.Warmed39 U.vm ∧ U.heap = h0) (fun _ _ _ _ _ => True) (fun _ U o U' => ∃ v L, o = .returned v ∧ Q26 Z ii vt kb N2 vs fm h0 n0 v U'.heap L ∧ FrameEnd U o U' L ({ frames := 2, cells := 0, slots := 0, locals := 27 } : Room).cells ({ frames := 2, cells := 0, slots := 0, locals := 27 } : Room).slots) := by
  refine MetFree.of_bodySF (plainFor_of_name pn_0) hisR ?_
  intro p e s m args below meth c s₁ Bd hml0 hP hK
  obtain ⟨rfl, hZ, hh⟩ := hP
  have hx := Bd.exec
  have hby := Bd.bytes
  have hml : c.maxLocals = 2 := hml0
  have hown : s.vm.findClass "java/lang/StringUTF16" = some m.cls := findClass_of_methodNamed Bd.named
  have hnm := (name_of_methodNamed Bd.named Bd.method).1
  have hlk : meth.locks = false := Bd.notSynchronized
  have hrt := Bd.returns
  have X0 : Stand p l e ({ frames := 2, cells := 0, slots := 0, locals := 27 } : Room) s m #[(.int ii), (.ref vt)] below meth c s₁ [] 0 0 := Stand.of_body Bd
  have e0 : s₁.heap = h0 := by rw [← hh, Bd.state]; rfl
  have N0 := Fr.nil n0
  show own_Endz p.tables e below (own_EndQ s ({ frames := 2, cells := 0, slots := 0, locals := 27 } : Room).cells ({ frames := 2, cells := 0, slots := 0, locals := 27 } : Room).slots (Q26 Z ii vt kb N2 vs fm h0 n0)) (s₁.setTop (entryFrame m #[(.int ii), (.ref vt)] 2))
  refine own_cast (ef_26 m ii vt) ?_
  refine own_go (b := s₁.setTop (mkF m 1 #[iv ii, rv vt] [(.int ii)])) (fun t k => XS.iloadN X0.here hx rfl (hb hby d26_0) rfl  k) ?_
  refine own_go (b := s₁.setTop (mkF m 2 #[iv ii, rv vt] [(.ref vt), (.int ii)])) (fun t k => XS.aloadN X0.here hx rfl (hb hby d26_1) rfl rfl k) ?_
  obtain ⟨_, _, ⟨T1, L1, k1, n1⟩, -, X1, ⟨Lc1, hQ1, l1, y1, z1⟩, st1⟩ := Jvm.LawKit.callS X0 hx (y := (⟨"java/lang/StringUTF16", "length", "([B)I"⟩ : MethodName)) hown (mvT hZ (hw _ (List.mem_of_getElem? (i := 124) rfl))) (mvT hZ (hw _ (List.mem_of_getElem? (i := 125) rfl))) (mvT hZ (hw _ (List.mem_of_getElem? (i := 63) rfl))) (mvT hZ (hw _ (List.mem_of_getElem? (i := 126) rfl))) (by decide) (backOf (W := 1) (rm27 l Z a0 hw [] vt kb N2 vs h0 n0 Z0 Vb) hZ (hw _ (List.mem_of_getElem? (i := 126) rfl)) (hw _ (List.mem_of_getElem? (i := 63) rfl)) (by decide) (by decide)) (g := (mkF m 2 #[iv ii, rv vt] [(.ref vt), (.int ii)])) rfl (by rw [hml]; rfl) (argsL := [(.ref vt)]) (rest := [(.int ii)]) (lenOf pd_1 rfl) rfl (by show 2 * 0 + _ ≤ _; exact Nat.le_of_eq rfl) (hb hby d26_2) (fun _ _ => ⟨rfl, e0, (by decide : 0 + 0 ≤ _), (by decide : 0 + 0 ≤ _)⟩)
  dsimp only [Pt.U, Pt.locs, Pt.cells, Pt.slots] at X1 l1 y1 z1 st1 hQ1
  subst l1 y1 z1
  obtain ⟨rfl, N1q, e1⟩ := hQ1
  have N1 := Fr.app N0 N1q
  obtain ⟨lq1, X1, N1⟩ : ∃ lq, Stand p l e ({ frames := 2, cells := 0, slots := 0, locals := 27 } : Room) s m #[(.int ii), (.ref vt)] below meth c T1 lq 0 0 ∧ Fr n0 lq := ⟨_, X1, N1⟩
  refine own_go (b := T1.setTop (mkF m 5 #[iv ii, rv vt] [(.int (N2 >>> ((1 : Int32) &&& 31))), (.int ii)])) st1 ?_
  obtain ⟨_, _, ⟨T2, L2, k2, n2⟩, -, X2, ⟨Lc2, hQ2, l2, y2, z2⟩, st2⟩ := Jvm.LawKit.callS X1 hx (y := (⟨"java/lang/String", "checkIndex", "(II)V"⟩ : MethodName)) hown (mvT hZ (hw _ (List.mem_of_getElem? (i := 127) rfl))) (mvT hZ (hw _ (List.mem_of_getElem? (i := 90) rfl))) (mvT hZ (hw _ (List.mem_of_getElem? (i := 5) rfl))) (mvT hZ (hw _ (List.mem_of_getElem? (i := 91) rfl))) (by decide) (backOf (W := 0) (rm18 l Z a0 hw [] ii (N2 >>> ((1 : Int32) &&& 31)) fm h0 n0 Z0 Sf rf hi0 hin) hZ (hw _ (List.mem_of_getElem? (i := 91) rfl)) (hw _ (List.mem_of_getElem? (i := 5) rfl)) (by decide) (by decide)) (g := (mkF m 5 #[iv ii, rv vt] [(.int (N2 >>> ((1 : Int32) &&& 31))), (.int ii)])) rfl (by rw [hml]; rfl) (argsL := [(.int ii), (.int (N2 >>> ((1 : Int32) &&& 31)))]) (rest := []) (lenOf pd_2 rfl) rfl (by show 2 * 0 + _ ≤ _; exact Nat.le_of_eq rfl) (hb hby d26_5) (fun _ _ => ⟨rfl, e1, (by decide : 0 + 0 ≤ _), (by decide : 0 + 0 ≤ _)⟩)
  dsimp only [Pt.U, Pt.locs, Pt.cells, Pt.slots] at X2 l2 y2 z2 st2 hQ2
  subst l2 y2 z2
  obtain ⟨rfl, N2q, e2⟩ := hQ2
  have N2 := Fr.app N1 N2q
  obtain ⟨lq2, X2, N2⟩ : ∃ lq, Stand p l e ({ frames := 2, cells := 0, slots := 0, locals := 27 } : Room) s m #[(.int ii), (.ref vt)] below meth c T2 lq 0 0 ∧ Fr n0 lq := ⟨_, X2, N2⟩
  refine own_go (b := T2.setTop (mkF m 8 #[iv ii, rv vt] [])) st2 ?_
  exact own_retV X2 hx hlk hrt (hb hby d26_8) (Nat.le_of_ble_eq_true rfl) (Nat.le_of_ble_eq_true rfl) (⟨by first | rfl | (simp only [if_true, if_true, if_false]; done) | (simp only [if_true, if_true, if_false]; rfl) | (simp []; done) | (simp []; rfl), N2, e2⟩)
theorem d24_0 : decode jdk_52_method_5_code 0 = .ok (.getstatic 44, 3) := by decide +kernel
theorem d24_3 : decode jdk_52_method_5_code 3 = .ok (.ifCond .ne 25, 3) := by decide +kernel
theorem d24_6 : decode jdk_52_method_5_code 6 = .ok (.iload_n 1, 1) := by decide +kernel
theorem d24_7 : decode jdk_52_method_5_code 7 = .ok (.ifCond .lt 11, 3) := by decide +kernel
theorem d24_10 : decode jdk_52_method_5_code 10 = .ok (.iload_n 1, 1) := by decide +kernel
theorem d24_11 : decode jdk_52_method_5_code 11 = .ok (.aload_n 0, 1) := by decide +kernel
theorem d24_12 : decode jdk_52_method_5_code 12 = .ok (.invokestatic 48, 3) := by decide +kernel
theorem d24_15 : decode jdk_52_method_5_code 15 = .ok (.if_icmp .lt 13, 3) := by decide +kernel
theorem d24_18 : decode jdk_52_method_5_code 18 = .ok (.new 52, 3) := by decide +kernel
theorem d24_21 : decode jdk_52_method_5_code 21 = .ok (.dup, 1) := by decide +kernel
theorem d24_22 : decode jdk_52_method_5_code 22 = .ok (.ldc 54, 2) := by decide +kernel
theorem d24_24 : decode jdk_52_method_5_code 24 = .ok (.invokespecial 56, 3) := by decide +kernel
theorem d24_27 : decode jdk_52_method_5_code 27 = .ok (.athrow, 1) := by decide +kernel
theorem d24_28 : decode jdk_52_method_5_code 28 = .ok (.iload_n 1, 1) := by decide +kernel
theorem d24_29 : decode jdk_52_method_5_code 29 = .ok (.iconst 1, 1) := by decide +kernel
theorem d24_30 : decode jdk_52_method_5_code 30 = .ok (.ishl, 1) := by decide +kernel
theorem d24_31 : decode jdk_52_method_5_code 31 = .ok (.istore_n 1, 1) := by decide +kernel
theorem d24_32 : decode jdk_52_method_5_code 32 = .ok (.aload_n 0, 1) := by decide +kernel
theorem d24_33 : decode jdk_52_method_5_code 33 = .ok (.iload_n 1, 1) := by decide +kernel
theorem d24_34 : decode jdk_52_method_5_code 34 = .ok (.iinc 1 1, 3) := by decide +kernel
theorem d24_37 : decode jdk_52_method_5_code 37 = .ok (.baload, 1) := by decide +kernel
theorem d24_38 : decode jdk_52_method_5_code 38 = .ok (.sipush 255, 3) := by decide +kernel
theorem d24_41 : decode jdk_52_method_5_code 41 = .ok (.iand, 1) := by decide +kernel
theorem d24_42 : decode jdk_52_method_5_code 42 = .ok (.getstatic 59, 3) := by decide +kernel
theorem d24_45 : decode jdk_52_method_5_code 45 = .ok (.ishl, 1) := by decide +kernel
theorem d24_46 : decode jdk_52_method_5_code 46 = .ok (.aload_n 0, 1) := by decide +kernel
theorem d24_47 : decode jdk_52_method_5_code 47 = .ok (.iload_n 1, 1) := by decide +kernel
theorem d24_48 : decode jdk_52_method_5_code 48 = .ok (.baload, 1) := by decide +kernel
theorem d24_49 : decode jdk_52_method_5_code 49 = .ok (.sipush 255, 3) := by decide +kernel
theorem d24_52 : decode jdk_52_method_5_code 52 = .ok (.iand, 1) := by decide +kernel
theorem d24_53 : decode jdk_52_method_5_code 53 = .ok (.getstatic 63, 3) := by decide +kernel
theorem d24_56 : decode jdk_52_method_5_code 56 = .ok (.ishl, 1) := by decide +kernel
theorem d24_57 : decode jdk_52_method_5_code 57 = .ok (.ior, 1) := by decide +kernel
theorem d24_58 : decode jdk_52_method_5_code 58 = .ok (.i2c, 1) := by decide +kernel
theorem d24_59 : decode jdk_52_method_5_code 59 = .ok (.ireturn, 1) := by decide +kernel
theorem ef_24 (m : MethodId) (vt : Addr) (ii : Int32) : entryFrame m #[(.ref vt), (.int ii)] 2 = mkF m 0 #[rv vt, iv ii] [] := by first | (simp [entryFrame, mkF, argsToLocals, Value.category]; done) | rfl
def Q24 (Z : State) (vt : Addr) (ii : Int32) (kb : ClassId) (N2 : Int32) (vs : List Value) (b0 : Int32) (b1 : Int32) (cc : Int32) (h0 : Heap) (n0 : Nat) (v : Option Value) (h : Heap) (L : List Loc) : Prop := v = some (.int cc) ∧ Fr n0 L ∧ h = h0
set_option maxRecDepth 65536 in
set_option maxHeartbeats 40000000 in
theorem rm24 (l : Launch) (Z : State) (a0 : Array Value) (hw : ∀ d ∈ tables_1, d.before a0 Z = true) (ws : List Jvm.Cond) (vt : Addr) (ii : Int32) (kb : ClassId) (N2 : Int32) (vs : List Value) (b0 : Int32) (b1 : Int32) (cc : Int32) (h0 : Heap) (n0 : Nat) (Z0 : n0 ≤ h0.size) (Sad : Sta Z h0 "java/lang/StringUTF16" "$assertionsDisabled" "Z" (.int 1)) (Shi : Sta Z h0 "java/lang/StringUTF16" "HI_BYTE_SHIFT" "I" (.int 0)) (Slo : Sta Z h0 "java/lang/StringUTF16" "LO_BYTE_SHIFT" "I" (.int 8)) (Vb : Arv Z h0 vt kb .byte N2 vs (.int 0)) (j0 : ¬ (ii <<< ((1 : Int32) &&& 31)) < 0 ∧ (ii <<< ((1 : Int32) &&& 31)) < N2) (v0 : vs.getD (ii <<< ((1 : Int32) &&& 31)).toNatClampNeg (.int 0) = .int b0) (j1 : ¬ ((ii <<< ((1 : Int32) &&& 31)) + (1 : Int32)) < 0 ∧ ((ii <<< ((1 : Int32) &&& 31)) + (1 : Int32)) < N2) (v1 : vs.getD ((ii <<< ((1 : Int32) &&& 31)) + (1 : Int32)).toNatClampNeg (.int 0) = .int b1) (hcc : nar .char (StrChars.pairCh b0 b1) = cc) :
    MetFree l (⟨"java/lang/StringUTF16", "getChar", "([BI)C"⟩ : MethodName) (head1 (Jvm.Cond.code (⟨"java/lang/StringUTF16", "getChar", "([BI)C"⟩ : MethodName) jdk_52_method_5_code 2 (some .char) :: ws) ({ frames := 0, cells := 0, slots := 0, locals := 0 } : Room)) (fun a U => a = #[(.ref vt), (.int ii)] ∧ Z.Warmed39 U.vm ∧ U.heap = h0) (fun _ _ _ _ _ => True) (fun _ U o U' => ∃ v L, o = .returned v ∧ Q24 Z vt ii kb N2 vs b0 b1 cc h0 n0 v U'.heap L ∧ FrameEnd U o U' L ({ frames := 0, cells := 0, slots := 0, locals := 0 } : Room).cells ({ frames := 0, cells := 0, slots := 0, locals := 0 } : Room).slots) := by
  refine MetFree.of_bodySF (plainFor_of_name pn_0) hisR ?_
  intro p e s m args below meth c s₁ Bd hml0 hP hK
  obtain ⟨rfl, hZ, hh⟩ := hP
  have hx := Bd.exec
  have hby := Bd.bytes
  have hml : c.maxLocals = 2 := hml0
  have hown : s.vm.findClass "java/lang/StringUTF16" = some m.cls := findClass_of_methodNamed Bd.named
  have hnm := (name_of_methodNamed Bd.named Bd.method).1
  have hlk : meth.locks = false := Bd.notSynchronized
  have hrt := Bd.returns
  have X0 : Stand p l e ({ frames := 0, cells := 0, slots := 0, locals := 0 } : Room) s m #[(.ref vt), (.int ii)] below meth c s₁ [] 0 0 := Stand.of_body Bd
  have e0 : s₁.heap = h0 := by rw [← hh, Bd.state]; rfl
  have N0 := Fr.nil n0
  show own_Endz p.tables e below (own_EndQ s ({ frames := 0, cells := 0, slots := 0, locals := 0 } : Room).cells ({ frames := 0, cells := 0, slots := 0, locals := 0 } : Room).slots (Q24 Z vt ii kb N2 vs b0 b1 cc h0 n0)) (s₁.setTop (entryFrame m #[(.ref vt), (.int ii)] 2))
  refine own_cast (ef_24 m vt ii) ?_
  obtain ⟨ca, Ab, qc, Sz, Ng, Hs, Ft⟩ := id Vb
  obtain ⟨T1, X1, e1, st1⟩ := getS2 X0 hx hZ hown (host := "") (Or.inl (hw _ (List.mem_of_getElem? (i := 112) rfl))) Via.refl e0 Sad (g := (mkF m 0 #[rv vt, iv ii] [])) rfl (hb hby d24_0)
  refine own_go (b := T1.setTop (mkF m 3 #[rv vt, iv ii] [(.int 1)])) st1 ?_
  refine own_go (b := T1.setTop (mkF m 28 #[rv vt, iv ii] [])) (fun t k => XS.ifYes X1.here hx rfl (pc0 := 3) (pc' := 28) rfl (hb hby d24_3) rfl ((if0 _ _).trans (feq (by decide : ¬ ((1 : Int32) = (0 : Int32)))).2) (by decide) (by decide) k) ?_
  refine own_go (b := T1.setTop (mkF m 29 #[rv vt, iv ii] [(.int ii)])) (fun t k => XS.iloadN X1.here hx rfl (hb hby d24_28) rfl  k) ?_
  refine own_go (b := T1.setTop (mkF m 30 #[rv vt, iv ii] [(.int 1), (.int ii)])) (fun t k => XS.iconst X1.here hx rfl (hb hby d24_29) k) ?_
  refine own_go (b := T1.setTop (mkF m 31 #[rv vt, iv ii] [(.int (ii <<< ((1 : Int32) &&& 31)))])) (fun t k => XS.ishl X1.here hx rfl (hb hby d24_30) rfl k) ?_
  refine own_go (b := T1.setTop (mkF m 32 #[rv vt, iv (ii <<< ((1 : Int32) &&& 31))] [])) (fun t k => XS.istoreN X1.here hx rfl (hb hby d24_31) rfl (l' := #[rv vt, iv (ii <<< ((1 : Int32) &&& 31))]) rfl k) ?_
  refine own_go (b := T1.setTop (mkF m 33 #[rv vt, iv (ii <<< ((1 : Int32) &&& 31))] [(.ref vt)])) (fun t k => XS.aloadN X1.here hx rfl (hb hby d24_32) rfl rfl k) ?_
  refine own_go (b := T1.setTop (mkF m 34 #[rv vt, iv (ii <<< ((1 : Int32) &&& 31))] [(.int (ii <<< ((1 : Int32) &&& 31))), (.ref vt)])) (fun t k => XS.iloadN X1.here hx rfl (hb hby d24_33) rfl  k) ?_
  refine own_go (b := T1.setTop (mkF m 37 #[rv vt, iv ((ii <<< ((1 : Int32) &&& 31)) + (1 : Int32))] [(.int (ii <<< ((1 : Int32) &&& 31))), (.ref vt)])) (fun t k => XS.iinc X1.here hx rfl (hb hby d24_34) rfl (l' := #[rv vt, iv ((ii <<< ((1 : Int32) &&& 31)) + (1 : Int32))]) rfl k) ?_
  refine own_go (b := T1.setTop (mkF m 38 #[rv vt, iv ((ii <<< ((1 : Int32) &&& 31)) + (1 : Int32))] [(.int b0)])) (fun t k => X1.baloadBytes hx (j := (ii <<< ((1 : Int32) &&& 31))) (v := (.int b0)) (own_at e1 Ab.1) (State.isArrayOf_alike hZ.alike Ab.2.1) Ab.2.2 (inb_of Sz j0) (Hs.at (inb_of Sz j0) v0) (g := (mkF m 37 #[rv vt, iv ((ii <<< ((1 : Int32) &&& 31)) + (1 : Int32))] [(.int (ii <<< ((1 : Int32) &&& 31))), (.ref vt)])) rfl rfl (hb hby d24_37) t k) ?_
  refine own_go (b := T1.setTop (mkF m 41 #[rv vt, iv ((ii <<< ((1 : Int32) &&& 31)) + (1 : Int32))] [(.int 255), (.int b0)])) (fun t k => XS.sipush X1.here hx rfl (hb hby d24_38) k) ?_
  refine own_go (b := T1.setTop (mkF m 42 #[rv vt, iv ((ii <<< ((1 : Int32) &&& 31)) + (1 : Int32))] [(.int (b0 &&& (255 : Int32)))])) (fun t k => XS.iand X1.here hx rfl (hb hby d24_41) rfl k) ?_
  obtain ⟨T2, X2, e2, st2⟩ := getS2 X1 hx hZ hown (host := "") (Or.inl (hw _ (List.mem_of_getElem? (i := 113) rfl))) Via.refl e1 Shi (g := (mkF m 42 #[rv vt, iv ((ii <<< ((1 : Int32) &&& 31)) + (1 : Int32))] [(.int (b0 &&& (255 : Int32)))])) rfl (hb hby d24_42)
  refine own_go (b := T2.setTop (mkF m 45 #[rv vt, iv ((ii <<< ((1 : Int32) &&& 31)) + (1 : Int32))] [(.int 0), (.int (b0 &&& (255 : Int32)))])) st2 ?_
  refine own_go (b := T2.setTop (mkF m 46 #[rv vt, iv ((ii <<< ((1 : Int32) &&& 31)) + (1 : Int32))] [(.int ((b0 &&& (255 : Int32)) <<< ((0 : Int32) &&& 31)))])) (fun t k => XS.ishl X2.here hx rfl (hb hby d24_45) rfl k) ?_
  refine own_go (b := T2.setTop (mkF m 47 #[rv vt, iv ((ii <<< ((1 : Int32) &&& 31)) + (1 : Int32))] [(.ref vt), (.int ((b0 &&& (255 : Int32)) <<< ((0 : Int32) &&& 31)))])) (fun t k => XS.aloadN X2.here hx rfl (hb hby d24_46) rfl rfl k) ?_
  refine own_go (b := T2.setTop (mkF m 48 #[rv vt, iv ((ii <<< ((1 : Int32) &&& 31)) + (1 : Int32))] [(.int ((ii <<< ((1 : Int32) &&& 31)) + (1 : Int32))), (.ref vt), (.int ((b0 &&& (255 : Int32)) <<< ((0 : Int32) &&& 31)))])) (fun t k => XS.iloadN X2.here hx rfl (hb hby d24_47) rfl  k) ?_
  refine own_go (b := T2.setTop (mkF m 49 #[rv vt, iv ((ii <<< ((1 : Int32) &&& 31)) + (1 : Int32))] [(.int b1), (.int ((b0 &&& (255 : Int32)) <<< ((0 : Int32) &&& 31)))])) (fun t k => X2.baloadBytes hx (j := ((ii <<< ((1 : Int32) &&& 31)) + (1 : Int32))) (v := (.int b1)) (own_at e2 Ab.1) (State.isArrayOf_alike hZ.alike Ab.2.1) Ab.2.2 (inb_of Sz j1) (Hs.at (inb_of Sz j1) v1) (g := (mkF m 48 #[rv vt, iv ((ii <<< ((1 : Int32) &&& 31)) + (1 : Int32))] [(.int ((ii <<< ((1 : Int32) &&& 31)) + (1 : Int32))), (.ref vt), (.int ((b0 &&& (255 : Int32)) <<< ((0 : Int32) &&& 31)))])) rfl rfl (hb hby d24_48) t k) ?_
  refine own_go (b := T2.setTop (mkF m 52 #[rv vt, iv ((ii <<< ((1 : Int32) &&& 31)) + (1 : Int32))] [(.int 255), (.int b1), (.int ((b0 &&& (255 : Int32)) <<< ((0 : Int32) &&& 31)))])) (fun t k => XS.sipush X2.here hx rfl (hb hby d24_49) k) ?_
  refine own_go (b := T2.setTop (mkF m 53 #[rv vt, iv ((ii <<< ((1 : Int32) &&& 31)) + (1 : Int32))] [(.int (b1 &&& (255 : Int32))), (.int ((b0 &&& (255 : Int32)) <<< ((0 : Int32) &&& 31)))])) (fun t k => XS.iand X2.here hx rfl (hb hby d24_52) rfl k) ?_
  obtain ⟨T3, X3, e3, st3⟩ := getS2 X2 hx hZ hown (host := "") (Or.inl (hw _ (List.mem_of_getElem? (i := 114) rfl))) Via.refl e2 Slo (g := (mkF m 53 #[rv vt, iv ((ii <<< ((1 : Int32) &&& 31)) + (1 : Int32))] [(.int (b1 &&& (255 : Int32))), (.int ((b0 &&& (255 : Int32)) <<< ((0 : Int32) &&& 31)))])) rfl (hb hby d24_53)
  refine own_go (b := T3.setTop (mkF m 56 #[rv vt, iv ((ii <<< ((1 : Int32) &&& 31)) + (1 : Int32))] [(.int 8), (.int (b1 &&& (255 : Int32))), (.int ((b0 &&& (255 : Int32)) <<< ((0 : Int32) &&& 31)))])) st3 ?_
  refine own_go (b := T3.setTop (mkF m 57 #[rv vt, iv ((ii <<< ((1 : Int32) &&& 31)) + (1 : Int32))] [(.int ((b1 &&& (255 : Int32)) <<< ((8 : Int32) &&& 31))), (.int ((b0 &&& (255 : Int32)) <<< ((0 : Int32) &&& 31)))])) (fun t k => XS.ishl X3.here hx rfl (hb hby d24_56) rfl k) ?_
  refine own_go (b := T3.setTop (mkF m 58 #[rv vt, iv ((ii <<< ((1 : Int32) &&& 31)) + (1 : Int32))] [(.int (((b0 &&& (255 : Int32)) <<< ((0 : Int32) &&& 31)) ||| ((b1 &&& (255 : Int32)) <<< ((8 : Int32) &&& 31))))])) (fun t k => XS.ior X3.here hx rfl (hb hby d24_57) rfl k) ?_
  refine own_go (b := T3.setTop (mkF m 59 #[rv vt, iv ((ii <<< ((1 : Int32) &&& 31)) + (1 : Int32))] [(.int ((((b0 &&& (255 : Int32)) <<< ((0 : Int32) &&& 31)) ||| ((b1 &&& (255 : Int32)) <<< ((8 : Int32) &&& 31))).toUInt32.toUInt16.toUInt32.toInt32))])) (fun t k => XS.i2c X3.here hx rfl (hb hby d24_58) rfl k) ?_
  exact own_retN X3 hx hlk (t := .char) hrt (by simp) (hb hby d24_59) (Nat.le_of_ble_eq_true rfl) (Nat.le_of_ble_eq_true rfl) (⟨congrArg (fun z => some (Value.int z)) hcc, N0, e3⟩)
theorem d25_0 : decode jdk_52_method_83_code 0 = .ok (.iload_n 1, 1) := by decide +kernel
theorem d25_1 : decode jdk_52_method_83_code 1 = .ok (.aload_n 0, 1) := by decide +kernel
theorem d25_2 : decode jdk_52_method_83_code 2 = .ok (.invokestatic 67, 3) := by decide +kernel
theorem d25_5 : decode jdk_52_method_83_code 5 = .ok (.aload_n 0, 1) := by decide +kernel
theorem d25_6 : decode jdk_52_method_83_code 6 = .ok (.iload_n 1, 1) := by decide +kernel
theorem d25_7 : decode jdk_52_method_83_code 7 = .ok (.invokestatic 71, 3) := by decide +kernel
theorem d25_10 : decode jdk_52_method_83_code 10 = .ok (.ireturn, 1) := by decide +kernel
theorem pd_3 : parseMethodDescriptor "(I[B)V" = some ⟨[.int, (.array .byte)], none⟩ := by decide +kernel
theorem pd_4 : parseMethodDescriptor "([BI)C" = some ⟨[(.array .byte), .int], some .char⟩ := by decide +kernel
theorem ef_25 (m : MethodId) (vt : Addr) (ii : Int32) : entryFrame m #[(.ref vt), (.int ii)] 2 = mkF m 0 #[rv vt, iv ii] [] := by first | (simp [entryFrame, mkF, argsToLocals, Value.category]; done) | rfl
def Q25 (Z : State) (vt : Addr) (ii : Int32) (kb : ClassId) (N2 : Int32) (vs : List Value) (b0 : Int32) (b1 : Int32) (cc : Int32) (fm : Value) (h0 : Heap) (n0 : Nat) (v : Option Value) (h : Heap) (L : List Loc) : Prop := v = some (.int cc) ∧ Fr n0 L ∧ h = h0
set_option maxRecDepth 65536 in
set_option maxHeartbeats 40000000 in
theorem rm25 (l : Launch) (Z : State) (a0 : Array Value) (hw : ∀ d ∈ tables_1, d.before a0 Z = true) (ws : List Jvm.Cond) (vt : Addr) (ii : Int32) (kb : ClassId) (N2 : Int32) (vs : List Value) (b0 : Int32) (b1 : Int32) (cc : Int32) (fm : Value) (h0 : Heap) (n0 : Nat) (Z0 : n0 ≤ h0.size) (Sad : Sta Z h0 "java/lang/StringUTF16" "$assertionsDisabled" "Z" (.int 1)) (Shi : Sta Z h0 "java/lang/StringUTF16" "HI_BYTE_SHIFT" "I" (.int 0)) (Slo : Sta Z h0 "java/lang/StringUTF16" "LO_BYTE_SHIFT" "I" (.int 8)) (Vb : Arv Z h0 vt kb .byte N2 vs (.int 0)) (j0 : ¬ (ii <<< ((1 : Int32) &&& 31)) < 0 ∧ (ii <<< ((1 : Int32) &&& 31)) < N2) (v0 : vs.getD (ii <<< ((1 : Int32) &&& 31)).toNatClampNeg (.int 0) = .int b0) (j1 : ¬ ((ii <<< ((1 : Int32) &&& 31)) + (1 : Int32)) < 0 ∧ ((ii <<< ((1 : Int32) &&& 31)) + (1 : Int32)) < N2) (v1 : vs.getD ((ii <<< ((1 : Int32) &&& 31)) + (1 : Int32)).toNatClampNeg (.int 0) = .int b1) (hcc : nar .char (StrChars.pairCh b0 b1) = cc) (Sf : Sta Z h0 "jdk/internal/util/Preconditions" "SIOOBE_FORMATTER" "Ljava/util/function/BiFunction;" fm) (rf : fm.isRef = true) (hi0 : ¬ ii < (0 : Int32)) (hin : ii < (N2 >>> ((1 : Int32) &&& 31))) (hnc : nar .char cc = cc) :
    MetFree l (⟨"java/lang/StringUTF16", "charAt", "([BI)C"⟩ : MethodName) (head1 (Jvm.Cond.code (⟨"java/lang/StringUTF16", "charAt", "([BI)C"⟩ : MethodName) jdk_52_method_83_code 2 (some .char) :: ws) ({ frames := 3, cells := 0, slots := 0, locals := 40 } : Room)) (fun a U => a = #[(.ref vt), (.int ii)] ∧ Z.Warmed39 U.vm ∧ U.heap = h0) (fun _ _ _ _ _ => True) (fun _ U o U' => ∃ v L, o = .returned v ∧ Q25 Z vt ii kb N2 vs b0 b1 cc fm h0 n0 v U'.heap L ∧ FrameEnd U o U' L ({ frames := 3, cells := 0, slots := 0, locals := 40 } : Room).cells ({ frames := 3, cells := 0, slots := 0, locals := 40 } : Room).slots) := by
  refine MetFree.of_bodySF (plainFor_of_name pn_0) hisR ?_
  intro p e s m args below meth c s₁ Bd hml0 hP hK
  obtain ⟨rfl, hZ, hh⟩ := hP
  have hx := Bd.exec
  have hby := Bd.bytes
  have hml : c.maxLocals = 2 := hml0
  have hown : s.vm.findClass "java/lang/StringUTF16" = some m.cls := findClass_of_methodNamed Bd.named
  have hnm := (name_of_methodNamed Bd.named Bd.method).1
  have hlk : meth.locks = false := Bd.notSynchronized
  have hrt := Bd.returns
  have X0 : Stand p l e ({ frames := 3, cells := 0, slots := 0, locals := 40 } : Room) s m #[(.ref vt), (.int ii)] below meth c s₁ [] 0 0 := Stand.of_body Bd
  have e0 : s₁.heap = h0 := by rw [← hh, Bd.state]; rfl
  have N0 := Fr.nil n0
  show own_Endz p.tables e below (own_EndQ s ({ frames := 3, cells := 0, slots := 0, locals := 40 } : Room).cells ({ frames := 3, cells := 0, slots := 0, locals := 40 } : Room).slots (Q25 Z vt ii kb N2 vs b0 b1 cc fm h0 n0)) (s₁.setTop (entryFrame m #[(.ref vt), (.int ii)] 2))
  refine own_cast (ef_25 m vt ii) ?_
  refine own_go (b := s₁.setTop (mkF m 1 #[rv vt, iv ii] [(.int ii)])) (fun t k => XS.iloadN X0.here hx rfl (hb hby d25_0) rfl  k) ?_
  refine own_go (b := s₁.setTop (mkF m 2 #[rv vt, iv ii] [(.ref vt), (.int ii)])) (fun t k => XS.aloadN X0.here hx rfl (hb hby d25_1) rfl rfl k) ?_
  obtain ⟨_, _, ⟨T1, L1, k1, n1⟩, -, X1, ⟨Lc1, hQ1, l1, y1, z1⟩, st1⟩ := Jvm.LawKit.callS X0 hx (y := (⟨"java/lang/StringUTF16", "checkIndex", "(I[B)V"⟩ : MethodName)) hown (mvT hZ (hw _ (List.mem_of_getElem? (i := 121) rfl))) (mvT hZ (hw _ (List.mem_of_getElem? (i := 122) rfl))) (mvT hZ (hw _ (List.mem_of_getElem? (i := 63) rfl))) (mvT hZ (hw _ (List.mem_of_getElem? (i := 123) rfl))) (by decide) (backOf (W := 0) (rm26 l Z a0 hw [] ii vt kb N2 vs fm h0 n0 Z0 Vb Sf rf hi0 hin) hZ (hw _ (List.mem_of_getElem? (i := 123) rfl)) (hw _ (List.mem_of_getElem? (i := 63) rfl)) (by decide) (by decide)) (g := (mkF m 2 #[rv vt, iv ii] [(.ref vt), (.int ii)])) rfl (by rw [hml]; rfl) (argsL := [(.int ii), (.ref vt)]) (rest := []) (lenOf pd_3 rfl) rfl (by show 2 * 0 + _ ≤ _; exact Nat.le_of_eq rfl) (hb hby d25_2) (fun _ _ => ⟨rfl, e0, (by decide : 0 + 0 ≤ _), (by decide : 0 + 0 ≤ _)⟩)
  dsimp only [Pt.U, Pt.locs, Pt.cells, Pt.slots] at X1 l1 y1 z1 st1 hQ1
  subst l1 y1 z1
  obtain ⟨rfl, N1q, e1⟩ := hQ1
  have N1 := Fr.app N0 N1q
  obtain ⟨lq1, X1, N1⟩ : ∃ lq, Stand p l e ({ frames := 3, cells := 0, slots := 0, locals := 40 } : Room) s m #[(.ref vt), (.int ii)] below meth c T1 lq 0 0 ∧ Fr n0 lq := ⟨_, X1, N1⟩
  refine own_go (b := T1.setTop (mkF m 5 #[rv vt, iv ii] [])) st1 ?_
  refine own_go (b := T1.setTop (mkF m 6 #[rv vt, iv ii] [(.ref vt)])) (fun t k => XS.aloadN X1.here hx rfl (hb hby d25_5) rfl rfl k) ?_
  refine own_go (b := T1.setTop (mkF m 7 #[rv vt, iv ii] [(.int ii), (.ref vt)])) (fun t k => XS.iloadN X1.here hx rfl (hb hby d25_6) rfl  k) ?_
  obtain ⟨_, _, ⟨T2, L2, k2, n2⟩, -, X2, ⟨Lc2, hQ2, l2, y2, z2⟩, st2⟩ := Jvm.LawKit.callS X1 hx (y := (⟨"java/lang/StringUTF16", "getChar", "([BI)C"⟩ : MethodName)) hown (mvT hZ (hw _ (List.mem_of_getElem? (i := 115) rfl))) (mvT hZ (hw _ (List.mem_of_getElem? (i := 116) rfl))) (mvT hZ (hw _ (List.mem_of_getElem? (i := 63) rfl))) (mvT hZ (hw _ (List.mem_of_getElem? (i := 117) rfl))) (by decide) (backOf (W := 0) (rm24 l Z a0 hw [] vt ii kb N2 vs b0 b1 cc h0 n0 Z0 Sad Shi Slo Vb j0 v0 j1 v1 hcc) hZ (hw _ (List.mem_of_getElem? (i := 117) rfl)) (hw _ (List.mem_of_getElem? (i := 63) rfl)) (by decide) (by decide)) (g := (mkF m 7 #[rv vt, iv ii] [(.int ii), (.ref vt)])) rfl (by rw [hml]; rfl) (argsL := [(.ref vt), (.int ii)]) (rest := []) (lenOf pd_4 rfl) rfl (by show 2 * 0 + _ ≤ _; exact Nat.le_of_eq rfl) (hb hby d25_7) (fun _ _ => ⟨rfl, e1, (by decide : 0 + 0 ≤ _), (by decide : 0 + 0 ≤ _)⟩)
  dsimp only [Pt.U, Pt.locs, Pt.cells, Pt.slots] at X2 l2 y2 z2 st2 hQ2
  subst l2 y2 z2
  obtain ⟨rfl, N2q, e2⟩ := hQ2
  have N2 := Fr.app N1 N2q
  obtain ⟨lq2, X2, N2⟩ : ∃ lq, Stand p l e ({ frames := 3, cells := 0, slots := 0, locals := 40 } : Room) s m #[(.ref vt), (.int ii)] below meth c T2 lq 0 0 ∧ Fr n0 lq := ⟨_, X2, N2⟩
  refine own_go (b := T2.setTop (mkF m 10 #[rv vt, iv ii] [(.int cc)])) st2 ?_
  exact own_retN X2 hx hlk (t := .char) hrt (by simp) (hb hby d25_10) (Nat.le_of_ble_eq_true rfl) (Nat.le_of_ble_eq_true rfl) (⟨congrArg (fun z => some (Value.int z)) hnc, N2, e2⟩)
theorem d16_0 : decode jdk_42_method_154_code 0 = .ok (.getstatic 38, 3) := by decide +kernel
theorem d16_3 : decode jdk_42_method_154_code 3 = .ok (.ifCond .eq 14, 3) := by decide +kernel
theorem d16_6 : decode jdk_42_method_154_code 6 = .ok (.aload_n 0, 1) := by decide +kernel
theorem d16_7 : decode jdk_42_method_154_code 7 = .ok (.getfield 15, 3) := by decide +kernel
theorem d16_10 : decode jdk_42_method_154_code 10 = .ok (.ifCond .ne 7, 3) := by decide +kernel
theorem d16_13 : decode jdk_42_method_154_code 13 = .ok (.iconst 1, 1) := by decide +kernel
theorem d16_14 : decode jdk_42_method_154_code 14 = .ok (.goto 4, 3) := by decide +kernel
theorem d16_17 : decode jdk_42_method_154_code 17 = .ok (.iconst 0, 1) := by decide +kernel
theorem d16_18 : decode jdk_42_method_154_code 18 = .ok (.ireturn, 1) := by decide +kernel
theorem ef_16 (m : MethodId) (xs : Addr) : entryFrame m #[(.ref xs)] 1 = mkF m 0 #[rv xs] [] := by first | (simp [entryFrame, mkF, argsToLocals, Value.category]; done) | rfl
def Q16 (Z : State) (xs : Addr) (G1 : Int32) (h0 : Heap) (n0 : Nat) (v : Option Value) (h : Heap) (L : List Loc) : Prop := v = some (.int 0) ∧ Fr n0 L ∧ h = h0
set_option maxRecDepth 65536 in
set_option maxHeartbeats 40000000 in
theorem rm16 (l : Launch) (Z : State) (a0 : Array Value) (hw : ∀ d ∈ tables_1, d.before a0 Z = true) (ws : List Jvm.Cond) (xs : Addr) (G1 : Int32) (h0 : Heap) (n0 : Nat) (Z0 : n0 ≤ h0.size) (O2 : Sta Z h0 "java/lang/String" "COMPACT_STRINGS" "Z" (.int G1)) (P5 : ¬ (G1 = (0 : Int32))) (Fc : Fld Z h0 xs "java/lang/String" "coder" "B" (.int 1)) :
    MetFree l (⟨"java/lang/String", "isLatin1", "()Z"⟩ : MethodName) (head1 (Jvm.Cond.code (⟨"java/lang/String", "isLatin1", "()Z"⟩ : MethodName) jdk_42_method_154_code 1 (some .boolean) :: ws) ({ frames := 0, cells := 0, slots := 0, locals := 0 } : Room)) (fun a U => a = #[(.ref xs)] ∧ Z.Warmed39 U.vm ∧ U.heap = h0) (fun _ _ _ _ _ => True) (fun _ U o U' => ∃ v L, o = .returned v ∧ Q16 Z xs G1 h0 n0 v U'.heap L ∧ FrameEnd U o U' L ({ frames := 0, cells := 0, slots := 0, locals := 0 } : Room).cells ({ frames := 0, cells := 0, slots := 0, locals := 0 } : Room).slots) := by
  refine MetFree.of_bodySF (plainFor_of_name pn_2) hisR ?_
  intro p e s m args below meth c s₁ Bd hml0 hP hK
  obtain ⟨rfl, hZ, hh⟩ := hP
  have hx := Bd.exec
  have hby := Bd.bytes
  have hml : c.maxLocals = 1 := hml0
  have hown : s.vm.findClass "java/lang/String" = some m.cls := findClass_of_methodNamed Bd.named
  have hnm := (name_of_methodNamed Bd.named Bd.method).1
  have hlk : meth.locks = false := Bd.notSynchronized
  have hrt := Bd.returns
  have X0 : Stand p l e ({ frames := 0, cells := 0, slots := 0, locals := 0 } : Room) s m #[(.ref xs)] below meth c s₁ [] 0 0 := Stand.of_body Bd
  have e0 : s₁.heap = h0 := by rw [← hh, Bd.state]; rfl
  have N0 := Fr.nil n0
  show own_Endz p.tables e below (own_EndQ s ({ frames := 0, cells := 0, slots := 0, locals := 0 } : Room).cells ({ frames := 0, cells := 0, slots := 0, locals := 0 } : Room).slots (Q16 Z xs G1 h0 n0)) (s₁.setTop (entryFrame m #[(.ref xs)] 1))
  refine own_cast (ef_16 m xs) ?_
  obtain ⟨T1, X1, e1, st1⟩ := getS2 X0 hx hZ hown (host := "") (Or.inl (hw _ (List.mem_of_getElem? (i := 59) rfl))) Via.refl e0 O2 (g := (mkF m 0 #[rv xs] [])) rfl (hb hby d16_0)
  refine own_go (b := T1.setTop (mkF m 3 #[rv xs] [(.int G1)])) st1 ?_
  refine own_go (b := T1.setTop (mkF m 6 #[rv xs] [])) (fun t k => XS.ifNo X1.here hx rfl (hb hby d16_3) rfl ((if0 _ _).trans (feq P5).1) k) ?_
  refine own_go (b := T1.setTop (mkF m 7 #[rv xs] [(.ref xs)])) (fun t k => XS.aloadN X1.here hx rfl (hb hby d16_6) rfl rfl k) ?_
  obtain ⟨T2, X2, e2, st2⟩ := getF X1 hx hZ hown (host := "") (Or.inl (hw _ (List.mem_of_getElem? (i := 23) rfl))) Via.refl e1 Fc (g := (mkF m 7 #[rv xs] [(.ref xs)])) rfl rfl (hb hby d16_7)
  refine own_go (b := T2.setTop (mkF m 10 #[rv xs] [(.int 1)])) st2 ?_
  refine own_go (b := T2.setTop (mkF m 17 #[rv xs] [])) (fun t k => XS.ifYes X2.here hx rfl (pc0 := 10) (pc' := 17) rfl (hb hby d16_10) rfl ((if0 _ _).trans (feq (by decide : ¬ ((1 : Int32) = (0 : Int32)))).2) (by decide) (by decide) k) ?_
  refine own_go (b := T2.setTop (mkF m 18 #[rv xs] [(.int 0)])) (fun t k => XS.iconst X2.here hx rfl (hb hby d16_17) k) ?_
  exact own_retN X2 hx hlk (t := .boolean) hrt (by simp) (hb hby d16_18) (Nat.le_of_ble_eq_true rfl) (Nat.le_of_ble_eq_true rfl) (⟨by first | rfl | (simp only [nar, if_true, if_false]; done) | (simp only [nar, if_true, if_false]; rfl) | (simp [nar]; done) | (simp [nar]; rfl), N0, e2⟩)
theorem d15_0 : decode jdk_42_method_56_code 0 = .ok (.aload_n 0, 1) := by decide +kernel
theorem d15_1 : decode jdk_42_method_56_code 1 = .ok (.invokevirtual 492, 3) := by decide +kernel
theorem d15_4 : decode jdk_42_method_56_code 4 = .ok (.ifCond .eq 12, 3) := by decide +kernel
theorem d15_7 : decode jdk_42_method_56_code 7 = .ok (.aload_n 0, 1) := by decide +kernel
theorem d15_8 : decode jdk_42_method_56_code 8 = .ok (.getfield 9, 3) := by decide +kernel
theorem d15_11 : decode jdk_42_method_56_code 11 = .ok (.iload_n 1, 1) := by decide +kernel
theorem d15_12 : decode jdk_42_method_56_code 12 = .ok (.invokestatic 495, 3) := by decide +kernel
theorem d15_15 : decode jdk_42_method_56_code 15 = .ok (.ireturn, 1) := by decide +kernel
theorem d15_16 : decode jdk_42_method_56_code 16 = .ok (.aload_n 0, 1) := by decide +kernel
theorem d15_17 : decode jdk_42_method_56_code 17 = .ok (.getfield 9, 3) := by decide +kernel
theorem d15_20 : decode jdk_42_method_56_code 20 = .ok (.iload_n 1, 1) := by decide +kernel
theorem d15_21 : decode jdk_42_method_56_code 21 = .ok (.invokestatic 498, 3) := by decide +kernel
theorem d15_24 : decode jdk_42_method_56_code 24 = .ok (.ireturn, 1) := by decide +kernel
theorem pd_5 : parseMethodDescriptor "()Z" = some ⟨[], some .boolean⟩ := by decide +kernel
theorem ef_15 (m : MethodId) (xs : Addr) (ii : Int32) : entryFrame m #[(.ref xs), (.int ii)] 2 = mkF m 0 #[rv xs, iv ii] [] := by first | (simp [entryFrame, mkF, argsToLocals, Value.category]; done) | rfl
def Q15 (Z : State) (xs : Addr) (ii : Int32) (vt : Addr) (kb : ClassId) (N2 : Int32) (vs : List Value) (b0 : Int32) (b1 : Int32) (cc : Int32) (fm : Value) (G1 : Int32) (h0 : Heap) (n0 : Nat) (v : Option Value) (h : Heap) (L : List Loc) : Prop := v = some (.int cc) ∧ Fr n0 L ∧ h = h0
set_option maxRecDepth 65536 in
set_option maxHeartbeats 40000000 in
theorem rm15 (l : Launch) (Z : State) (a0 : Array Value) (hw : ∀ d ∈ tables_1, d.before a0 Z = true) (ws : List Jvm.Cond) (xs : Addr) (ii : Int32) (vt : Addr) (kb : ClassId) (N2 : Int32) (vs : List Value) (b0 : Int32) (b1 : Int32) (cc : Int32) (fm : Value) (G1 : Int32) (h0 : Heap) (n0 : Nat) (Z0 : n0 ≤ h0.size) (Ex : Exa Z h0 xs "java/lang/String") (Fv : Fld Z h0 xs "java/lang/String" "value" "[B" (.ref vt)) (Fc : Fld Z h0 xs "java/lang/String" "coder" "B" (.int 1)) (O2 : Sta Z h0 "java/lang/String" "COMPACT_STRINGS" "Z" (.int G1)) (P5 : ¬ (G1 = (0 : Int32))) (Sad : Sta Z h0 "java/lang/StringUTF16" "$assertionsDisabled" "Z" (.int 1)) (Shi : Sta Z h0 "java/lang/StringUTF16" "HI_BYTE_SHIFT" "I" (.int 0)) (Slo : Sta Z h0 "java/lang/StringUTF16" "LO_BYTE_SHIFT" "I" (.int 8)) (Vb : Arv Z h0 vt kb .byte N2 vs (.int 0)) (j0 : ¬ (ii <<< ((1 : Int32) &&& 31)) < 0 ∧ (ii <<< ((1 : Int32) &&& 31)) < N2) (v0 : vs.getD (ii <<< ((1 : Int32) &&& 31)).toNatClampNeg (.int 0) = .int b0) (j1 : ¬ ((ii <<< ((1 : Int32) &&& 31)) + (1 : Int32)) < 0 ∧ ((ii <<< ((1 : Int32) &&& 31)) + (1 : Int32)) < N2) (v1 : vs.getD ((ii <<< ((1 : Int32) &&& 31)) + (1 : Int32)).toNatClampNeg (.int 0) = .int b1) (hcc : nar .char (StrChars.pairCh b0 b1) = cc) (Sf : Sta Z h0 "jdk/internal/util/Preconditions" "SIOOBE_FORMATTER" "Ljava/util/function/BiFunction;" fm) (rf : fm.isRef = true) (hi0 : ¬ ii < (0 : Int32)) (hin : ii < (N2 >>> ((1 : Int32) &&& 31))) (hnc : nar .char cc = cc) :
    MetFree l (⟨"java/lang/String", "charAt", "(I)C"⟩ : MethodName) (head1 (Jvm.Cond.code (⟨"java/lang/String", "charAt", "(I)C"⟩ : MethodName) jdk_42_method_56_code 2 (some .char) :: ws) ({ frames := 4, cells := 0, slots := 0, locals := 53 } : Room)) (fun a U => a = #[(.ref xs), (.int ii)] ∧ Z.Warmed39 U.vm ∧ U.heap = h0) (fun _ _ _ _ _ => True) (fun _ U o U' => ∃ v L, o = .returned v ∧ Q15 Z xs ii vt kb N2 vs b0 b1 cc fm G1 h0 n0 v U'.heap L ∧ FrameEnd U o U' L ({ frames := 4, cells := 0, slots := 0, locals := 53 } : Room).cells ({ frames := 4, cells := 0, slots := 0, locals := 53 } : Room).slots) := by
  refine MetFree.of_bodySF (plainFor_of_name pn_2) hisR ?_
  intro p e s m args below meth c s₁ Bd hml0 hP hK
  obtain ⟨rfl, hZ, hh⟩ := hP
  have hx := Bd.exec
  have hby := Bd.bytes
  have hml : c.maxLocals = 2 := hml0
  have hown : s.vm.findClass "java/lang/String" = some m.cls := findClass_of_methodNamed Bd.named
  have hnm := (name_of_methodNamed Bd.named Bd.method).1
  have hlk : meth.locks = false := Bd.notSynchronized
  have hrt := Bd.returns
  have X0 : Stand p l e ({ frames := 4, cells := 0, slots := 0, locals := 53 } : Room) s m #[(.ref xs), (.int ii)] below meth c s₁ [] 0 0 := Stand.of_body Bd
  have e0 : s₁.heap = h0 := by rw [← hh, Bd.state]; rfl
  have N0 := Fr.nil n0
  show own_Endz p.tables e below (own_EndQ s ({ frames := 4, cells := 0, slots := 0, locals := 53 } : Room).cells ({ frames := 4, cells := 0, slots := 0, locals := 53 } : Room).slots (Q15 Z xs ii vt kb N2 vs b0 b1 cc fm G1 h0 n0)) (s₁.setTop (entryFrame m #[(.ref xs), (.int ii)] 2))
  refine own_cast (ef_15 m xs ii) ?_
  refine own_go (b := s₁.setTop (mkF m 1 #[rv xs, iv ii] [(.ref xs)])) (fun t k => XS.aloadN X0.here hx rfl (hb hby d15_0) rfl rfl k) ?_
  obtain ⟨cq1, kq1, q1a, q1b, q1c⟩ := isOf hZ e0 Ex
  obtain ⟨_, _, ⟨T1, L1, k1, n1⟩, -, X1, ⟨Lc1, hQ1, l1, y1, z1⟩, st1⟩ := X0.virtualBack hx (y := (⟨"java/lang/String", "isLatin1", "()Z"⟩ : MethodName)) (z := (⟨"java/lang/String", "isLatin1", "()Z"⟩ : MethodName)) hown (mvT hZ (hw _ (List.mem_of_getElem? (i := 80) rfl))) (mvT hZ (hw _ (List.mem_of_getElem? (i := 81) rfl))) (notFace_of_selects (args := #[]) (mvT hZ (hw _ (List.mem_of_getElem? (i := 83) rfl)))) (mvT hZ (hw _ (List.mem_of_getElem? (i := 83) rfl))) (mvT hZ (hw _ (List.mem_of_getElem? (i := 82) rfl))) (by decide) (backOf (W := 0) (rm16 l Z a0 hw [] xs G1 h0 n0 Z0 O2 P5 Fc) hZ (hw _ (List.mem_of_getElem? (i := 84) rfl)) (hw _ (List.mem_of_getElem? (i := 5) rfl)) (by decide) (by decide)) q1a q1c (g := (mkF m 1 #[rv xs, iv ii] [(.ref xs)])) rfl (by rw [hml]; rfl) (Steps.refl _) (argsL := []) (rest := []) (lenOf pd_5 rfl) rfl (by show 2 * 0 + _ ≤ _; exact Nat.le_of_eq rfl) (hb hby d15_1) (fun _ _ => ⟨rfl, e0, (by decide : 0 + 0 ≤ _), (by decide : 0 + 0 ≤ _)⟩)
  dsimp only [Pt.U, Pt.locs, Pt.cells, Pt.slots] at X1 l1 y1 z1 st1 hQ1
  subst l1 y1 z1
  obtain ⟨rfl, N1q, e1⟩ := hQ1
  have N1 := Fr.app N0 N1q
  obtain ⟨lq1, X1, N1⟩ : ∃ lq, Stand p l e ({ frames := 4, cells := 0, slots := 0, locals := 53 } : Room) s m #[(.ref xs), (.int ii)] below meth c T1 lq 0 0 ∧ Fr n0 lq := ⟨_, X1, N1⟩
  refine own_tr (b := T1.setTop (mkF m 4 #[rv xs, iv ii] [(.int 0)])) st1 ?_
  refine own_go (b := T1.setTop (mkF m 16 #[rv xs, iv ii] [])) (fun t k => XS.ifYes X1.here hx rfl (pc0 := 4) (pc' := 16) rfl (hb hby d15_4) rfl ((if0 _ _).trans (teq (rfl : (0 : Int32) = (0 : Int32))).1) (by decide) (by decide) k) ?_
  refine own_go (b := T1.setTop (mkF m 17 #[rv xs, iv ii] [(.ref xs)])) (fun t k => XS.aloadN X1.here hx rfl (hb hby d15_16) rfl rfl k) ?_
  obtain ⟨T2, X2, e2, st2⟩ := getF X1 hx hZ hown (host := "") (Or.inl (hw _ (List.mem_of_getElem? (i := 22) rfl))) Via.refl e1 Fv (g := (mkF m 17 #[rv xs, iv ii] [(.ref xs)])) rfl rfl (hb hby d15_17)
  refine own_go (b := T2.setTop (mkF m 20 #[rv xs, iv ii] [(.ref vt)])) st2 ?_
  refine own_go (b := T2.setTop (mkF m 21 #[rv xs, iv ii] [(.int ii), (.ref vt)])) (fun t k => XS.iloadN X2.here hx rfl (hb hby d15_20) rfl  k) ?_
  obtain ⟨_, _, ⟨T3, L3, k3, n3⟩, -, X3, ⟨Lc3, hQ3, l3, y3, z3⟩, st3⟩ := Jvm.LawKit.callS X2 hx (y := (⟨"java/lang/StringUTF16", "charAt", "([BI)C"⟩ : MethodName)) hown (mvT hZ (hw _ (List.mem_of_getElem? (i := 118) rfl))) (mvT hZ (hw _ (List.mem_of_getElem? (i := 119) rfl))) (mvT hZ (hw _ (List.mem_of_getElem? (i := 63) rfl))) (mvT hZ (hw _ (List.mem_of_getElem? (i := 120) rfl))) (by decide) (backOf (W := 0) (rm25 l Z a0 hw [] vt ii kb N2 vs b0 b1 cc fm h0 n0 Z0 Sad Shi Slo Vb j0 v0 j1 v1 hcc Sf rf hi0 hin hnc) hZ (hw _ (List.mem_of_getElem? (i := 120) rfl)) (hw _ (List.mem_of_getElem? (i := 63) rfl)) (by decide) (by decide)) (g := (mkF m 21 #[rv xs, iv ii] [(.int ii), (.ref vt)])) rfl (by rw [hml]; rfl) (argsL := [(.ref vt), (.int ii)]) (rest := []) (lenOf pd_4 rfl) rfl (by show 2 * 0 + _ ≤ _; exact Nat.le_of_eq rfl) (hb hby d15_21) (fun _ _ => ⟨rfl, e2, (by decide : 0 + 0 ≤ _), (by decide : 0 + 0 ≤ _)⟩)
  dsimp only [Pt.U, Pt.locs, Pt.cells, Pt.slots] at X3 l3 y3 z3 st3 hQ3
  subst l3 y3 z3
  obtain ⟨rfl, N3q, e3⟩ := hQ3
  have N3 := Fr.app N1 N3q
  obtain ⟨lq3, X3, N3⟩ : ∃ lq, Stand p l e ({ frames := 4, cells := 0, slots := 0, locals := 53 } : Room) s m #[(.ref xs), (.int ii)] below meth c T3 lq 0 0 ∧ Fr n0 lq := ⟨_, X3, N3⟩
  refine own_go (b := T3.setTop (mkF m 24 #[rv xs, iv ii] [(.int cc)])) st3 ?_
  exact own_retN X3 hx hlk (t := .char) hrt (by simp) (hb hby d15_24) (Nat.le_of_ble_eq_true rfl) (Nat.le_of_ble_eq_true rfl) (⟨congrArg (fun z => some (Value.int z)) hnc, N3, e3⟩)
theorem own_chW {p : Program} {l : Launch} {e : Env} {R : Room} {s : State} {args : Array Value} {below : List Frame} {len W : Nat} {Z : State} {a0 : Array Value} {h : Heap} {n0 : Nat} (hZ : Z.Warmed39 s.vm) (hw : ∀ d ∈ tables_1, d.before a0 Z = true) (hn : n0 ≤ h.size)
    {x : Addr} {cs : List Int32} (A : own_Sx Z h x cs) {g : Int32} (O2 : Sta Z h "java/lang/String" "COMPACT_STRINGS" "Z" (.int g)) (hg : ¬ g = 0) {fm : Value} (Sf : Sta Z h "jdk/internal/util/Preconditions" "SIOOBE_FORMATTER" "Ljava/util/function/BiFunction;" fm) (rf : fm.isRef = true) (Sad : Sta Z h "java/lang/StringUTF16" "$assertionsDisabled" "Z" (.int 1)) (Shi : Sta Z h "java/lang/StringUTF16" "HI_BYTE_SHIFT" "I" (.int 0)) (Slo : Sta Z h "java/lang/StringUTF16" "LO_BYTE_SHIFT" "I" (.int 8)) {i : Nat} (hi : i < cs.length) (hfr : 5 ≤ R.frames) (hlo : W + 66 ≤ R.locals) :
    Back l R p e below s args (⟨"java/lang/String", "charAt", "(I)C"⟩ : MethodName) len W (fun P a => a = #[.ref x, .int i.toInt32] ∧ P.U.heap = h ∧ P.cells + 0 ≤ R.cells ∧ P.slots + 0 ≤ R.slots)
      (fun P _ v B => ∃ L, (v = some (.int (cs.getD i 0)) ∧ Fr n0 L ∧ B.U.heap = h) ∧ B.locs = P.locs ++ L ∧ B.cells = P.cells + 0 ∧ B.slots = P.slots + 0) := by
  obtain ⟨t, kb, cd, N2, vs, h1, h2, h3, h4, h5, h6, h7, h8⟩ := A
  rcases id h5 with ⟨rfl, -⟩ | ⟨rfl, rfl, rfl, -⟩
  · refine Back.mono (StrChars.Road.chN hZ (fun d hd => hw d (own_wC d hd)) (kI := 4) (hw _ (List.mem_of_getElem? (i := 4) rfl)) h1 h2 h3 h4 h5 h6 O2 hg Sf rf h7 hi rfl (by omega) (by omega)) (fun P a hp => hp) (fun P a v B hp hq => ?_)
    obtain ⟨L, ⟨q1, rfl, q3⟩, r⟩ := hq
    exact ⟨[], ⟨q1, Fr.nil n0, q3⟩, r⟩
  · have l4 := h8 rfl
    obtain ⟨j0, v0, j1, v1, hcc, hnc, hin⟩ := own_g16 l4 hi h6
    exact backOf (W := W) (rm15 l Z a0 hw [] x i.toInt32 t kb _ _ _ _ _ fm g h n0 hn h1 h2 h3 O2 hg Sad Shi Slo h4 j0 v0 j1 v1 hcc Sf rf (own_nn (by omega)) hin hnc) hZ (hw _ (List.mem_of_getElem? (i := 79) rfl)) (hw _ (List.mem_of_getElem? (i := 5) rfl)) hfr (by show W + (2 + 11) + 53 ≤ _; omega)
theorem d22_0 : decode jdk_52_method_3_code 0 = .ok (.iload_n 0, 1) := by decide +kernel
theorem d22_1 : decode jdk_52_method_3_code 1 = .ok (.ifCond .ge 11, 3) := by decide +kernel
theorem d22_4 : decode jdk_52_method_3_code 4 = .ok (.new 17, 3) := by decide +kernel
theorem d22_7 : decode jdk_52_method_3_code 7 = .ok (.dup, 1) := by decide +kernel
theorem d22_8 : decode jdk_52_method_3_code 8 = .ok (.invokespecial 19, 3) := by decide +kernel
theorem d22_11 : decode jdk_52_method_3_code 11 = .ok (.athrow, 1) := by decide +kernel
theorem d22_12 : decode jdk_52_method_3_code 12 = .ok (.iload_n 0, 1) := by decide +kernel
theorem d22_13 : decode jdk_52_method_3_code 13 = .ok (.ldc 20, 2) := by decide +kernel
theorem d22_15 : decode jdk_52_method_3_code 15 = .ok (.if_icmp .lt 40, 3) := by decide +kernel
theorem d22_18 : decode jdk_52_method_3_code 18 = .ok (.new 21, 3) := by decide +kernel
theorem d22_21 : decode jdk_52_method_3_code 21 = .ok (.dup, 1) := by decide +kernel
theorem d22_22 : decode jdk_52_method_3_code 22 = .ok (.new 23, 3) := by decide +kernel
theorem d22_25 : decode jdk_52_method_3_code 25 = .ok (.dup, 1) := by decide +kernel
theorem d22_26 : decode jdk_52_method_3_code 26 = .ok (.invokespecial 25, 3) := by decide +kernel
theorem d22_29 : decode jdk_52_method_3_code 29 = .ok (.ldc 26, 2) := by decide +kernel
theorem d22_31 : decode jdk_52_method_3_code 31 = .ok (.invokevirtual 28, 3) := by decide +kernel
theorem d22_34 : decode jdk_52_method_3_code 34 = .ok (.iload_n 0, 1) := by decide +kernel
theorem d22_35 : decode jdk_52_method_3_code 35 = .ok (.invokevirtual 32, 3) := by decide +kernel
theorem d22_38 : decode jdk_52_method_3_code 38 = .ok (.ldc 35, 2) := by decide +kernel
theorem d22_40 : decode jdk_52_method_3_code 40 = .ok (.invokevirtual 28, 3) := by decide +kernel
theorem d22_43 : decode jdk_52_method_3_code 43 = .ok (.ldc 20, 2) := by decide +kernel
theorem d22_45 : decode jdk_52_method_3_code 45 = .ok (.invokevirtual 32, 3) := by decide +kernel
theorem d22_48 : decode jdk_52_method_3_code 48 = .ok (.invokevirtual 37, 3) := by decide +kernel
theorem d22_51 : decode jdk_52_method_3_code 51 = .ok (.invokespecial 41, 3) := by decide +kernel
theorem d22_54 : decode jdk_52_method_3_code 54 = .ok (.athrow, 1) := by decide +kernel
theorem d22_55 : decode jdk_52_method_3_code 55 = .ok (.iload_n 0, 1) := by decide +kernel
theorem d22_56 : decode jdk_52_method_3_code 56 = .ok (.iconst 1, 1) := by decide +kernel
theorem d22_57 : decode jdk_52_method_3_code 57 = .ok (.ishl, 1) := by decide +kernel
theorem d22_58 : decode jdk_52_method_3_code 58 = .ok (.ireturn, 1) := by decide +kernel
theorem ef_22 (m : MethodId) (ii : Int32) : entryFrame m #[(.int ii)] 1 = mkF m 0 #[iv ii] [] := by first | (simp [entryFrame, mkF, argsToLocals, Value.category]; done) | rfl
def Q22 (Z : State) (ii : Int32) (h0 : Heap) (n0 : Nat) (v : Option Value) (h : Heap) (L : List Loc) : Prop := v = some (.int (ii <<< ((1 : Int32) &&& 31))) ∧ Fr n0 L ∧ h = h0
set_option maxRecDepth 65536 in
set_option maxHeartbeats 40000000 in
theorem rm22 (l : Launch) (Z : State) (a0 : Array Value) (hw : ∀ d ∈ tables_1, d.before a0 Z = true) (ws : List Jvm.Cond) (ii : Int32) (h0 : Heap) (n0 : Nat) (Z0 : n0 ≤ h0.size) (hi0 : ¬ ii < (0 : Int32)) (hmx : ii < (1073741823 : Int32)) :
    MetFree l (⟨"java/lang/StringUTF16", "newBytesLength", "(I)I"⟩ : MethodName) (head1 (Jvm.Cond.code (⟨"java/lang/StringUTF16", "newBytesLength", "(I)I"⟩ : MethodName) jdk_52_method_3_code 1 (some .int) :: ws) ({ frames := 0, cells := 0, slots := 0, locals := 0 } : Room)) (fun a U => a = #[(.int ii)] ∧ Z.Warmed39 U.vm ∧ U.heap = h0) (fun _ _ _ _ _ => True) (fun _ U o U' => ∃ v L, o = .returned v ∧ Q22 Z ii h0 n0 v U'.heap L ∧ FrameEnd U o U' L ({ frames := 0, cells := 0, slots := 0, locals := 0 } : Room).cells ({ frames := 0, cells := 0, slots := 0, locals := 0 } : Room).slots) := by
  refine MetFree.of_bodySF (plainFor_of_name pn_0) hisR ?_
  intro p e s m args below meth c s₁ Bd hml0 hP hK
  obtain ⟨rfl, hZ, hh⟩ := hP
  have hx := Bd.exec
  have hby := Bd.bytes
  have hml : c.maxLocals = 1 := hml0
  have hown : s.vm.findClass "java/lang/StringUTF16" = some m.cls := findClass_of_methodNamed Bd.named
  have hnm := (name_of_methodNamed Bd.named Bd.method).1
  have hlk : meth.locks = false := Bd.notSynchronized
  have hrt := Bd.returns
  have X0 : Stand p l e ({ frames := 0, cells := 0, slots := 0, locals := 0 } : Room) s m #[(.int ii)] below meth c s₁ [] 0 0 := Stand.of_body Bd
  have e0 : s₁.heap = h0 := by rw [← hh, Bd.state]; rfl
  have N0 := Fr.nil n0
  show own_Endz p.tables e below (own_EndQ s ({ frames := 0, cells := 0, slots := 0, locals := 0 } : Room).cells ({ frames := 0, cells := 0, slots := 0, locals := 0 } : Room).slots (Q22 Z ii h0 n0)) (s₁.setTop (entryFrame m #[(.int ii)] 1))
  refine own_cast (ef_22 m ii) ?_
  refine own_go (b := s₁.setTop (mkF m 1 #[iv ii] [(.int ii)])) (fun t k => XS.iloadN X0.here hx rfl (hb hby d22_0) rfl  k) ?_
  refine own_go (b := s₁.setTop (mkF m 12 #[iv ii] [])) (fun t k => XS.ifYes X0.here hx rfl (pc0 := 1) (pc' := 12) rfl (hb hby d22_1) rfl ((if0 _ _).trans (flt hi0).2.1) (by decide) (by decide) k) ?_
  refine own_go (b := s₁.setTop (mkF m 13 #[iv ii] [(.int ii)])) (fun t k => XS.iloadN X0.here hx rfl (hb hby d22_12) rfl  k) ?_
  refine own_go (b := s₁.setTop (mkF m 15 #[iv ii] [(.int 1073741823), (.int ii)])) (fun t k => X0.ldcInt hx hown (mvT hZ (hw _ (List.mem_of_getElem? (i := 108) rfl))) (g := (mkF m 13 #[iv ii] [(.int ii)])) rfl (hb hby d22_13) t k) ?_
  refine own_go (b := s₁.setTop (mkF m 55 #[iv ii] [])) (fun t k => XS.icmpYes X0.here hx rfl (pc0 := 15) (pc' := 55) rfl (hb hby d22_15) rfl (tlt hmx).1 (by decide) (by decide) k) ?_
  refine own_go (b := s₁.setTop (mkF m 56 #[iv ii] [(.int ii)])) (fun t k => XS.iloadN X0.here hx rfl (hb hby d22_55) rfl  k) ?_
  refine own_go (b := s₁.setTop (mkF m 57 #[iv ii] [(.int 1), (.int ii)])) (fun t k => XS.iconst X0.here hx rfl (hb hby d22_56) k) ?_
  refine own_go (b := s₁.setTop (mkF m 58 #[iv ii] [(.int (ii <<< ((1 : Int32) &&& 31)))])) (fun t k => XS.ishl X0.here hx rfl (hb hby d22_57) rfl k) ?_
  exact own_retI X0 hx hlk hrt (hb hby d22_58) (Nat.le_of_ble_eq_true rfl) (Nat.le_of_ble_eq_true rfl) (⟨by first | rfl | (simp only [if_true, if_true, if_false]; done) | (simp only [if_true, if_true, if_false]; rfl) | (simp []; done) | (simp []; rfl), N0, e0⟩)
theorem d21_0 : decode jdk_52_method_2_code 0 = .ok (.iload_n 0, 1) := by decide +kernel
theorem d21_1 : decode jdk_52_method_2_code 1 = .ok (.invokestatic 11, 3) := by decide +kernel
theorem d21_4 : decode jdk_52_method_2_code 4 = .ok (.newarray .byte, 2) := by decide +kernel
theorem d21_6 : decode jdk_52_method_2_code 6 = .ok (.areturn, 1) := by decide +kernel
theorem pd_6 : parseMethodDescriptor "(I)I" = some ⟨[.int], some .int⟩ := by decide +kernel
theorem ef_21 (m : MethodId) (ii : Int32) : entryFrame m #[(.int ii)] 1 = mkF m 0 #[iv ii] [] := by first | (simp [entryFrame, mkF, argsToLocals, Value.category]; done) | rfl
def Q21 (Z : State) (ii : Int32) (h0 : Heap) (n0 : Nat) (v : Option Value) (h : Heap) (L : List Loc) : Prop := ∃ a k, v = some (.ref a) ∧ Fr n0 L ∧ Keep h0 h [] ∧ n0 ≤ a ∧ h0.size ≤ a ∧ Arv Z h a k .byte (ii <<< ((1 : Int32) &&& 31)) [] (.int 0)
set_option maxRecDepth 65536 in
set_option maxHeartbeats 40000000 in
theorem rm21 (l : Launch) (Z : State) (a0 : Array Value) (hw : ∀ d ∈ tables_1, d.before a0 Z = true) (ws : List Jvm.Cond) (ii : Int32) (h0 : Heap) (n0 : Nat) (Z0 : n0 ≤ h0.size) (hi0 : ¬ ii < (0 : Int32)) (hmx : ii < (1073741823 : Int32)) (hz0 : ¬ (ii <<< ((1 : Int32) &&& 31)) < 0) (hcp : (ii <<< ((1 : Int32) &&& 31)).toNatClampNeg ≤ 8) :
    MetFree l (⟨"java/lang/StringUTF16", "newBytesFor", "(I)[B"⟩ : MethodName) (head1 (Jvm.Cond.code (⟨"java/lang/StringUTF16", "newBytesFor", "(I)[B"⟩ : MethodName) jdk_52_method_2_code 1 (some (.array .byte)) :: ws) ({ frames := 1, cells := 1, slots := 8, locals := 12 } : Room)) (fun a U => a = #[(.int ii)] ∧ Z.Warmed39 U.vm ∧ U.heap = h0) (fun _ _ _ _ _ => True) (fun _ U o U' => ∃ v L, o = .returned v ∧ Q21 Z ii h0 n0 v U'.heap L ∧ FrameEnd U o U' L ({ frames := 1, cells := 1, slots := 8, locals := 12 } : Room).cells ({ frames := 1, cells := 1, slots := 8, locals := 12 } : Room).slots) := by
  refine MetFree.of_bodySF (plainFor_of_name pn_0) hisR ?_
  intro p e s m args below meth c s₁ Bd hml0 hP hK
  obtain ⟨rfl, hZ, hh⟩ := hP
  have hx := Bd.exec
  have hby := Bd.bytes
  have hml : c.maxLocals = 1 := hml0
  have hown : s.vm.findClass "java/lang/StringUTF16" = some m.cls := findClass_of_methodNamed Bd.named
  have hnm := (name_of_methodNamed Bd.named Bd.method).1
  have hlk : meth.locks = false := Bd.notSynchronized
  have hrt := Bd.returns
  have X0 : Stand p l e ({ frames := 1, cells := 1, slots := 8, locals := 12 } : Room) s m #[(.int ii)] below meth c s₁ [] 0 0 := Stand.of_body Bd
  have e0 : s₁.heap = h0 := by rw [← hh, Bd.state]; rfl
  have N0 := Fr.nil n0
  show own_Endz p.tables e below (own_EndQ s ({ frames := 1, cells := 1, slots := 8, locals := 12 } : Room).cells ({ frames := 1, cells := 1, slots := 8, locals := 12 } : Room).slots (Q21 Z ii h0 n0)) (s₁.setTop (entryFrame m #[(.int ii)] 1))
  refine own_cast (ef_21 m ii) ?_
  refine own_go (b := s₁.setTop (mkF m 1 #[iv ii] [(.int ii)])) (fun t k => XS.iloadN X0.here hx rfl (hb hby d21_0) rfl  k) ?_
  obtain ⟨_, _, ⟨T1, L1, k1, n1⟩, -, X1, ⟨Lc1, hQ1, l1, y1, z1⟩, st1⟩ := Jvm.LawKit.callS X0 hx (y := (⟨"java/lang/StringUTF16", "newBytesLength", "(I)I"⟩ : MethodName)) hown (mvT hZ (hw _ (List.mem_of_getElem? (i := 105) rfl))) (mvT hZ (hw _ (List.mem_of_getElem? (i := 106) rfl))) (mvT hZ (hw _ (List.mem_of_getElem? (i := 63) rfl))) (mvT hZ (hw _ (List.mem_of_getElem? (i := 107) rfl))) (by decide) (backOf (W := 0) (rm22 l Z a0 hw [] ii  h0 n0 Z0 hi0 hmx) hZ (hw _ (List.mem_of_getElem? (i := 107) rfl)) (hw _ (List.mem_of_getElem? (i := 63) rfl)) (by decide) (by decide)) (g := (mkF m 1 #[iv ii] [(.int ii)])) rfl (by rw [hml]; rfl) (argsL := [(.int ii)]) (rest := []) (lenOf pd_6 rfl) rfl (by show 2 * 0 + _ ≤ _; exact Nat.le_of_eq rfl) (hb hby d21_1) (fun _ _ => ⟨rfl, e0, (by decide : 0 + 0 ≤ _), (by decide : 0 + 0 ≤ _)⟩)
  dsimp only [Pt.U, Pt.locs, Pt.cells, Pt.slots] at X1 l1 y1 z1 st1 hQ1
  subst l1 y1 z1
  obtain ⟨rfl, N1q, e1⟩ := hQ1
  have N1 := Fr.app N0 N1q
  obtain ⟨lq1, X1, N1⟩ : ∃ lq, Stand p l e ({ frames := 1, cells := 1, slots := 8, locals := 12 } : Room) s m #[(.int ii)] below meth c T1 lq 0 0 ∧ Fr n0 lq := ⟨_, X1, N1⟩
  refine own_go (b := T1.setTop (mkF m 4 #[iv ii] [(.int (ii <<< ((1 : Int32) &&& 31)))])) st1 ?_
  obtain ⟨T2, h2, k2, X2, e2, E2, A2, st2⟩ := newP X1 hx hZ (hw _ (List.mem_of_getElem? (i := 17) rfl)) e1 (g := (mkF m 4 #[iv ii] [(.int (ii <<< ((1 : Int32) &&& 31)))])) rfl (hb hby d21_4) rfl hz0 (cap := 8) hcp (by decide) (by decide) (by decide)
  obtain ⟨b2, g2⟩ : ∃ z, z = h0.size := ⟨_, rfl⟩
  rw [← g2] at A2 st2
  have g_b2 : n0 ≤ b2 := Nat.le_trans Z0 (Nat.le_of_eq g2.symm)
  have sz_b2 : h0.size ≤ b2 := Nat.le_trans (Keep.refl h0 []).1 (Nat.le_of_eq g2.symm)
  have Zs2 : n0 ≤ h2.size := Nat.le_trans Z0 E2.1
  have Kp2 : Keep h0 h2 [] := (Keep.refl h0 []).ext E2
  have V_b2 := Arv.new A2 hz0
  refine own_go (b := T2.setTop (mkF m 6 #[iv ii] [(.ref b2)])) st2 ?_
  exact own_retA X2 hx hlk hrt rfl rfl (hb hby d21_6) (Nat.le_of_ble_eq_true rfl) (Nat.le_of_ble_eq_true rfl) (⟨_, _, rfl, N1, by rw [e2]; exact Kp2, g_b2, sz_b2, by rw [e2]; exact V_b2⟩)
theorem d23_0 : decode jdk_52_method_4_code 0 = .ok (.getstatic 44, 3) := by decide +kernel
theorem d23_3 : decode jdk_52_method_4_code 3 = .ok (.ifCond .ne 25, 3) := by decide +kernel
theorem d23_6 : decode jdk_52_method_4_code 6 = .ok (.iload_n 1, 1) := by decide +kernel
theorem d23_7 : decode jdk_52_method_4_code 7 = .ok (.ifCond .lt 11, 3) := by decide +kernel
theorem d23_10 : decode jdk_52_method_4_code 10 = .ok (.iload_n 1, 1) := by decide +kernel
theorem d23_11 : decode jdk_52_method_4_code 11 = .ok (.aload_n 0, 1) := by decide +kernel
theorem d23_12 : decode jdk_52_method_4_code 12 = .ok (.invokestatic 48, 3) := by decide +kernel
theorem d23_15 : decode jdk_52_method_4_code 15 = .ok (.if_icmp .lt 13, 3) := by decide +kernel
theorem d23_18 : decode jdk_52_method_4_code 18 = .ok (.new 52, 3) := by decide +kernel
theorem d23_21 : decode jdk_52_method_4_code 21 = .ok (.dup, 1) := by decide +kernel
theorem d23_22 : decode jdk_52_method_4_code 22 = .ok (.ldc 54, 2) := by decide +kernel
theorem d23_24 : decode jdk_52_method_4_code 24 = .ok (.invokespecial 56, 3) := by decide +kernel
theorem d23_27 : decode jdk_52_method_4_code 27 = .ok (.athrow, 1) := by decide +kernel
theorem d23_28 : decode jdk_52_method_4_code 28 = .ok (.iload_n 1, 1) := by decide +kernel
theorem d23_29 : decode jdk_52_method_4_code 29 = .ok (.iconst 1, 1) := by decide +kernel
theorem d23_30 : decode jdk_52_method_4_code 30 = .ok (.ishl, 1) := by decide +kernel
theorem d23_31 : decode jdk_52_method_4_code 31 = .ok (.istore_n 1, 1) := by decide +kernel
theorem d23_32 : decode jdk_52_method_4_code 32 = .ok (.aload_n 0, 1) := by decide +kernel
theorem d23_33 : decode jdk_52_method_4_code 33 = .ok (.iload_n 1, 1) := by decide +kernel
theorem d23_34 : decode jdk_52_method_4_code 34 = .ok (.iinc 1 1, 3) := by decide +kernel
theorem d23_37 : decode jdk_52_method_4_code 37 = .ok (.iload_n 2, 1) := by decide +kernel
theorem d23_38 : decode jdk_52_method_4_code 38 = .ok (.getstatic 59, 3) := by decide +kernel
theorem d23_41 : decode jdk_52_method_4_code 41 = .ok (.ishr, 1) := by decide +kernel
theorem d23_42 : decode jdk_52_method_4_code 42 = .ok (.i2b, 1) := by decide +kernel
theorem d23_43 : decode jdk_52_method_4_code 43 = .ok (.bastore, 1) := by decide +kernel
theorem d23_44 : decode jdk_52_method_4_code 44 = .ok (.aload_n 0, 1) := by decide +kernel
theorem d23_45 : decode jdk_52_method_4_code 45 = .ok (.iload_n 1, 1) := by decide +kernel
theorem d23_46 : decode jdk_52_method_4_code 46 = .ok (.iload_n 2, 1) := by decide +kernel
theorem d23_47 : decode jdk_52_method_4_code 47 = .ok (.getstatic 63, 3) := by decide +kernel
theorem d23_50 : decode jdk_52_method_4_code 50 = .ok (.ishr, 1) := by decide +kernel
theorem d23_51 : decode jdk_52_method_4_code 51 = .ok (.i2b, 1) := by decide +kernel
theorem d23_52 : decode jdk_52_method_4_code 52 = .ok (.bastore, 1) := by decide +kernel
theorem d23_53 : decode jdk_52_method_4_code 53 = .ok (.return_, 1) := by decide +kernel
theorem ef_23 (m : MethodId) (vt : Addr) (ii : Int32) (cc : Int32) : entryFrame m #[(.ref vt), (.int ii), (.int cc)] 3 = mkF m 0 #[rv vt, iv ii, iv cc] [] := by first | (simp [entryFrame, mkF, argsToLocals, Value.category]; done) | rfl
def Q23 (Z : State) (vt : Addr) (ii : Int32) (cc : Int32) (kb : ClassId) (N2 : Int32) (vs : List Value) (i : Nat) (h0 : Heap) (n0 : Nat) (v : Option Value) (h : Heap) (L : List Loc) : Prop := v = none ∧ Fr n0 L ∧ Keep h0 h [vt] ∧ Arv Z h vt kb .byte N2 ((vs.set (2 * i) (.int (StrChars.lo8 cc))).set (2 * i + 1) (.int (StrChars.hi8 cc))) (.int 0)
set_option maxRecDepth 65536 in
set_option maxHeartbeats 40000000 in
theorem rm23 (l : Launch) (Z : State) (a0 : Array Value) (hw : ∀ d ∈ tables_1, d.before a0 Z = true) (ws : List Jvm.Cond) (vt : Addr) (ii : Int32) (cc : Int32) (kb : ClassId) (N2 : Int32) (vs : List Value) (i : Nat) (h0 : Heap) (n0 : Nat) (Z0 : n0 ≤ h0.size) (Sad : Sta Z h0 "java/lang/StringUTF16" "$assertionsDisabled" "Z" (.int 1)) (Shi : Sta Z h0 "java/lang/StringUTF16" "HI_BYTE_SHIFT" "I" (.int 0)) (Slo : Sta Z h0 "java/lang/StringUTF16" "LO_BYTE_SHIFT" "I" (.int 8)) (Vb : Arv Z h0 vt kb .byte N2 vs (.int 0)) (j0 : ¬ (ii <<< ((1 : Int32) &&& 31)) < 0 ∧ (ii <<< ((1 : Int32) &&& 31)) < N2) (x0 : (ii <<< ((1 : Int32) &&& 31)).toNatClampNeg = 2 * i) (j1 : ¬ ((ii <<< ((1 : Int32) &&& 31)) + (1 : Int32)) < 0 ∧ ((ii <<< ((1 : Int32) &&& 31)) + (1 : Int32)) < N2) (x1 : ((ii <<< ((1 : Int32) &&& 31)) + (1 : Int32)).toNatClampNeg = 2 * i + 1) (hl : 2 * i + 1 < vs.length) (gt : n0 ≤ vt) :
    MetFree l (⟨"java/lang/StringUTF16", "putChar", "([BII)V"⟩ : MethodName) (head1 (Jvm.Cond.code (⟨"java/lang/StringUTF16", "putChar", "([BII)V"⟩ : MethodName) jdk_52_method_4_code 3 none :: ws) ({ frames := 0, cells := 0, slots := 0, locals := 0 } : Room)) (fun a U => a = #[(.ref vt), (.int ii), (.int cc)] ∧ Z.Warmed39 U.vm ∧ U.heap = h0) (fun _ _ _ _ _ => True) (fun _ U o U' => ∃ v L, o = .returned v ∧ Q23 Z vt ii cc kb N2 vs i h0 n0 v U'.heap L ∧ FrameEnd U o U' L ({ frames := 0, cells := 0, slots := 0, locals := 0 } : Room).cells ({ frames := 0, cells := 0, slots := 0, locals := 0 } : Room).slots) := by
  refine MetFree.of_bodySF (plainFor_of_name pn_0) hisR ?_
  intro p e s m args below meth c s₁ Bd hml0 hP hK
  obtain ⟨rfl, hZ, hh⟩ := hP
  have hx := Bd.exec
  have hby := Bd.bytes
  have hml : c.maxLocals = 3 := hml0
  have hown : s.vm.findClass "java/lang/StringUTF16" = some m.cls := findClass_of_methodNamed Bd.named
  have hnm := (name_of_methodNamed Bd.named Bd.method).1
  have hlk : meth.locks = false := Bd.notSynchronized
  have hrt := Bd.returns
  have X0 : Stand p l e ({ frames := 0, cells := 0, slots := 0, locals := 0 } : Room) s m #[(.ref vt), (.int ii), (.int cc)] below meth c s₁ [] 0 0 := Stand.of_body Bd
  have e0 : s₁.heap = h0 := by rw [← hh, Bd.state]; rfl
  have N0 := Fr.nil n0
  show own_Endz p.tables e below (own_EndQ s ({ frames := 0, cells := 0, slots := 0, locals := 0 } : Room).cells ({ frames := 0, cells := 0, slots := 0, locals := 0 } : Room).slots (Q23 Z vt ii cc kb N2 vs i h0 n0)) (s₁.setTop (entryFrame m #[(.ref vt), (.int ii), (.int cc)] 3))
  refine own_cast (ef_23 m vt ii cc) ?_
  obtain ⟨T1, X1, e1, st1⟩ := getS2 X0 hx hZ hown (host := "") (Or.inl (hw _ (List.mem_of_getElem? (i := 112) rfl))) Via.refl e0 Sad (g := (mkF m 0 #[rv vt, iv ii, iv cc] [])) rfl (hb hby d23_0)
  refine own_go (b := T1.setTop (mkF m 3 #[rv vt, iv ii, iv cc] [(.int 1)])) st1 ?_
  refine own_go (b := T1.setTop (mkF m 28 #[rv vt, iv ii, iv cc] [])) (fun t k => XS.ifYes X1.here hx rfl (pc0 := 3) (pc' := 28) rfl (hb hby d23_3) rfl ((if0 _ _).trans (feq (by decide : ¬ ((1 : Int32) = (0 : Int32)))).2) (by decide) (by decide) k) ?_
  refine own_go (b := T1.setTop (mkF m 29 #[rv vt, iv ii, iv cc] [(.int ii)])) (fun t k => XS.iloadN X1.here hx rfl (hb hby d23_28) rfl  k) ?_
  refine own_go (b := T1.setTop (mkF m 30 #[rv vt, iv ii, iv cc] [(.int 1), (.int ii)])) (fun t k => XS.iconst X1.here hx rfl (hb hby d23_29) k) ?_
  refine own_go (b := T1.setTop (mkF m 31 #[rv vt, iv ii, iv cc] [(.int (ii <<< ((1 : Int32) &&& 31)))])) (fun t k => XS.ishl X1.here hx rfl (hb hby d23_30) rfl k) ?_
  refine own_go (b := T1.setTop (mkF m 32 #[rv vt, iv (ii <<< ((1 : Int32) &&& 31)), iv cc] [])) (fun t k => XS.istoreN X1.here hx rfl (hb hby d23_31) rfl (l' := #[rv vt, iv (ii <<< ((1 : Int32) &&& 31)), iv cc]) rfl k) ?_
  refine own_go (b := T1.setTop (mkF m 33 #[rv vt, iv (ii <<< ((1 : Int32) &&& 31)), iv cc] [(.ref vt)])) (fun t k => XS.aloadN X1.here hx rfl (hb hby d23_32) rfl rfl k) ?_
  refine own_go (b := T1.setTop (mkF m 34 #[rv vt, iv (ii <<< ((1 : Int32) &&& 31)), iv cc] [(.int (ii <<< ((1 : Int32) &&& 31))), (.ref vt)])) (fun t k => XS.iloadN X1.here hx rfl (hb hby d23_33) rfl  k) ?_
  refine own_go (b := T1.setTop (mkF m 37 #[rv vt, iv ((ii <<< ((1 : Int32) &&& 31)) + (1 : Int32)), iv cc] [(.int (ii <<< ((1 : Int32) &&& 31))), (.ref vt)])) (fun t k => XS.iinc X1.here hx rfl (hb hby d23_34) rfl (l' := #[rv vt, iv ((ii <<< ((1 : Int32) &&& 31)) + (1 : Int32)), iv cc]) rfl k) ?_
  refine own_go (b := T1.setTop (mkF m 38 #[rv vt, iv ((ii <<< ((1 : Int32) &&& 31)) + (1 : Int32)), iv cc] [(.int cc), (.int (ii <<< ((1 : Int32) &&& 31))), (.ref vt)])) (fun t k => XS.iloadN X1.here hx rfl (hb hby d23_37) rfl  k) ?_
  obtain ⟨T2, X2, e2, st2⟩ := getS2 X1 hx hZ hown (host := "") (Or.inl (hw _ (List.mem_of_getElem? (i := 113) rfl))) Via.refl e1 Shi (g := (mkF m 38 #[rv vt, iv ((ii <<< ((1 : Int32) &&& 31)) + (1 : Int32)), iv cc] [(.int cc), (.int (ii <<< ((1 : Int32) &&& 31))), (.ref vt)])) rfl (hb hby d23_38)
  refine own_go (b := T2.setTop (mkF m 41 #[rv vt, iv ((ii <<< ((1 : Int32) &&& 31)) + (1 : Int32)), iv cc] [(.int 0), (.int cc), (.int (ii <<< ((1 : Int32) &&& 31))), (.ref vt)])) st2 ?_
  refine own_go (b := T2.setTop (mkF m 42 #[rv vt, iv ((ii <<< ((1 : Int32) &&& 31)) + (1 : Int32)), iv cc] [(.int (cc >>> ((0 : Int32) &&& 31))), (.int (ii <<< ((1 : Int32) &&& 31))), (.ref vt)])) (fun t k => XS.ishr X2.here hx rfl (hb hby d23_41) rfl k) ?_
  refine own_go (b := T2.setTop (mkF m 43 #[rv vt, iv ((ii <<< ((1 : Int32) &&& 31)) + (1 : Int32)), iv cc] [(.int ((cc >>> ((0 : Int32) &&& 31)).toInt8.toInt32)), (.int (ii <<< ((1 : Int32) &&& 31))), (.ref vt)])) (fun t k => XS.i2b X2.here hx rfl (hb hby d23_42) rfl k) ?_
  obtain ⟨cl3, Ar3, qc3, Sz3, Ng3, Hs3, Ft3⟩ := id Vb
  obtain ⟨T4, h4, X4, e4, W4, st4⟩ := stB X2 hx hZ e2 Ar3 (j := (ii <<< ((1 : Int32) &&& 31))) (inb_of Sz3 j0) (g := (mkF m 43 #[rv vt, iv ((ii <<< ((1 : Int32) &&& 31)) + (1 : Int32)), iv cc] [(.int ((cc >>> ((0 : Int32) &&& 31)).toInt8.toInt32)), (.int (ii <<< ((1 : Int32) &&& 31))), (.ref vt)])) rfl rfl (hb hby d23_43)
  have V_4 : Arv Z h4 vt kb .byte N2 (vs.set (2 * i) (.int (StrChars.lo8 cc))) (.int 0) := by
    have q := Arv.set Ar3 qc3 Sz3 Ng3 Hs3 Ft3 (v := .int (nar .byte ((cc >>> ((0 : Int32) &&& 31)).toInt8.toInt32))) (fits_nar_byte _) W4 (2 * i) x0 (by first | omega | (simp only [List.length_set]; omega))
    rw [own_b0] at q
    exact q
  have Zs4 : n0 ≤ h4.size := Nat.le_trans Z0 (Keep.of_wr W4).1
  have N4 := Fr.snoc X4 N0 gt
  have Kp4 : Keep h0 h4 [vt] := (Keep.refl h0 [vt]).wr W4 (Or.inl (List.mem_of_getElem? (i := 0) rfl))
  refine own_go (b := T4.setTop (mkF m 44 #[rv vt, iv ((ii <<< ((1 : Int32) &&& 31)) + (1 : Int32)), iv cc] [])) st4 ?_
  refine own_go (b := T4.setTop (mkF m 45 #[rv vt, iv ((ii <<< ((1 : Int32) &&& 31)) + (1 : Int32)), iv cc] [(.ref vt)])) (fun t k => XS.aloadN X4.here hx rfl (hb hby d23_44) rfl rfl k) ?_
  refine own_go (b := T4.setTop (mkF m 46 #[rv vt, iv ((ii <<< ((1 : Int32) &&& 31)) + (1 : Int32)), iv cc] [(.int ((ii <<< ((1 : Int32) &&& 31)) + (1 : Int32))), (.ref vt)])) (fun t k => XS.iloadN X4.here hx rfl (hb hby d23_45) rfl  k) ?_
  refine own_go (b := T4.setTop (mkF m 47 #[rv vt, iv ((ii <<< ((1 : Int32) &&& 31)) + (1 : Int32)), iv cc] [(.int cc), (.int ((ii <<< ((1 : Int32) &&& 31)) + (1 : Int32))), (.ref vt)])) (fun t k => XS.iloadN X4.here hx rfl (hb hby d23_46) rfl  k) ?_
  obtain ⟨T5, X5, e5, st5⟩ := getS2 X4 hx hZ hown (host := "") (Or.inl (hw _ (List.mem_of_getElem? (i := 114) rfl))) Via.refl e4 (Slo.wr W4) (g := (mkF m 47 #[rv vt, iv ((ii <<< ((1 : Int32) &&& 31)) + (1 : Int32)), iv cc] [(.int cc), (.int ((ii <<< ((1 : Int32) &&& 31)) + (1 : Int32))), (.ref vt)])) rfl (hb hby d23_47)
  refine own_go (b := T5.setTop (mkF m 50 #[rv vt, iv ((ii <<< ((1 : Int32) &&& 31)) + (1 : Int32)), iv cc] [(.int 8), (.int cc), (.int ((ii <<< ((1 : Int32) &&& 31)) + (1 : Int32))), (.ref vt)])) st5 ?_
  refine own_go (b := T5.setTop (mkF m 51 #[rv vt, iv ((ii <<< ((1 : Int32) &&& 31)) + (1 : Int32)), iv cc] [(.int (cc >>> ((8 : Int32) &&& 31))), (.int ((ii <<< ((1 : Int32) &&& 31)) + (1 : Int32))), (.ref vt)])) (fun t k => XS.ishr X5.here hx rfl (hb hby d23_50) rfl k) ?_
  refine own_go (b := T5.setTop (mkF m 52 #[rv vt, iv ((ii <<< ((1 : Int32) &&& 31)) + (1 : Int32)), iv cc] [(.int ((cc >>> ((8 : Int32) &&& 31)).toInt8.toInt32)), (.int ((ii <<< ((1 : Int32) &&& 31)) + (1 : Int32))), (.ref vt)])) (fun t k => XS.i2b X5.here hx rfl (hb hby d23_51) rfl k) ?_
  obtain ⟨cl6, Ar6, qc6, Sz6, Ng6, Hs6, Ft6⟩ := id V_4
  obtain ⟨T7, h7, X7, e7, W7, st7⟩ := stB X5 hx hZ e5 Ar6 (j := ((ii <<< ((1 : Int32) &&& 31)) + (1 : Int32))) (inb_of Sz6 j1) (g := (mkF m 52 #[rv vt, iv ((ii <<< ((1 : Int32) &&& 31)) + (1 : Int32)), iv cc] [(.int ((cc >>> ((8 : Int32) &&& 31)).toInt8.toInt32)), (.int ((ii <<< ((1 : Int32) &&& 31)) + (1 : Int32))), (.ref vt)])) rfl rfl (hb hby d23_52)
  have V_7 : Arv Z h7 vt kb .byte N2 ((vs.set (2 * i) (.int (StrChars.lo8 cc))).set (2 * i + 1) (.int (StrChars.hi8 cc))) (.int 0) := by
    have q := Arv.set Ar6 qc6 Sz6 Ng6 Hs6 Ft6 (v := .int (nar .byte ((cc >>> ((8 : Int32) &&& 31)).toInt8.toInt32))) (fits_nar_byte _) W7 (2 * i + 1) x1 (by first | omega | (simp only [List.length_set]; omega))
    rw [own_b8] at q
    exact q
  have Zs7 : n0 ≤ h7.size := Nat.le_trans Zs4 (Keep.of_wr W7).1
  have N7 := Fr.snoc X7 N4 gt
  have Kp7 : Keep h0 h7 [vt] := Kp4.wr W7 (Or.inl (List.mem_of_getElem? (i := 0) rfl))
  refine own_go (b := T7.setTop (mkF m 53 #[rv vt, iv ((ii <<< ((1 : Int32) &&& 31)) + (1 : Int32)), iv cc] [])) st7 ?_
  exact own_retV X7 hx hlk hrt (hb hby d23_53) (Nat.le_of_ble_eq_true rfl) (Nat.le_of_ble_eq_true rfl) (⟨rfl, N7, by rw [e7]; exact Kp7, by rw [e7]; exact V_7⟩)
theorem own_ltM {n : Nat} (h : n ≤ 4) : n.toInt32 < (1073741823 : Int32) := by
  have t : ∀ k : Fin 5, k.val.toInt32 < (1073741823 : Int32) := by decide +kernel
  exact t ⟨n, by omega⟩
theorem d20_0 : decode jdk_52_method_14_code 0 = .ok (.iload_n 2, 1) := by decide +kernel
theorem d20_1 : decode jdk_52_method_14_code 1 = .ok (.invokestatic 107, 3) := by decide +kernel
theorem d20_4 : decode jdk_52_method_14_code 4 = .ok (.astore_n 3, 1) := by decide +kernel
theorem d20_5 : decode jdk_52_method_14_code 5 = .ok (.iconst 0, 1) := by decide +kernel
theorem d20_6 : decode jdk_52_method_14_code 6 = .ok (.istore 4, 2) := by decide +kernel
theorem d20_8 : decode jdk_52_method_14_code 8 = .ok (.iload 4, 2) := by decide +kernel
theorem d20_10 : decode jdk_52_method_14_code 10 = .ok (.iload_n 2, 1) := by decide +kernel
theorem d20_11 : decode jdk_52_method_14_code 11 = .ok (.if_icmp .ge 21, 3) := by decide +kernel
theorem d20_14 : decode jdk_52_method_14_code 14 = .ok (.aload_n 3, 1) := by decide +kernel
theorem d20_15 : decode jdk_52_method_14_code 15 = .ok (.iload 4, 2) := by decide +kernel
theorem d20_17 : decode jdk_52_method_14_code 17 = .ok (.aload_n 0, 1) := by decide +kernel
theorem d20_18 : decode jdk_52_method_14_code 18 = .ok (.iload_n 1, 1) := by decide +kernel
theorem d20_19 : decode jdk_52_method_14_code 19 = .ok (.caload, 1) := by decide +kernel
theorem d20_20 : decode jdk_52_method_14_code 20 = .ok (.invokestatic 111, 3) := by decide +kernel
theorem d20_23 : decode jdk_52_method_14_code 23 = .ok (.iinc 1 1, 3) := by decide +kernel
theorem d20_26 : decode jdk_52_method_14_code 26 = .ok (.iinc 4 1, 3) := by decide +kernel
theorem d20_29 : decode jdk_52_method_14_code 29 = .ok (.goto (-21), 3) := by decide +kernel
theorem d20_32 : decode jdk_52_method_14_code 32 = .ok (.aload_n 3, 1) := by decide +kernel
theorem d20_33 : decode jdk_52_method_14_code 33 = .ok (.areturn, 1) := by decide +kernel
theorem pd_7 : parseMethodDescriptor "(I)[B" = some ⟨[.int], some (.array .byte)⟩ := by decide +kernel
theorem pd_8 : parseMethodDescriptor "([BII)V" = some ⟨[(.array .byte), .int, .int], none⟩ := by decide +kernel
theorem ef_20 (m : MethodId) (aa : Addr) (of : Int32) (ln : Int32) : entryFrame m #[(.ref aa), (.int of), (.int ln)] 5 = mkF m 0 #[rv aa, iv of, iv ln, .unset, .unset] [] := by first | (simp [entryFrame, mkF, argsToLocals, Value.category]; done) | rfl
def Q20 (Z : State) (aa : Addr) (of : Int32) (ln : Int32) (kA : ClassId) (xs : List Int32) (h0 : Heap) (n0 : Nat) (v : Option Value) (h : Heap) (L : List Loc) : Prop := ∃ a k, v = some (.ref a) ∧ Fr n0 L ∧ Keep h0 h [] ∧ n0 ≤ a ∧ h0.size ≤ a ∧ Arv Z h a k .byte ((2 * xs.length).toInt32) (StrChars.Road.wideBytes xs) (.int 0)
set_option maxRecDepth 65536 in
set_option maxHeartbeats 40000000 in
theorem rm20 (l : Launch) (Z : State) (a0 : Array Value) (hw : ∀ d ∈ tables_1, d.before a0 Z = true) (ws : List Jvm.Cond) (aa : Addr) (of : Int32) (ln : Int32) (kA : ClassId) (xs : List Int32) (h0 : Heap) (n0 : Nat) (Z0 : n0 ≤ h0.size) (hof : of = (0 : Int32)) (hln : ln = (xs.length.toInt32)) (hx4 : xs.length ≤ 4) (hx1 : 0 < xs.length) (Od : Old Z n0 h0) (Va : Arv Z h0 aa kA .char (xs.length.toInt32) (xs.map Value.int) (.int (0 : Int32))) (Sad : Sta Z Z.heap "java/lang/StringUTF16" "$assertionsDisabled" "Z" (.int 1)) (Shi : Sta Z Z.heap "java/lang/StringUTF16" "HI_BYTE_SHIFT" "I" (.int 0)) (Slo : Sta Z Z.heap "java/lang/StringUTF16" "LO_BYTE_SHIFT" "I" (.int 8)) :
    MetFree l (⟨"java/lang/StringUTF16", "toBytes", "([CII)[B"⟩ : MethodName) (head1 (Jvm.Cond.code (⟨"java/lang/StringUTF16", "toBytes", "([CII)[B"⟩ : MethodName) jdk_52_method_14_code 5 (some (.array .byte)) :: ws) ({ frames := 2, cells := 1, slots := 8, locals := 24 } : Room)) (fun a U => a = #[(.ref aa), (.int of), (.int ln)] ∧ Z.Warmed39 U.vm ∧ U.heap = h0) (fun _ _ _ _ _ => True) (fun _ U o U' => ∃ v L, o = .returned v ∧ Q20 Z aa of ln kA xs h0 n0 v U'.heap L ∧ FrameEnd U o U' L ({ frames := 2, cells := 1, slots := 8, locals := 24 } : Room).cells ({ frames := 2, cells := 1, slots := 8, locals := 24 } : Room).slots) := by
  refine MetFree.of_bodySF (plainFor_of_name pn_0) hisR ?_
  intro p e s m args below meth c s₁ Bd hml0 hP hK
  obtain ⟨rfl, hZ, hh⟩ := hP
  have hx := Bd.exec
  have hby := Bd.bytes
  have hml : c.maxLocals = 5 := hml0
  have hown : s.vm.findClass "java/lang/StringUTF16" = some m.cls := findClass_of_methodNamed Bd.named
  have hnm := (name_of_methodNamed Bd.named Bd.method).1
  have hlk : meth.locks = false := Bd.notSynchronized
  have hrt := Bd.returns
  have X0 : Stand p l e ({ frames := 2, cells := 1, slots := 8, locals := 24 } : Room) s m #[(.ref aa), (.int of), (.int ln)] below meth c s₁ [] 0 0 := Stand.of_body Bd
  have e0 : s₁.heap = h0 := by rw [← hh, Bd.state]; rfl
  have N0 := Fr.nil n0
  show own_Endz p.tables e below (own_EndQ s ({ frames := 2, cells := 1, slots := 8, locals := 24 } : Room).cells ({ frames := 2, cells := 1, slots := 8, locals := 24 } : Room).slots (Q20 Z aa of ln kA xs h0 n0)) (s₁.setTop (entryFrame m #[(.ref aa), (.int of), (.int ln)] 5))
  refine own_cast (ef_20 m aa of ln) ?_
  subst hof
  subst hln
  show own_Endz p.tables e below (own_EndQ s ({ frames := 2, cells := 1, slots := 8, locals := 24 } : Room).cells ({ frames := 2, cells := 1, slots := 8, locals := 24 } : Room).slots (Q20 Z aa ((0 : Int32)) ((xs.length.toInt32)) kA xs h0 n0)) (s₁.setTop (mkF m 0 #[rv aa, iv 0, iv (xs.length.toInt32), .unset, .unset] []))
  refine own_go (b := s₁.setTop (mkF m 1 #[rv aa, iv 0, iv (xs.length.toInt32), .unset, .unset] [(.int (xs.length.toInt32))])) (fun t k => XS.iloadN X0.here hx rfl (hb hby d20_0) rfl  k) ?_
  obtain ⟨_, _, ⟨T1, L1, k1, n1⟩, -, X1, ⟨Lc1, hQ1, l1, y1, z1⟩, st1⟩ := Jvm.LawKit.callS X0 hx (y := (⟨"java/lang/StringUTF16", "newBytesFor", "(I)[B"⟩ : MethodName)) hown (mvT hZ (hw _ (List.mem_of_getElem? (i := 102) rfl))) (mvT hZ (hw _ (List.mem_of_getElem? (i := 103) rfl))) (mvT hZ (hw _ (List.mem_of_getElem? (i := 63) rfl))) (mvT hZ (hw _ (List.mem_of_getElem? (i := 104) rfl))) (by decide) (backOf (W := 0) (rm21 l Z a0 hw [] (xs.length.toInt32)  h0 n0 Z0 (own_nn (by omega)) (own_ltM (by omega)) (by rw [own_shl (by omega)]; exact own_nn (by omega)) (by rw [own_shl (by omega), own_n32 (by omega)]; omega)) hZ (hw _ (List.mem_of_getElem? (i := 104) rfl)) (hw _ (List.mem_of_getElem? (i := 63) rfl)) (by decide) (by decide)) (g := (mkF m 1 #[rv aa, iv 0, iv (xs.length.toInt32), .unset, .unset] [(.int (xs.length.toInt32))])) rfl (by rw [hml]; rfl) (argsL := [(.int (xs.length.toInt32))]) (rest := []) (lenOf pd_7 rfl) rfl (by show 2 * 0 + _ ≤ _; exact Nat.le_of_eq rfl) (hb hby d20_1) (fun _ _ => ⟨rfl, e0, (by decide : 0 + 1 ≤ _), (by decide : 0 + 8 ≤ _)⟩)
  dsimp only [Pt.U, Pt.locs, Pt.cells, Pt.slots] at X1 l1 y1 z1 st1 hQ1
  subst l1 y1 z1
  obtain ⟨vb, kV, rfl, N1q, K1, g_vb, sz_vb, Vn⟩ := hQ1
  have Zs1 : n0 ≤ T1.heap.size := Nat.le_trans Z0 K1.1
  have N1 := Fr.app N0 N1q
  have Kp1 : Keep h0 T1.heap [] := (Keep.refl h0 []).trans K1 (fun x hx => nomatch hx)
  have Ol1 := Od.keep K1 all0
  have Vn0 : Arv Z T1.heap vb kV .byte ((2 * xs.length).toInt32) (own_wb 0 xs) (.int 0) := by
    rw [own_shl (by omega)] at Vn
    exact Vn.pad (own_wb0 xs)
  have nab : aa ≠ vb := Nat.ne_of_lt (Nat.lt_of_lt_of_le Va.lt sz_vb)
  obtain ⟨lq1, X1, N1⟩ : ∃ lq, Stand p l e ({ frames := 2, cells := 1, slots := 8, locals := 24 } : Room) s m #[(.ref aa), (.int ((0 : Int32))), (.int ((xs.length.toInt32)))] below meth c T1 lq 1 8 ∧ Fr n0 lq := ⟨_, X1, N1⟩
  refine own_go (b := T1.setTop (mkF m 4 #[rv aa, iv 0, iv (xs.length.toInt32), .unset, .unset] [(.ref vb)])) st1 ?_
  refine own_go (b := T1.setTop (mkF m 5 #[rv aa, iv 0, iv (xs.length.toInt32), rv vb, .unset] [])) (fun t k => XS.astoreN X1.here hx rfl (hb hby d20_4) rfl rfl (l' := #[rv aa, iv 0, iv (xs.length.toInt32), rv vb, .unset]) rfl k) ?_
  refine own_go (b := T1.setTop (mkF m 6 #[rv aa, iv 0, iv (xs.length.toInt32), rv vb, .unset] [(.int 0)])) (fun t k => XS.iconst X1.here hx rfl (hb hby d20_5) k) ?_
  refine own_go (b := T1.setTop (mkF m 8 #[rv aa, iv 0, iv (xs.length.toInt32), rv vb, iv 0] [])) (fun t k => XS.istore X1.here hx rfl (hb hby d20_6) rfl (l' := #[rv aa, iv 0, iv (xs.length.toInt32), rv vb, iv 0]) rfl k) ?_
  have LOOP : ∀ (kI iI : Nat) (TJ : State) (hJ : Heap) (lJ : List Loc) (XJ : Stand p l e ({ frames := 2, cells := 1, slots := 8, locals := 24 } : Room) s m #[(.ref aa), (.int ((0 : Int32))), (.int ((xs.length.toInt32)))] below meth c TJ lJ 1 8) (eJ : TJ.heap = hJ) (NJ : Fr n0 lJ) (ZJ : n0 ≤ hJ.size) (KJ : Keep h0 hJ []) (OJ : Old Z n0 hJ) (VaJ : Arv Z hJ aa kA .char (xs.length.toInt32) (xs.map Value.int) (.int (0 : Int32))) (VbJ : Arv Z hJ vb kV .byte ((2 * xs.length).toInt32) (own_wb iI xs) (.int 0)) (hkI : iI + kI = xs.length), own_Endz p.tables e below (own_EndQ s ({ frames := 2, cells := 1, slots := 8, locals := 24 } : Room).cells ({ frames := 2, cells := 1, slots := 8, locals := 24 } : Room).slots (Q20 Z aa ((0 : Int32)) ((xs.length.toInt32)) kA xs h0 n0)) (TJ.setTop (mkF m 8 #[rv aa, iv (iI.toInt32), iv (xs.length.toInt32), rv vb, iv (iI.toInt32)] [])) := by
    intro kI
    induction kI with
    | zero =>
      intro iI TJ hJ lJ XJ eJ NJ ZJ KJ OJ VaJ VbJ hkI
      have hi8 : ¬ (iI.toInt32) < (xs.length.toInt32) := fun q => by have q' := (own_lt32 (by omega) (by omega)).mp q; omega
      refine own_go (b := TJ.setTop (mkF m 10 #[rv aa, iv (iI.toInt32), iv (xs.length.toInt32), rv vb, iv (iI.toInt32)] [(.int (iI.toInt32))])) (fun t k => XS.iload XJ.here hx rfl (hb hby d20_8) rfl  k) ?_
      refine own_go (b := TJ.setTop (mkF m 11 #[rv aa, iv (iI.toInt32), iv (xs.length.toInt32), rv vb, iv (iI.toInt32)] [(.int (xs.length.toInt32)), (.int (iI.toInt32))])) (fun t k => XS.iloadN XJ.here hx rfl (hb hby d20_10) rfl  k) ?_
      refine own_go (b := TJ.setTop (mkF m 32 #[rv aa, iv (iI.toInt32), iv (xs.length.toInt32), rv vb, iv (iI.toInt32)] [])) (fun t k => XS.icmpYes XJ.here hx rfl (pc0 := 11) (pc' := 32) rfl (hb hby d20_11) rfl (flt hi8).2.1 (by decide) (by decide) k) ?_
      refine own_go (b := TJ.setTop (mkF m 33 #[rv aa, iv (iI.toInt32), iv (xs.length.toInt32), rv vb, iv (iI.toInt32)] [(.ref vb)])) (fun t k => XS.aloadN XJ.here hx rfl (hb hby d20_32) rfl rfl k) ?_
      exact own_retA XJ hx hlk hrt rfl rfl (hb hby d20_33) (Nat.le_of_ble_eq_true rfl) (Nat.le_of_ble_eq_true rfl) (⟨vb, kV, rfl, NJ, by rw [eJ]; exact KJ, g_vb, sz_vb, by rw [eJ]; exact (by have q := VbJ; rw [show iI = xs.length from by omega, own_wb_fin] at q; exact q)⟩)
    | succ kI ih =>
      intro iI TJ hJ lJ XJ eJ NJ ZJ KJ OJ VaJ VbJ hkI
      have hi8 : (iI.toInt32) < (xs.length.toInt32) := (own_lt32 (by omega) (by omega)).mpr (by omega)
      refine own_go (b := TJ.setTop (mkF m 10 #[rv aa, iv (iI.toInt32), iv (xs.length.toInt32), rv vb, iv (iI.toInt32)] [(.int (iI.toInt32))])) (fun t k => XS.iload XJ.here hx rfl (hb hby d20_8) rfl  k) ?_
      refine own_go (b := TJ.setTop (mkF m 11 #[rv aa, iv (iI.toInt32), iv (xs.length.toInt32), rv vb, iv (iI.toInt32)] [(.int (xs.length.toInt32)), (.int (iI.toInt32))])) (fun t k => XS.iloadN XJ.here hx rfl (hb hby d20_10) rfl  k) ?_
      refine own_go (b := TJ.setTop (mkF m 14 #[rv aa, iv (iI.toInt32), iv (xs.length.toInt32), rv vb, iv (iI.toInt32)] [])) (fun t k => XS.icmpNo XJ.here hx rfl (hb hby d20_11) rfl (tlt hi8).2.1 k) ?_
      refine own_go (b := TJ.setTop (mkF m 15 #[rv aa, iv (iI.toInt32), iv (xs.length.toInt32), rv vb, iv (iI.toInt32)] [(.ref vb)])) (fun t k => XS.aloadN XJ.here hx rfl (hb hby d20_14) rfl rfl k) ?_
      refine own_go (b := TJ.setTop (mkF m 17 #[rv aa, iv (iI.toInt32), iv (xs.length.toInt32), rv vb, iv (iI.toInt32)] [(.int (iI.toInt32)), (.ref vb)])) (fun t k => XS.iload XJ.here hx rfl (hb hby d20_15) rfl  k) ?_
      refine own_go (b := TJ.setTop (mkF m 18 #[rv aa, iv (iI.toInt32), iv (xs.length.toInt32), rv vb, iv (iI.toInt32)] [(.ref aa), (.int (iI.toInt32)), (.ref vb)])) (fun t k => XS.aloadN XJ.here hx rfl (hb hby d20_17) rfl rfl k) ?_
      refine own_go (b := TJ.setTop (mkF m 19 #[rv aa, iv (iI.toInt32), iv (xs.length.toInt32), rv vb, iv (iI.toInt32)] [(.int (iI.toInt32)), (.ref aa), (.int (iI.toInt32)), (.ref vb)])) (fun t k => XS.iloadN XJ.here hx rfl (hb hby d20_18) rfl  k) ?_
      obtain ⟨cl2, Ar2, qc2, Sz2, Ng2, Hs2, Ft2⟩ := id VaJ
      have hin2 := inb_of (j := iI.toInt32) Sz2 ⟨own_nn (by omega), (own_lt32 (by omega) (by omega)).mpr (by omega)⟩
      refine own_go (b := TJ.setTop (mkF m 20 #[rv aa, iv (iI.toInt32), iv (xs.length.toInt32), rv vb, iv (iI.toInt32)] [(.int (xs.getD iI 0)), (.int (iI.toInt32)), (.ref vb)])) (fun t k => XJ.caload hx (j := (iI.toInt32)) (v := (.int (xs.getD iI 0))) (own_at eJ Ar2.1) (State.isArrayOf_alike hZ.alike Ar2.2.1) Ar2.2.2 hin2 (Hs2.at hin2 (by rw [own_n32 (by omega)]; exact own_gm xs iI (by omega))) (g := (mkF m 19 #[rv aa, iv (iI.toInt32), iv (xs.length.toInt32), rv vb, iv (iI.toInt32)] [(.int (iI.toInt32)), (.ref aa), (.int (iI.toInt32)), (.ref vb)])) rfl rfl (hb hby d20_19) t k) ?_
      obtain ⟨_, _, ⟨T3, L3, k3, n3⟩, -, X3, ⟨Lc3, hQ3, l3, y3, z3⟩, st3⟩ := Jvm.LawKit.callS XJ hx (y := (⟨"java/lang/StringUTF16", "putChar", "([BII)V"⟩ : MethodName)) hown (mvT hZ (hw _ (List.mem_of_getElem? (i := 109) rfl))) (mvT hZ (hw _ (List.mem_of_getElem? (i := 110) rfl))) (mvT hZ (hw _ (List.mem_of_getElem? (i := 63) rfl))) (mvT hZ (hw _ (List.mem_of_getElem? (i := 111) rfl))) (by decide) (backOf (W := 0) (rm23 l Z a0 hw [] vb (iI.toInt32) (xs.getD iI 0) kV ((2 * xs.length).toInt32) (own_wb iI xs) iI hJ n0 ZJ (Sad.ext OJ.2) (Shi.ext OJ.2) (Slo.ext OJ.2) VbJ (by rw [own_shl (by omega)]; exact ⟨own_nn (by omega), (own_lt32 (by omega) (by omega)).mpr (by omega)⟩) (by rw [own_shl (by omega), own_n32 (by omega)]) (by rw [own_shl (by omega), own_add1 (by omega)]; exact ⟨own_nn (by omega), (own_lt32 (by omega) (by omega)).mpr (by omega)⟩) (by rw [own_shl (by omega), own_add1 (by omega), own_n32 (by omega)]) (by rw [own_wb_len]; omega) g_vb) hZ (hw _ (List.mem_of_getElem? (i := 111) rfl)) (hw _ (List.mem_of_getElem? (i := 63) rfl)) (by decide) (by decide)) (g := (mkF m 20 #[rv aa, iv (iI.toInt32), iv (xs.length.toInt32), rv vb, iv (iI.toInt32)] [(.int (xs.getD iI 0)), (.int (iI.toInt32)), (.ref vb)])) rfl (by rw [hml]; rfl) (argsL := [(.ref vb), (.int (iI.toInt32)), (.int (xs.getD iI 0))]) (rest := []) (lenOf pd_8 rfl) rfl (by show 2 * 0 + _ ≤ _; exact Nat.le_of_eq rfl) (hb hby d20_20) (fun _ _ => ⟨rfl, eJ, (by decide : 1 + 0 ≤ _), (by decide : 8 + 0 ≤ _)⟩)
      dsimp only [Pt.U, Pt.locs, Pt.cells, Pt.slots] at X3 l3 y3 z3 st3 hQ3
      subst l3 y3 z3
      obtain ⟨rfl, N3q, K3, Vq3⟩ := hQ3
      have Zs3 : n0 ≤ T3.heap.size := Nat.le_trans ZJ K3.1
      have N3 := Fr.app NJ N3q
      have Kp3 : Keep h0 T3.heap [] := KJ.trans K3 (by intro x hx; simp only [List.mem_cons, List.not_mem_nil, or_false] at hx; rcases hx with rfl <;> first | exact Or.inr (by assumption) | exact Or.inl (by simp))
      have Ol3 := OJ.keep K3 (allS g_vb all0)
      rw [own_wb_set xs iI (by omega)] at Vq3
      obtain ⟨lq3, X3, N3⟩ : ∃ lq, Stand p l e ({ frames := 2, cells := 1, slots := 8, locals := 24 } : Room) s m #[(.ref aa), (.int ((0 : Int32))), (.int ((xs.length.toInt32)))] below meth c T3 lq 1 8 ∧ Fr n0 lq := ⟨_, X3, N3⟩
      refine own_go (b := T3.setTop (mkF m 23 #[rv aa, iv (iI.toInt32), iv (xs.length.toInt32), rv vb, iv (iI.toInt32)] [])) st3 ?_
      refine own_go (b := T3.setTop (mkF m 26 #[rv aa, iv ((iI.toInt32) + (1 : Int32)), iv (xs.length.toInt32), rv vb, iv (iI.toInt32)] [])) (fun t k => XS.iinc X3.here hx rfl (hb hby d20_23) rfl (l' := #[rv aa, iv ((iI.toInt32) + (1 : Int32)), iv (xs.length.toInt32), rv vb, iv (iI.toInt32)]) rfl k) ?_
      refine own_go (b := T3.setTop (mkF m 29 #[rv aa, iv ((iI.toInt32) + (1 : Int32)), iv (xs.length.toInt32), rv vb, iv ((iI.toInt32) + (1 : Int32))] [])) (fun t k => XS.iinc X3.here hx rfl (hb hby d20_26) rfl (l' := #[rv aa, iv ((iI.toInt32) + (1 : Int32)), iv (xs.length.toInt32), rv vb, iv ((iI.toInt32) + (1 : Int32))]) rfl k) ?_
      refine own_go (b := T3.setTop (mkF m 8 #[rv aa, iv ((iI.toInt32) + (1 : Int32)), iv (xs.length.toInt32), rv vb, iv ((iI.toInt32) + (1 : Int32))] [])) (fun t k => XS.goto X3.here hx rfl (pc0 := 29) (pc' := 8) rfl (hb hby d20_29) (by decide) (by decide) k) ?_
      rw [own_add1 (i := iI) (by omega)]
      exact ih (iI + 1) _ _ _ X3 rfl N3 Zs3 Kp3 Ol3 (VaJ.keep K3 (ninS nab nin0)) Vq3 (by omega)
  exact LOOP xs.length 0 _ _ _ X1 rfl N1 Zs1 Kp1 Ol1 (Va.keep K1 nin0) Vn0 (Nat.zero_add _)
theorem d12_0 : decode jdk_52_method_21_code 0 = .ok (.iconst 0, 1) := by decide +kernel
theorem d12_1 : decode jdk_52_method_21_code 1 = .ok (.istore 5, 2) := by decide +kernel
theorem d12_3 : decode jdk_52_method_21_code 3 = .ok (.iload 5, 2) := by decide +kernel
theorem d12_5 : decode jdk_52_method_21_code 5 = .ok (.iload 4, 2) := by decide +kernel
theorem d12_7 : decode jdk_52_method_21_code 7 = .ok (.if_icmp .ge 37, 3) := by decide +kernel
theorem d12_10 : decode jdk_52_method_21_code 10 = .ok (.aload_n 0, 1) := by decide +kernel
theorem d12_11 : decode jdk_52_method_21_code 11 = .ok (.iload_n 1, 1) := by decide +kernel
theorem d12_12 : decode jdk_52_method_21_code 12 = .ok (.caload, 1) := by decide +kernel
theorem d12_13 : decode jdk_52_method_21_code 13 = .ok (.istore 6, 2) := by decide +kernel
theorem d12_15 : decode jdk_52_method_21_code 15 = .ok (.iload 6, 2) := by decide +kernel
theorem d12_17 : decode jdk_52_method_21_code 17 = .ok (.sipush 255, 3) := by decide +kernel
theorem d12_20 : decode jdk_52_method_21_code 20 = .ok (.if_icmp .le 6, 3) := by decide +kernel
theorem d12_23 : decode jdk_52_method_21_code 23 = .ok (.iload 5, 2) := by decide +kernel
theorem d12_25 : decode jdk_52_method_21_code 25 = .ok (.ireturn, 1) := by decide +kernel
theorem d12_26 : decode jdk_52_method_21_code 26 = .ok (.aload_n 2, 1) := by decide +kernel
theorem d12_27 : decode jdk_52_method_21_code 27 = .ok (.iload_n 3, 1) := by decide +kernel
theorem d12_28 : decode jdk_52_method_21_code 28 = .ok (.iload 6, 2) := by decide +kernel
theorem d12_30 : decode jdk_52_method_21_code 30 = .ok (.i2b, 1) := by decide +kernel
theorem d12_31 : decode jdk_52_method_21_code 31 = .ok (.bastore, 1) := by decide +kernel
theorem d12_32 : decode jdk_52_method_21_code 32 = .ok (.iinc 1 1, 3) := by decide +kernel
theorem d12_35 : decode jdk_52_method_21_code 35 = .ok (.iinc 3 1, 3) := by decide +kernel
theorem d12_38 : decode jdk_52_method_21_code 38 = .ok (.iinc 5 1, 3) := by decide +kernel
theorem d12_41 : decode jdk_52_method_21_code 41 = .ok (.goto (-38), 3) := by decide +kernel
theorem d12_44 : decode jdk_52_method_21_code 44 = .ok (.iload 4, 2) := by decide +kernel
theorem d12_46 : decode jdk_52_method_21_code 46 = .ok (.ireturn, 1) := by decide +kernel
theorem ef_12 (m : MethodId) (aa : Addr) (so : Int32) (db : Addr) (dd : Int32) (ln : Int32) : entryFrame m #[(.ref aa), (.int so), (.ref db), (.int dd), (.int ln)] 7 = mkF m 0 #[rv aa, iv so, rv db, iv dd, iv ln, .unset, .unset] [] := by first | (simp [entryFrame, mkF, argsToLocals, Value.category]; done) | rfl
def Q12 (Z : State) (aa : Addr) (so : Int32) (db : Addr) (dd : Int32) (ln : Int32) (kA : ClassId) (xs : List Int32) (jj : Nat) (h0 : Heap) (n0 : Nat) (v : Option Value) (h : Heap) (L : List Loc) : Prop := v = some (.int (jj.toInt32)) ∧ Fr n0 L ∧ Keep h0 h [db]
set_option maxRecDepth 65536 in
set_option maxHeartbeats 40000000 in
theorem rm12 (l : Launch) (Z : State) (a0 : Array Value) (hw : ∀ d ∈ tables_1, d.before a0 Z = true) (ws : List Jvm.Cond) (aa : Addr) (so : Int32) (db : Addr) (dd : Int32) (ln : Int32) (kA : ClassId) (xs : List Int32) (jj : Nat) (h0 : Heap) (n0 : Nat) (Z0 : n0 ≤ h0.size) (hof : so = (0 : Int32)) (hdd : dd = (0 : Int32)) (hln : ln = (xs.length.toInt32)) (hx4 : xs.length ≤ 4) (Va : Arv Z h0 aa kA .char (xs.length.toInt32) (xs.map Value.int) (.int (0 : Int32))) (Vd : own_By Z h0 db xs.length) (gd : n0 ≤ db) (nad : aa ≠ db) (hj : jj < xs.length) (hlt : ∀ i, i < jj → ¬ (255 : Int32) < xs.getD i 0) (hgt : (255 : Int32) < xs.getD jj 0) :
    MetFree l (⟨"java/lang/StringUTF16", "compress", "([CI[BII)I"⟩ : MethodName) (head1 (Jvm.Cond.code (⟨"java/lang/StringUTF16", "compress", "([CI[BII)I"⟩ : MethodName) jdk_52_method_21_code 7 (some .int) :: ws) ({ frames := 0, cells := 0, slots := 0, locals := 0 } : Room)) (fun a U => a = #[(.ref aa), (.int so), (.ref db), (.int dd), (.int ln)] ∧ Z.Warmed39 U.vm ∧ U.heap = h0) (fun _ _ _ _ _ => True) (fun _ U o U' => ∃ v L, o = .returned v ∧ Q12 Z aa so db dd ln kA xs jj h0 n0 v U'.heap L ∧ FrameEnd U o U' L ({ frames := 0, cells := 0, slots := 0, locals := 0 } : Room).cells ({ frames := 0, cells := 0, slots := 0, locals := 0 } : Room).slots) := by
  refine MetFree.of_bodySF (plainFor_of_name pn_0) hisR ?_
  intro p e s m args below meth c s₁ Bd hml0 hP hK
  obtain ⟨rfl, hZ, hh⟩ := hP
  have hx := Bd.exec
  have hby := Bd.bytes
  have hml : c.maxLocals = 7 := hml0
  have hown : s.vm.findClass "java/lang/StringUTF16" = some m.cls := findClass_of_methodNamed Bd.named
  have hnm := (name_of_methodNamed Bd.named Bd.method).1
  have hlk : meth.locks = false := Bd.notSynchronized
  have hrt := Bd.returns
  have X0 : Stand p l e ({ frames := 0, cells := 0, slots := 0, locals := 0 } : Room) s m #[(.ref aa), (.int so), (.ref db), (.int dd), (.int ln)] below meth c s₁ [] 0 0 := Stand.of_body Bd
  have e0 : s₁.heap = h0 := by rw [← hh, Bd.state]; rfl
  have N0 := Fr.nil n0
  show own_Endz p.tables e below (own_EndQ s ({ frames := 0, cells := 0, slots := 0, locals := 0 } : Room).cells ({ frames := 0, cells := 0, slots := 0, locals := 0 } : Room).slots (Q12 Z aa so db dd ln kA xs jj h0 n0)) (s₁.setTop (entryFrame m #[(.ref aa), (.int so), (.ref db), (.int dd), (.int ln)] 7))
  refine own_cast (ef_12 m aa so db dd ln) ?_
  subst hof
  subst hdd
  subst hln
  show own_Endz p.tables e below (own_EndQ s ({ frames := 0, cells := 0, slots := 0, locals := 0 } : Room).cells ({ frames := 0, cells := 0, slots := 0, locals := 0 } : Room).slots (Q12 Z aa ((0 : Int32)) db ((0 : Int32)) ((xs.length.toInt32)) kA xs jj h0 n0)) (s₁.setTop (mkF m 0 #[rv aa, iv 0, rv db, iv 0, iv (xs.length.toInt32), .unset, .unset] []))
  refine own_go (b := s₁.setTop (mkF m 1 #[rv aa, iv 0, rv db, iv 0, iv (xs.length.toInt32), .unset, .unset] [(.int 0)])) (fun t k => XS.iconst X0.here hx rfl (hb hby d12_0) k) ?_
  refine own_go (b := s₁.setTop (mkF m 3 #[rv aa, iv 0, rv db, iv 0, iv (xs.length.toInt32), iv 0, .unset] [])) (fun t k => XS.istore X0.here hx rfl (hb hby d12_1) rfl (l' := #[rv aa, iv 0, rv db, iv 0, iv (xs.length.toInt32), iv 0, .unset]) rfl k) ?_
  have LOOP : ∀ (kI iI : Nat) (s6 : Slot) (TJ : State) (hJ : Heap) (lJ : List Loc) (XJ : Stand p l e ({ frames := 0, cells := 0, slots := 0, locals := 0 } : Room) s m #[(.ref aa), (.int ((0 : Int32))), (.ref db), (.int ((0 : Int32))), (.int ((xs.length.toInt32)))] below meth c TJ lJ 0 0) (eJ : TJ.heap = hJ) (NJ : Fr n0 lJ) (ZJ : n0 ≤ hJ.size) (KJ : Keep h0 hJ [db]) (VaJ : Arv Z hJ aa kA .char (xs.length.toInt32) (xs.map Value.int) (.int (0 : Int32))) (VbJ : own_By Z hJ db xs.length) (hkI : iI + kI = jj) (ho6 : One s6), own_Endz p.tables e below (own_EndQ s ({ frames := 0, cells := 0, slots := 0, locals := 0 } : Room).cells ({ frames := 0, cells := 0, slots := 0, locals := 0 } : Room).slots (Q12 Z aa ((0 : Int32)) db ((0 : Int32)) ((xs.length.toInt32)) kA xs jj h0 n0)) (TJ.setTop (mkF m 3 #[rv aa, iv (iI.toInt32), rv db, iv (iI.toInt32), iv (xs.length.toInt32), iv (iI.toInt32), s6] [])) := by
    intro kI
    induction kI with
    | zero =>
      intro iI s6 TJ hJ lJ XJ eJ NJ ZJ KJ VaJ VbJ hkI ho6
      have hi8 : (iI.toInt32) < (xs.length.toInt32) := (own_lt32 (by omega) (by omega)).mpr (by omega)
      have hi9 : (255 : Int32) < (xs.getD iI 0) := by rw [show iI = jj from by omega]; exact hgt
      refine own_go (b := TJ.setTop (mkF m 5 #[rv aa, iv (iI.toInt32), rv db, iv (iI.toInt32), iv (xs.length.toInt32), iv (iI.toInt32), s6] [(.int (iI.toInt32))])) (fun t k => XS.iload XJ.here hx rfl (hb hby d12_3) rfl  k) ?_
      refine own_go (b := TJ.setTop (mkF m 7 #[rv aa, iv (iI.toInt32), rv db, iv (iI.toInt32), iv (xs.length.toInt32), iv (iI.toInt32), s6] [(.int (xs.length.toInt32)), (.int (iI.toInt32))])) (fun t k => XS.iload XJ.here hx rfl (hb hby d12_5) rfl  k) ?_
      refine own_go (b := TJ.setTop (mkF m 10 #[rv aa, iv (iI.toInt32), rv db, iv (iI.toInt32), iv (xs.length.toInt32), iv (iI.toInt32), s6] [])) (fun t k => XS.icmpNo XJ.here hx rfl (hb hby d12_7) rfl (tlt hi8).2.1 k) ?_
      refine own_go (b := TJ.setTop (mkF m 11 #[rv aa, iv (iI.toInt32), rv db, iv (iI.toInt32), iv (xs.length.toInt32), iv (iI.toInt32), s6] [(.ref aa)])) (fun t k => XS.aloadN XJ.here hx rfl (hb hby d12_10) rfl rfl k) ?_
      refine own_go (b := TJ.setTop (mkF m 12 #[rv aa, iv (iI.toInt32), rv db, iv (iI.toInt32), iv (xs.length.toInt32), iv (iI.toInt32), s6] [(.int (iI.toInt32)), (.ref aa)])) (fun t k => XS.iloadN XJ.here hx rfl (hb hby d12_11) rfl  k) ?_
      obtain ⟨cl1, Ar1, qc1, Sz1, Ng1, Hs1, Ft1⟩ := id VaJ
      have hin1 := inb_of (j := iI.toInt32) Sz1 ⟨own_nn (by omega), (own_lt32 (by omega) (by omega)).mpr (by omega)⟩
      refine own_go (b := TJ.setTop (mkF m 13 #[rv aa, iv (iI.toInt32), rv db, iv (iI.toInt32), iv (xs.length.toInt32), iv (iI.toInt32), s6] [(.int (xs.getD iI 0))])) (fun t k => XJ.caload hx (j := (iI.toInt32)) (v := (.int (xs.getD iI 0))) (own_at eJ Ar1.1) (State.isArrayOf_alike hZ.alike Ar1.2.1) Ar1.2.2 hin1 (Hs1.at hin1 (by rw [own_n32 (by omega)]; exact own_gm xs iI (by omega))) (g := (mkF m 12 #[rv aa, iv (iI.toInt32), rv db, iv (iI.toInt32), iv (xs.length.toInt32), iv (iI.toInt32), s6] [(.int (iI.toInt32)), (.ref aa)])) rfl rfl (hb hby d12_12) t k) ?_
      refine own_go (b := TJ.setTop (mkF m 15 #[rv aa, iv (iI.toInt32), rv db, iv (iI.toInt32), iv (xs.length.toInt32), iv (iI.toInt32), iv (xs.getD iI 0)] [])) (fun t k => XS.istore XJ.here hx rfl (hb hby d12_13) rfl (l' := #[rv aa, iv (iI.toInt32), rv db, iv (iI.toInt32), iv (xs.length.toInt32), iv (iI.toInt32), iv (xs.getD iI 0)]) (XS.store1 (o := s6) rfl ho6 rfl) k) ?_
      refine own_go (b := TJ.setTop (mkF m 17 #[rv aa, iv (iI.toInt32), rv db, iv (iI.toInt32), iv (xs.length.toInt32), iv (iI.toInt32), iv (xs.getD iI 0)] [(.int (xs.getD iI 0))])) (fun t k => XS.iload XJ.here hx rfl (hb hby d12_15) rfl  k) ?_
      refine own_go (b := TJ.setTop (mkF m 20 #[rv aa, iv (iI.toInt32), rv db, iv (iI.toInt32), iv (xs.length.toInt32), iv (iI.toInt32), iv (xs.getD iI 0)] [(.int 255), (.int (xs.getD iI 0))])) (fun t k => XS.sipush XJ.here hx rfl (hb hby d12_17) k) ?_
      refine own_go (b := TJ.setTop (mkF m 23 #[rv aa, iv (iI.toInt32), rv db, iv (iI.toInt32), iv (xs.length.toInt32), iv (iI.toInt32), iv (xs.getD iI 0)] [])) (fun t k => XS.icmpNo XJ.here hx rfl (hb hby d12_20) rfl (tlt hi9).2.2.2 k) ?_
      refine own_go (b := TJ.setTop (mkF m 25 #[rv aa, iv (iI.toInt32), rv db, iv (iI.toInt32), iv (xs.length.toInt32), iv (iI.toInt32), iv (xs.getD iI 0)] [(.int (iI.toInt32))])) (fun t k => XS.iload XJ.here hx rfl (hb hby d12_23) rfl  k) ?_
      exact own_retI XJ hx hlk hrt (hb hby d12_25) (Nat.le_of_ble_eq_true rfl) (Nat.le_of_ble_eq_true rfl) (⟨congrArg (fun k : Nat => some (Value.int k.toInt32)) (show iI = jj from by omega), NJ, by rw [eJ]; exact KJ⟩)
    | succ kI ih =>
      intro iI s6 TJ hJ lJ XJ eJ NJ ZJ KJ VaJ VbJ hkI ho6
      have hi8 : (iI.toInt32) < (xs.length.toInt32) := (own_lt32 (by omega) (by omega)).mpr (by omega)
      have hi9 : ¬ (255 : Int32) < (xs.getD iI 0) := hlt iI (by omega)
      refine own_go (b := TJ.setTop (mkF m 5 #[rv aa, iv (iI.toInt32), rv db, iv (iI.toInt32), iv (xs.length.toInt32), iv (iI.toInt32), s6] [(.int (iI.toInt32))])) (fun t k => XS.iload XJ.here hx rfl (hb hby d12_3) rfl  k) ?_
      refine own_go (b := TJ.setTop (mkF m 7 #[rv aa, iv (iI.toInt32), rv db, iv (iI.toInt32), iv (xs.length.toInt32), iv (iI.toInt32), s6] [(.int (xs.length.toInt32)), (.int (iI.toInt32))])) (fun t k => XS.iload XJ.here hx rfl (hb hby d12_5) rfl  k) ?_
      refine own_go (b := TJ.setTop (mkF m 10 #[rv aa, iv (iI.toInt32), rv db, iv (iI.toInt32), iv (xs.length.toInt32), iv (iI.toInt32), s6] [])) (fun t k => XS.icmpNo XJ.here hx rfl (hb hby d12_7) rfl (tlt hi8).2.1 k) ?_
      refine own_go (b := TJ.setTop (mkF m 11 #[rv aa, iv (iI.toInt32), rv db, iv (iI.toInt32), iv (xs.length.toInt32), iv (iI.toInt32), s6] [(.ref aa)])) (fun t k => XS.aloadN XJ.here hx rfl (hb hby d12_10) rfl rfl k) ?_
      refine own_go (b := TJ.setTop (mkF m 12 #[rv aa, iv (iI.toInt32), rv db, iv (iI.toInt32), iv (xs.length.toInt32), iv (iI.toInt32), s6] [(.int (iI.toInt32)), (.ref aa)])) (fun t k => XS.iloadN XJ.here hx rfl (hb hby d12_11) rfl  k) ?_
      obtain ⟨cl2, Ar2, qc2, Sz2, Ng2, Hs2, Ft2⟩ := id VaJ
      have hin2 := inb_of (j := iI.toInt32) Sz2 ⟨own_nn (by omega), (own_lt32 (by omega) (by omega)).mpr (by omega)⟩
      refine own_go (b := TJ.setTop (mkF m 13 #[rv aa, iv (iI.toInt32), rv db, iv (iI.toInt32), iv (xs.length.toInt32), iv (iI.toInt32), s6] [(.int (xs.getD iI 0))])) (fun t k => XJ.caload hx (j := (iI.toInt32)) (v := (.int (xs.getD iI 0))) (own_at eJ Ar2.1) (State.isArrayOf_alike hZ.alike Ar2.2.1) Ar2.2.2 hin2 (Hs2.at hin2 (by rw [own_n32 (by omega)]; exact own_gm xs iI (by omega))) (g := (mkF m 12 #[rv aa, iv (iI.toInt32), rv db, iv (iI.toInt32), iv (xs.length.toInt32), iv (iI.toInt32), s6] [(.int (iI.toInt32)), (.ref aa)])) rfl rfl (hb hby d12_12) t k) ?_
      refine own_go (b := TJ.setTop (mkF m 15 #[rv aa, iv (iI.toInt32), rv db, iv (iI.toInt32), iv (xs.length.toInt32), iv (iI.toInt32), iv (xs.getD iI 0)] [])) (fun t k => XS.istore XJ.here hx rfl (hb hby d12_13) rfl (l' := #[rv aa, iv (iI.toInt32), rv db, iv (iI.toInt32), iv (xs.length.toInt32), iv (iI.toInt32), iv (xs.getD iI 0)]) (XS.store1 (o := s6) rfl ho6 rfl) k) ?_
      refine own_go (b := TJ.setTop (mkF m 17 #[rv aa, iv (iI.toInt32), rv db, iv (iI.toInt32), iv (xs.length.toInt32), iv (iI.toInt32), iv (xs.getD iI 0)] [(.int (xs.getD iI 0))])) (fun t k => XS.iload XJ.here hx rfl (hb hby d12_15) rfl  k) ?_
      refine own_go (b := TJ.setTop (mkF m 20 #[rv aa, iv (iI.toInt32), rv db, iv (iI.toInt32), iv (xs.length.toInt32), iv (iI.toInt32), iv (xs.getD iI 0)] [(.int 255), (.int (xs.getD iI 0))])) (fun t k => XS.sipush XJ.here hx rfl (hb hby d12_17) k) ?_
      refine own_go (b := TJ.setTop (mkF m 26 #[rv aa, iv (iI.toInt32), rv db, iv (iI.toInt32), iv (xs.length.toInt32), iv (iI.toInt32), iv (xs.getD iI 0)] [])) (fun t k => XS.icmpYes XJ.here hx rfl (pc0 := 20) (pc' := 26) rfl (hb hby d12_20) rfl (flt hi9).2.2.2 (by decide) (by decide) k) ?_
      refine own_go (b := TJ.setTop (mkF m 27 #[rv aa, iv (iI.toInt32), rv db, iv (iI.toInt32), iv (xs.length.toInt32), iv (iI.toInt32), iv (xs.getD iI 0)] [(.ref db)])) (fun t k => XS.aloadN XJ.here hx rfl (hb hby d12_26) rfl rfl k) ?_
      refine own_go (b := TJ.setTop (mkF m 28 #[rv aa, iv (iI.toInt32), rv db, iv (iI.toInt32), iv (xs.length.toInt32), iv (iI.toInt32), iv (xs.getD iI 0)] [(.int (iI.toInt32)), (.ref db)])) (fun t k => XS.iloadN XJ.here hx rfl (hb hby d12_27) rfl  k) ?_
      refine own_go (b := TJ.setTop (mkF m 30 #[rv aa, iv (iI.toInt32), rv db, iv (iI.toInt32), iv (xs.length.toInt32), iv (iI.toInt32), iv (xs.getD iI 0)] [(.int (xs.getD iI 0)), (.int (iI.toInt32)), (.ref db)])) (fun t k => XS.iload XJ.here hx rfl (hb hby d12_28) rfl  k) ?_
      refine own_go (b := TJ.setTop (mkF m 31 #[rv aa, iv (iI.toInt32), rv db, iv (iI.toInt32), iv (xs.length.toInt32), iv (iI.toInt32), iv (xs.getD iI 0)] [(.int ((xs.getD iI 0).toInt8.toInt32)), (.int (iI.toInt32)), (.ref db)])) (fun t k => XS.i2b XJ.here hx rfl (hb hby d12_30) rfl k) ?_
      obtain ⟨cl3, Ar3, Sz3⟩ := id VbJ
      obtain ⟨T4, h4, X4, e4, W4, st4⟩ := stB XJ hx hZ eJ Ar3 (j := iI.toInt32) (own_inb Sz3 (by omega) (by omega)) (g := (mkF m 31 #[rv aa, iv (iI.toInt32), rv db, iv (iI.toInt32), iv (xs.length.toInt32), iv (iI.toInt32), iv (xs.getD iI 0)] [(.int ((xs.getD iI 0).toInt8.toInt32)), (.int (iI.toInt32)), (.ref db)])) rfl rfl (hb hby d12_31)
      have By4 : own_By Z h4 db xs.length := ⟨_, Ar3.same W4, by rw [sz_set]; exact Sz3⟩
      have Zs4 : n0 ≤ h4.size := Nat.le_trans ZJ (Keep.of_wr W4).1
      have N4 := Fr.snoc X4 NJ gd
      have Kp4 : Keep h0 h4 [db] := KJ.wr W4 (Or.inl (List.mem_of_getElem? (i := 0) rfl))
      refine own_go (b := T4.setTop (mkF m 32 #[rv aa, iv (iI.toInt32), rv db, iv (iI.toInt32), iv (xs.length.toInt32), iv (iI.toInt32), iv (xs.getD iI 0)] [])) st4 ?_
      refine own_go (b := T4.setTop (mkF m 35 #[rv aa, iv ((iI.toInt32) + (1 : Int32)), rv db, iv (iI.toInt32), iv (xs.length.toInt32), iv (iI.toInt32), iv (xs.getD iI 0)] [])) (fun t k => XS.iinc X4.here hx rfl (hb hby d12_32) rfl (l' := #[rv aa, iv ((iI.toInt32) + (1 : Int32)), rv db, iv (iI.toInt32), iv (xs.length.toInt32), iv (iI.toInt32), iv (xs.getD iI 0)]) rfl k) ?_
      refine own_go (b := T4.setTop (mkF m 38 #[rv aa, iv ((iI.toInt32) + (1 : Int32)), rv db, iv ((iI.toInt32) + (1 : Int32)), iv (xs.length.toInt32), iv (iI.toInt32), iv (xs.getD iI 0)] [])) (fun t k => XS.iinc X4.here hx rfl (hb hby d12_35) rfl (l' := #[rv aa, iv ((iI.toInt32) + (1 : Int32)), rv db, iv ((iI.toInt32) + (1 : Int32)), iv (xs.length.toInt32), iv (iI.toInt32), iv (xs.getD iI 0)]) rfl k) ?_
      refine own_go (b := T4.setTop (mkF m 41 #[rv aa, iv ((iI.toInt32) + (1 : Int32)), rv db, iv ((iI.toInt32) + (1 : Int32)), iv (xs.length.toInt32), iv ((iI.toInt32) + (1 : Int32)), iv (xs.getD iI 0)] [])) (fun t k => XS.iinc X4.here hx rfl (hb hby d12_38) rfl (l' := #[rv aa, iv ((iI.toInt32) + (1 : Int32)), rv db, iv ((iI.toInt32) + (1 : Int32)), iv (xs.length.toInt32), iv ((iI.toInt32) + (1 : Int32)), iv (xs.getD iI 0)]) rfl k) ?_
      refine own_go (b := T4.setTop (mkF m 3 #[rv aa, iv ((iI.toInt32) + (1 : Int32)), rv db, iv ((iI.toInt32) + (1 : Int32)), iv (xs.length.toInt32), iv ((iI.toInt32) + (1 : Int32)), iv (xs.getD iI 0)] [])) (fun t k => XS.goto X4.here hx rfl (pc0 := 41) (pc' := 3) rfl (hb hby d12_41) (by decide) (by decide) k) ?_
      rw [own_add1 (i := iI) (by omega)]
      exact ih (iI + 1) _ _ _ _ X4 e4 N4 Zs4 Kp4 (VaJ.other W4 nad) By4 (by omega) (One.val rfl)
  exact LOOP jj 0 _ _ _ _ X0 e0 N0 Z0 (Keep.refl h0 [db]) Va Vd (Nat.zero_add _) One.u
theorem d11_0 : decode jdk_52_method_16_code 0 = .ok (.iload_n 2, 1) := by decide +kernel
theorem d11_1 : decode jdk_52_method_16_code 1 = .ok (.newarray .byte, 2) := by decide +kernel
theorem d11_3 : decode jdk_52_method_16_code 3 = .ok (.astore_n 3, 1) := by decide +kernel
theorem d11_4 : decode jdk_52_method_16_code 4 = .ok (.aload_n 0, 1) := by decide +kernel
theorem d11_5 : decode jdk_52_method_16_code 5 = .ok (.iload_n 1, 1) := by decide +kernel
theorem d11_6 : decode jdk_52_method_16_code 6 = .ok (.aload_n 3, 1) := by decide +kernel
theorem d11_7 : decode jdk_52_method_16_code 7 = .ok (.iconst 0, 1) := by decide +kernel
theorem d11_8 : decode jdk_52_method_16_code 8 = .ok (.iload_n 2, 1) := by decide +kernel
theorem d11_9 : decode jdk_52_method_16_code 9 = .ok (.invokestatic 115, 3) := by decide +kernel
theorem d11_12 : decode jdk_52_method_16_code 12 = .ok (.istore 4, 2) := by decide +kernel
theorem d11_14 : decode jdk_52_method_16_code 14 = .ok (.iload 4, 2) := by decide +kernel
theorem d11_16 : decode jdk_52_method_16_code 16 = .ok (.iload_n 2, 1) := by decide +kernel
theorem d11_17 : decode jdk_52_method_16_code 17 = .ok (.if_icmp .eq 40, 3) := by decide +kernel
theorem d11_20 : decode jdk_52_method_16_code 20 = .ok (.aload_n 0, 1) := by decide +kernel
theorem d11_21 : decode jdk_52_method_16_code 21 = .ok (.iload_n 1, 1) := by decide +kernel
theorem d11_22 : decode jdk_52_method_16_code 22 = .ok (.iload_n 2, 1) := by decide +kernel
theorem d11_23 : decode jdk_52_method_16_code 23 = .ok (.invokestatic 119, 3) := by decide +kernel
theorem d11_26 : decode jdk_52_method_16_code 26 = .ok (.astore 5, 2) := by decide +kernel
theorem d11_28 : decode jdk_52_method_16_code 28 = .ok (.aload 5, 2) := by decide +kernel
theorem d11_30 : decode jdk_52_method_16_code 30 = .ok (.iload 4, 2) := by decide +kernel
theorem d11_32 : decode jdk_52_method_16_code 32 = .ok (.invokestatic 71, 3) := by decide +kernel
theorem d11_35 : decode jdk_52_method_16_code 35 = .ok (.sipush 255, 3) := by decide +kernel
theorem d11_38 : decode jdk_52_method_16_code 38 = .ok (.if_icmp .gt 16, 3) := by decide +kernel
theorem d11_41 : decode jdk_52_method_16_code 41 = .ok (.aload 5, 2) := by decide +kernel
theorem d11_43 : decode jdk_52_method_16_code 43 = .ok (.iconst 0, 1) := by decide +kernel
theorem d11_44 : decode jdk_52_method_16_code 44 = .ok (.aload_n 3, 1) := by decide +kernel
theorem d11_45 : decode jdk_52_method_16_code 45 = .ok (.iconst 0, 1) := by decide +kernel
theorem d11_46 : decode jdk_52_method_16_code 46 = .ok (.iload_n 2, 1) := by decide +kernel
theorem d11_47 : decode jdk_52_method_16_code 47 = .ok (.invokestatic 123, 3) := by decide +kernel
theorem d11_50 : decode jdk_52_method_16_code 50 = .ok (.iload_n 2, 1) := by decide +kernel
theorem d11_51 : decode jdk_52_method_16_code 51 = .ok (.if_icmp .eq 6, 3) := by decide +kernel
theorem d11_54 : decode jdk_52_method_16_code 54 = .ok (.aload 5, 2) := by decide +kernel
theorem d11_56 : decode jdk_52_method_16_code 56 = .ok (.areturn, 1) := by decide +kernel
theorem d11_57 : decode jdk_52_method_16_code 57 = .ok (.aload_n 3, 1) := by decide +kernel
theorem d11_58 : decode jdk_52_method_16_code 58 = .ok (.areturn, 1) := by decide +kernel
theorem pd_9 : parseMethodDescriptor "([CI[BII)I" = some ⟨[(.array .char), .int, (.array .byte), .int, .int], some .int⟩ := by decide +kernel
theorem pd_10 : parseMethodDescriptor "([CII)[B" = some ⟨[(.array .char), .int, .int], some (.array .byte)⟩ := by decide +kernel
theorem ef_11 (m : MethodId) (aa : Addr) (of : Int32) (ln : Int32) : entryFrame m #[(.ref aa), (.int of), (.int ln)] 6 = mkF m 0 #[rv aa, iv of, iv ln, .unset, .unset, .unset] [] := by first | (simp [entryFrame, mkF, argsToLocals, Value.category]; done) | rfl
def Q11 (Z : State) (aa : Addr) (of : Int32) (ln : Int32) (kA : ClassId) (xs : List Int32) (jj : Nat) (h0 : Heap) (n0 : Nat) (v : Option Value) (h : Heap) (L : List Loc) : Prop := ∃ a k, v = some (.ref a) ∧ Fr n0 L ∧ Keep h0 h [] ∧ n0 ≤ a ∧ h0.size ≤ a ∧ Arv Z h a k .byte ((2 * xs.length).toInt32) (StrChars.Road.wideBytes xs) (.int 0)
set_option maxRecDepth 65536 in
set_option maxHeartbeats 40000000 in
theorem rm11 (l : Launch) (Z : State) (a0 : Array Value) (hw : ∀ d ∈ tables_1, d.before a0 Z = true) (ws : List Jvm.Cond) (aa : Addr) (of : Int32) (ln : Int32) (kA : ClassId) (xs : List Int32) (jj : Nat) (h0 : Heap) (n0 : Nat) (Z0 : n0 ≤ h0.size) (hof : of = (0 : Int32)) (hln : ln = (xs.length.toInt32)) (hx4 : xs.length ≤ 4) (hx1 : 0 < xs.length) (Od : Old Z n0 h0) (Va : Arv Z h0 aa kA .char (xs.length.toInt32) (xs.map Value.int) (.int (0 : Int32))) (Sad : Sta Z Z.heap "java/lang/StringUTF16" "$assertionsDisabled" "Z" (.int 1)) (Shi : Sta Z Z.heap "java/lang/StringUTF16" "HI_BYTE_SHIFT" "I" (.int 0)) (Slo : Sta Z Z.heap "java/lang/StringUTF16" "LO_BYTE_SHIFT" "I" (.int 8)) (hj : jj < xs.length) (hlt : ∀ i, i < jj → ¬ (255 : Int32) < xs.getD i 0) (hgt : (255 : Int32) < xs.getD jj 0) (hch : ∀ c ∈ xs, ¬ c < 0 ∧ ¬ (65535 : Int32) < c) :
    MetFree l (⟨"java/lang/StringUTF16", "compress", "([CII)[B"⟩ : MethodName) (head1 (Jvm.Cond.code (⟨"java/lang/StringUTF16", "compress", "([CII)[B"⟩ : MethodName) jdk_52_method_16_code 6 (some (.array .byte)) :: ws) ({ frames := 3, cells := 2, slots := 12, locals := 40 } : Room)) (fun a U => a = #[(.ref aa), (.int of), (.int ln)] ∧ Z.Warmed39 U.vm ∧ U.heap = h0) (fun _ _ _ _ _ => True) (fun _ U o U' => ∃ v L, o = .returned v ∧ Q11 Z aa of ln kA xs jj h0 n0 v U'.heap L ∧ FrameEnd U o U' L ({ frames := 3, cells := 2, slots := 12, locals := 40 } : Room).cells ({ frames := 3, cells := 2, slots := 12, locals := 40 } : Room).slots) := by
  refine MetFree.of_bodySF (plainFor_of_name pn_0) hisR ?_
  intro p e s m args below meth c s₁ Bd hml0 hP hK
  obtain ⟨rfl, hZ, hh⟩ := hP
  have hx := Bd.exec
  have hby := Bd.bytes
  have hml : c.maxLocals = 6 := hml0
  have hown : s.vm.findClass "java/lang/StringUTF16" = some m.cls := findClass_of_methodNamed Bd.named
  have hnm := (name_of_methodNamed Bd.named Bd.method).1
  have hlk : meth.locks = false := Bd.notSynchronized
  have hrt := Bd.returns
  have X0 : Stand p l e ({ frames := 3, cells := 2, slots := 12, locals := 40 } : Room) s m #[(.ref aa), (.int of), (.int ln)] below meth c s₁ [] 0 0 := Stand.of_body Bd
  have e0 : s₁.heap = h0 := by rw [← hh, Bd.state]; rfl
  have N0 := Fr.nil n0
  show own_Endz p.tables e below (own_EndQ s ({ frames := 3, cells := 2, slots := 12, locals := 40 } : Room).cells ({ frames := 3, cells := 2, slots := 12, locals := 40 } : Room).slots (Q11 Z aa of ln kA xs jj h0 n0)) (s₁.setTop (entryFrame m #[(.ref aa), (.int of), (.int ln)] 6))
  refine own_cast (ef_11 m aa of ln) ?_
  subst hof
  subst hln
  show own_Endz p.tables e below (own_EndQ s ({ frames := 3, cells := 2, slots := 12, locals := 40 } : Room).cells ({ frames := 3, cells := 2, slots := 12, locals := 40 } : Room).slots (Q11 Z aa ((0 : Int32)) ((xs.length.toInt32)) kA xs jj h0 n0)) (s₁.setTop (mkF m 0 #[rv aa, iv 0, iv (xs.length.toInt32), .unset, .unset, .unset] []))
  have hne : ¬ jj.toInt32 = (xs.length.toInt32) := fun q => absurd (own_inj32 (by omega) (by omega) q) (by omega)
  obtain ⟨j0, v0, j1, v1, hcc, hnc, hin⟩ := own_g16 hx4 hj hch
  refine own_go (b := s₁.setTop (mkF m 1 #[rv aa, iv 0, iv (xs.length.toInt32), .unset, .unset, .unset] [(.int (xs.length.toInt32))])) (fun t k => XS.iloadN X0.here hx rfl (hb hby d11_0) rfl  k) ?_
  obtain ⟨T1, h1, k1, X1, e1, E1, A1, st1⟩ := newP X0 hx hZ (hw _ (List.mem_of_getElem? (i := 17) rfl)) e0 (g := (mkF m 1 #[rv aa, iv 0, iv (xs.length.toInt32), .unset, .unset, .unset] [(.int (xs.length.toInt32))])) rfl (hb hby d11_1) rfl (own_nn (by omega)) (cap := 4) (by rw [own_n32 (by omega)]; exact hx4) (by decide) (by decide) (by decide)
  obtain ⟨b1, g1⟩ : ∃ z, z = h0.size := ⟨_, rfl⟩
  rw [← g1] at A1 st1
  have g_b1 : n0 ≤ b1 := Nat.le_trans Z0 (Nat.le_of_eq g1.symm)
  have sz_b1 : h0.size ≤ b1 := Nat.le_trans (Keep.refl h0 []).1 (Nat.le_of_eq g1.symm)
  have Zs1 : n0 ≤ h1.size := Nat.le_trans Z0 E1.1
  have Kp1 : Keep h0 h1 [] := (Keep.refl h0 []).ext E1
  have Ol1 := Od.ext E1
  have V_b1 := Arv.new A1 (own_nn (by omega))
  refine own_go (b := T1.setTop (mkF m 3 #[rv aa, iv 0, iv (xs.length.toInt32), .unset, .unset, .unset] [(.ref b1)])) st1 ?_
  refine own_go (b := T1.setTop (mkF m 4 #[rv aa, iv 0, iv (xs.length.toInt32), rv b1, .unset, .unset] [])) (fun t k => XS.astoreN X1.here hx rfl (hb hby d11_3) rfl rfl (l' := #[rv aa, iv 0, iv (xs.length.toInt32), rv b1, .unset, .unset]) rfl k) ?_
  refine own_go (b := T1.setTop (mkF m 5 #[rv aa, iv 0, iv (xs.length.toInt32), rv b1, .unset, .unset] [(.ref aa)])) (fun t k => XS.aloadN X1.here hx rfl (hb hby d11_4) rfl rfl k) ?_
  refine own_go (b := T1.setTop (mkF m 6 #[rv aa, iv 0, iv (xs.length.toInt32), rv b1, .unset, .unset] [(.int 0), (.ref aa)])) (fun t k => XS.iloadN X1.here hx rfl (hb hby d11_5) rfl  k) ?_
  refine own_go (b := T1.setTop (mkF m 7 #[rv aa, iv 0, iv (xs.length.toInt32), rv b1, .unset, .unset] [(.ref b1), (.int 0), (.ref aa)])) (fun t k => XS.aloadN X1.here hx rfl (hb hby d11_6) rfl rfl k) ?_
  refine own_go (b := T1.setTop (mkF m 8 #[rv aa, iv 0, iv (xs.length.toInt32), rv b1, .unset, .unset] [(.int 0), (.ref b1), (.int 0), (.ref aa)])) (fun t k => XS.iconst X1.here hx rfl (hb hby d11_7) k) ?_
  refine own_go (b := T1.setTop (mkF m 9 #[rv aa, iv 0, iv (xs.length.toInt32), rv b1, .unset, .unset] [(.int (xs.length.toInt32)), (.int 0), (.ref b1), (.int 0), (.ref aa)])) (fun t k => XS.iloadN X1.here hx rfl (hb hby d11_8) rfl  k) ?_
  have By3 : own_By Z h1 b1 xs.length := by
    obtain ⟨cl, A, -, S, -⟩ := V_b1
    exact ⟨cl, A, by rw [S]; exact own_n32 (by omega)⟩
  obtain ⟨_, _, ⟨T2, L2, k2, n2⟩, -, X2, ⟨Lc2, hQ2, l2, y2, z2⟩, st2⟩ := Jvm.LawKit.callS X1 hx (y := (⟨"java/lang/StringUTF16", "compress", "([CI[BII)I"⟩ : MethodName)) hown (mvT hZ (hw _ (List.mem_of_getElem? (i := 65) rfl))) (mvT hZ (hw _ (List.mem_of_getElem? (i := 66) rfl))) (mvT hZ (hw _ (List.mem_of_getElem? (i := 63) rfl))) (mvT hZ (hw _ (List.mem_of_getElem? (i := 67) rfl))) (by decide) (backOf (W := 0) (rm12 l Z a0 hw [] aa (0 : Int32) b1 (0 : Int32) (xs.length.toInt32) kA xs jj h1 n0 Zs1 rfl rfl rfl hx4 (Va.ext E1) By3 g_b1 (Ne.symm (Nat.ne_of_gt (Nat.lt_of_lt_of_le Va.lt sz_b1))) hj hlt hgt) hZ (hw _ (List.mem_of_getElem? (i := 67) rfl)) (hw _ (List.mem_of_getElem? (i := 63) rfl)) (by decide) (by decide)) (g := (mkF m 9 #[rv aa, iv 0, iv (xs.length.toInt32), rv b1, .unset, .unset] [(.int (xs.length.toInt32)), (.int 0), (.ref b1), (.int 0), (.ref aa)])) rfl (by rw [hml]; rfl) (argsL := [(.ref aa), (.int 0), (.ref b1), (.int 0), (.int (xs.length.toInt32))]) (rest := []) (lenOf pd_9 rfl) rfl (by show 2 * 0 + _ ≤ _; exact Nat.le_of_eq rfl) (hb hby d11_9) (fun _ _ => ⟨rfl, e1, (by decide : 1 + 0 ≤ _), (by decide : 4 + 0 ≤ _)⟩)
  dsimp only [Pt.U, Pt.locs, Pt.cells, Pt.slots] at X2 l2 y2 z2 st2 hQ2
  subst l2 y2 z2
  obtain ⟨rfl, N2q, K2⟩ := hQ2
  have Zs2 : n0 ≤ T2.heap.size := Nat.le_trans Zs1 K2.1
  have N2 := Fr.app N0 N2q
  have Kp2 : Keep h0 T2.heap [] := Kp1.trans K2 (by intro x hx; simp only [List.mem_cons, List.not_mem_nil, or_false] at hx; rcases hx with rfl <;> first | exact Or.inr (by assumption) | exact Or.inl (by simp))
  have Ol2 := Ol1.keep K2 (allS g_b1 all0)
  obtain ⟨lq2, X2, N2⟩ : ∃ lq, Stand p l e ({ frames := 3, cells := 2, slots := 12, locals := 40 } : Room) s m #[(.ref aa), (.int ((0 : Int32))), (.int ((xs.length.toInt32)))] below meth c T2 lq 1 4 ∧ Fr n0 lq := ⟨_, X2, N2⟩
  refine own_go (b := T2.setTop (mkF m 12 #[rv aa, iv 0, iv (xs.length.toInt32), rv b1, .unset, .unset] [(.int (jj.toInt32))])) st2 ?_
  refine own_go (b := T2.setTop (mkF m 14 #[rv aa, iv 0, iv (xs.length.toInt32), rv b1, iv (jj.toInt32), .unset] [])) (fun t k => XS.istore X2.here hx rfl (hb hby d11_12) rfl (l' := #[rv aa, iv 0, iv (xs.length.toInt32), rv b1, iv (jj.toInt32), .unset]) rfl k) ?_
  refine own_go (b := T2.setTop (mkF m 16 #[rv aa, iv 0, iv (xs.length.toInt32), rv b1, iv (jj.toInt32), .unset] [(.int (jj.toInt32))])) (fun t k => XS.iload X2.here hx rfl (hb hby d11_14) rfl  k) ?_
  refine own_go (b := T2.setTop (mkF m 17 #[rv aa, iv 0, iv (xs.length.toInt32), rv b1, iv (jj.toInt32), .unset] [(.int (xs.length.toInt32)), (.int (jj.toInt32))])) (fun t k => XS.iloadN X2.here hx rfl (hb hby d11_16) rfl  k) ?_
  refine own_go (b := T2.setTop (mkF m 20 #[rv aa, iv 0, iv (xs.length.toInt32), rv b1, iv (jj.toInt32), .unset] [])) (fun t k => XS.icmpNo X2.here hx rfl (hb hby d11_17) rfl (feq hne).1 k) ?_
  refine own_go (b := T2.setTop (mkF m 21 #[rv aa, iv 0, iv (xs.length.toInt32), rv b1, iv (jj.toInt32), .unset] [(.ref aa)])) (fun t k => XS.aloadN X2.here hx rfl (hb hby d11_20) rfl rfl k) ?_
  refine own_go (b := T2.setTop (mkF m 22 #[rv aa, iv 0, iv (xs.length.toInt32), rv b1, iv (jj.toInt32), .unset] [(.int 0), (.ref aa)])) (fun t k => XS.iloadN X2.here hx rfl (hb hby d11_21) rfl  k) ?_
  refine own_go (b := T2.setTop (mkF m 23 #[rv aa, iv 0, iv (xs.length.toInt32), rv b1, iv (jj.toInt32), .unset] [(.int (xs.length.toInt32)), (.int 0), (.ref aa)])) (fun t k => XS.iloadN X2.here hx rfl (hb hby d11_22) rfl  k) ?_
  obtain ⟨_, _, ⟨T4, L4, k4, n4⟩, -, X4, ⟨Lc4, hQ4, l4, y4, z4⟩, st4⟩ := Jvm.LawKit.callS X2 hx (y := (⟨"java/lang/StringUTF16", "toBytes", "([CII)[B"⟩ : MethodName)) hown (mvT hZ (hw _ (List.mem_of_getElem? (i := 99) rfl))) (mvT hZ (hw _ (List.mem_of_getElem? (i := 100) rfl))) (mvT hZ (hw _ (List.mem_of_getElem? (i := 63) rfl))) (mvT hZ (hw _ (List.mem_of_getElem? (i := 101) rfl))) (by decide) (backOf (W := 0) (rm20 l Z a0 hw [] aa (0 : Int32) (xs.length.toInt32) kA xs T2.heap n0 Zs2 rfl rfl hx4 hx1 Ol2 ((Va.ext E1).keep K2 (ninS (Nat.ne_of_lt (Nat.lt_of_lt_of_le (Va).lt (Nat.le_of_eq g1.symm))) nin0)) Sad Shi Slo) hZ (hw _ (List.mem_of_getElem? (i := 101) rfl)) (hw _ (List.mem_of_getElem? (i := 63) rfl)) (by decide) (by decide)) (g := (mkF m 23 #[rv aa, iv 0, iv (xs.length.toInt32), rv b1, iv (jj.toInt32), .unset] [(.int (xs.length.toInt32)), (.int 0), (.ref aa)])) rfl (by rw [hml]; rfl) (argsL := [(.ref aa), (.int 0), (.int (xs.length.toInt32))]) (rest := []) (lenOf pd_10 rfl) rfl (by show 2 * 0 + _ ≤ _; exact Nat.le_of_eq rfl) (hb hby d11_23) (fun _ _ => ⟨rfl, rfl, (by decide : 1 + 1 ≤ _), (by decide : 4 + 8 ≤ _)⟩)
  dsimp only [Pt.U, Pt.locs, Pt.cells, Pt.slots] at X4 l4 y4 z4 st4 hQ4
  subst l4 y4 z4
  obtain ⟨vb, kV, rfl, N4q, K4, g_vb, sz_vq, Vn⟩ := hQ4
  have sz_vb : h0.size ≤ vb := Nat.le_trans Kp2.1 sz_vq
  have Zs4 : n0 ≤ T4.heap.size := Nat.le_trans Zs2 K4.1
  have N4 := Fr.app N2 N4q
  have Kp4 : Keep h0 T4.heap [] := Kp2.trans K4 (fun x hx => nomatch hx)
  have Ol4 := Ol2.keep K4 all0
  obtain ⟨lq4, X4, N4⟩ : ∃ lq, Stand p l e ({ frames := 3, cells := 2, slots := 12, locals := 40 } : Room) s m #[(.ref aa), (.int ((0 : Int32))), (.int ((xs.length.toInt32)))] below meth c T4 lq 2 12 ∧ Fr n0 lq := ⟨_, X4, N4⟩
  refine own_go (b := T4.setTop (mkF m 26 #[rv aa, iv 0, iv (xs.length.toInt32), rv b1, iv (jj.toInt32), .unset] [(.ref vb)])) st4 ?_
  refine own_go (b := T4.setTop (mkF m 28 #[rv aa, iv 0, iv (xs.length.toInt32), rv b1, iv (jj.toInt32), rv vb] [])) (fun t k => XS.astore X4.here hx rfl (hb hby d11_26) rfl rfl (l' := #[rv aa, iv 0, iv (xs.length.toInt32), rv b1, iv (jj.toInt32), rv vb]) rfl k) ?_
  refine own_go (b := T4.setTop (mkF m 30 #[rv aa, iv 0, iv (xs.length.toInt32), rv b1, iv (jj.toInt32), rv vb] [(.ref vb)])) (fun t k => XS.aload X4.here hx rfl (hb hby d11_28) rfl rfl k) ?_
  refine own_go (b := T4.setTop (mkF m 32 #[rv aa, iv 0, iv (xs.length.toInt32), rv b1, iv (jj.toInt32), rv vb] [(.int (jj.toInt32)), (.ref vb)])) (fun t k => XS.iload X4.here hx rfl (hb hby d11_30) rfl  k) ?_
  obtain ⟨_, _, ⟨T5, L5, k5, n5⟩, -, X5, ⟨Lc5, hQ5, l5, y5, z5⟩, st5⟩ := Jvm.LawKit.callS X4 hx (y := (⟨"java/lang/StringUTF16", "getChar", "([BI)C"⟩ : MethodName)) hown (mvT hZ (hw _ (List.mem_of_getElem? (i := 115) rfl))) (mvT hZ (hw _ (List.mem_of_getElem? (i := 116) rfl))) (mvT hZ (hw _ (List.mem_of_getElem? (i := 63) rfl))) (mvT hZ (hw _ (List.mem_of_getElem? (i := 117) rfl))) (by decide) (backOf (W := 0) (rm24 l Z a0 hw [] vb (jj.toInt32) kV ((2 * xs.length).toInt32) (StrChars.Road.wideBytes xs) _ _ (xs.getD jj 0) T4.heap n0 Zs4 (Sad.ext Ol4.2) (Shi.ext Ol4.2) (Slo.ext Ol4.2) Vn j0 v0 j1 v1 hcc) hZ (hw _ (List.mem_of_getElem? (i := 117) rfl)) (hw _ (List.mem_of_getElem? (i := 63) rfl)) (by decide) (by decide)) (g := (mkF m 32 #[rv aa, iv 0, iv (xs.length.toInt32), rv b1, iv (jj.toInt32), rv vb] [(.int (jj.toInt32)), (.ref vb)])) rfl (by rw [hml]; rfl) (argsL := [(.ref vb), (.int (jj.toInt32))]) (rest := []) (lenOf pd_4 rfl) rfl (by show 2 * 0 + _ ≤ _; exact Nat.le_of_eq rfl) (hb hby d11_32) (fun _ _ => ⟨rfl, rfl, (by decide : 2 + 0 ≤ _), (by decide : 12 + 0 ≤ _)⟩)
  dsimp only [Pt.U, Pt.locs, Pt.cells, Pt.slots] at X5 l5 y5 z5 st5 hQ5
  subst l5 y5 z5
  obtain ⟨rfl, N5q, e5⟩ := hQ5
  have N5 := Fr.app N4 N5q
  obtain ⟨lq5, X5, N5⟩ : ∃ lq, Stand p l e ({ frames := 3, cells := 2, slots := 12, locals := 40 } : Room) s m #[(.ref aa), (.int ((0 : Int32))), (.int ((xs.length.toInt32)))] below meth c T5 lq 2 12 ∧ Fr n0 lq := ⟨_, X5, N5⟩
  refine own_go (b := T5.setTop (mkF m 35 #[rv aa, iv 0, iv (xs.length.toInt32), rv b1, iv (jj.toInt32), rv vb] [(.int (xs.getD jj 0))])) st5 ?_
  refine own_go (b := T5.setTop (mkF m 38 #[rv aa, iv 0, iv (xs.length.toInt32), rv b1, iv (jj.toInt32), rv vb] [(.int 255), (.int (xs.getD jj 0))])) (fun t k => XS.sipush X5.here hx rfl (hb hby d11_35) k) ?_
  refine own_go (b := T5.setTop (mkF m 54 #[rv aa, iv 0, iv (xs.length.toInt32), rv b1, iv (jj.toInt32), rv vb] [])) (fun t k => XS.icmpYes X5.here hx rfl (pc0 := 38) (pc' := 54) rfl (hb hby d11_38) rfl (tlt hgt).2.2.1 (by decide) (by decide) k) ?_
  refine own_go (b := T5.setTop (mkF m 56 #[rv aa, iv 0, iv (xs.length.toInt32), rv b1, iv (jj.toInt32), rv vb] [(.ref vb)])) (fun t k => XS.aload X5.here hx rfl (hb hby d11_54) rfl rfl k) ?_
  exact own_retA X5 hx hlk hrt rfl rfl (hb hby d11_56) (Nat.le_of_ble_eq_true rfl) (Nat.le_of_ble_eq_true rfl) (⟨vb, kV, rfl, N5, by rw [e5]; exact Kp4, g_vb, sz_vb, by rw [e5]; exact Vn⟩)
theorem d13_0 : decode jdk_52_method_15_code 0 = .ok (.iload_n 1, 1) := by decide +kernel
theorem d13_1 : decode jdk_52_method_15_code 1 = .ok (.aload_n 0, 1) := by decide +kernel
theorem d13_2 : decode jdk_52_method_15_code 2 = .ok (.arraylength, 1) := by decide +kernel
theorem d13_3 : decode jdk_52_method_15_code 3 = .ok (.isub, 1) := by decide +kernel
theorem d13_4 : decode jdk_52_method_15_code 4 = .ok (.bipush 31, 2) := by decide +kernel
theorem d13_6 : decode jdk_52_method_15_code 6 = .ok (.iushr, 1) := by decide +kernel
theorem d13_7 : decode jdk_52_method_15_code 7 = .ok (.i2b, 1) := by decide +kernel
theorem d13_8 : decode jdk_52_method_15_code 8 = .ok (.ireturn, 1) := by decide +kernel
theorem ef_13 (m : MethodId) (vt : Addr) (ln : Int32) : entryFrame m #[(.ref vt), (.int ln)] 2 = mkF m 0 #[rv vt, iv ln] [] := by first | (simp [entryFrame, mkF, argsToLocals, Value.category]; done) | rfl
def Q13 (Z : State) (vt : Addr) (ln : Int32) (kb : ClassId) (N2 : Int32) (vs : List Value) (h0 : Heap) (n0 : Nat) (v : Option Value) (h : Heap) (L : List Loc) : Prop := v = some (.int 1) ∧ Fr n0 L ∧ h = h0
set_option maxRecDepth 65536 in
set_option maxHeartbeats 40000000 in
theorem rm13 (l : Launch) (Z : State) (a0 : Array Value) (hw : ∀ d ∈ tables_1, d.before a0 Z = true) (ws : List Jvm.Cond) (vt : Addr) (ln : Int32) (kb : ClassId) (N2 : Int32) (vs : List Value) (h0 : Heap) (n0 : Nat) (Z0 : n0 ≤ h0.size) (Vb : Arv Z h0 vt kb .byte N2 vs (.int 0)) (hq : (nar .byte ((((ln - N2).toUInt32 >>> ((31 : Int32) &&& 31).toUInt32).toInt32).toInt8.toInt32)) = 1) :
    MetFree l (⟨"java/lang/StringUTF16", "coderFromArrayLen", "([BI)B"⟩ : MethodName) (head1 (Jvm.Cond.code (⟨"java/lang/StringUTF16", "coderFromArrayLen", "([BI)B"⟩ : MethodName) jdk_52_method_15_code 2 (some .byte) :: ws) ({ frames := 0, cells := 0, slots := 0, locals := 0 } : Room)) (fun a U => a = #[(.ref vt), (.int ln)] ∧ Z.Warmed39 U.vm ∧ U.heap = h0) (fun _ _ _ _ _ => True) (fun _ U o U' => ∃ v L, o = .returned v ∧ Q13 Z vt ln kb N2 vs h0 n0 v U'.heap L ∧ FrameEnd U o U' L ({ frames := 0, cells := 0, slots := 0, locals := 0 } : Room).cells ({ frames := 0, cells := 0, slots := 0, locals := 0 } : Room).slots) := by
  refine MetFree.of_bodySF (plainFor_of_name pn_0) hisR ?_
  intro p e s m args below meth c s₁ Bd hml0 hP hK
  obtain ⟨rfl, hZ, hh⟩ := hP
  have hx := Bd.exec
  have hby := Bd.bytes
  have hml : c.maxLocals = 2 := hml0
  have hown : s.vm.findClass "java/lang/StringUTF16" = some m.cls := findClass_of_methodNamed Bd.named
  have hnm := (name_of_methodNamed Bd.named Bd.method).1
  have hlk : meth.locks = false := Bd.notSynchronized
  have hrt := Bd.returns
  have X0 : Stand p l e ({ frames := 0, cells := 0, slots := 0, locals := 0 } : Room) s m #[(.ref vt), (.int ln)] below meth c s₁ [] 0 0 := Stand.of_body Bd
  have e0 : s₁.heap = h0 := by rw [← hh, Bd.state]; rfl
  have N0 := Fr.nil n0
  show own_Endz p.tables e below (own_EndQ s ({ frames := 0, cells := 0, slots := 0, locals := 0 } : Room).cells ({ frames := 0, cells := 0, slots := 0, locals := 0 } : Room).slots (Q13 Z vt ln kb N2 vs h0 n0)) (s₁.setTop (entryFrame m #[(.ref vt), (.int ln)] 2))
  refine own_cast (ef_13 m vt ln) ?_
  refine own_go (b := s₁.setTop (mkF m 1 #[rv vt, iv ln] [(.int ln)])) (fun t k => XS.iloadN X0.here hx rfl (hb hby d13_0) rfl  k) ?_
  refine own_go (b := s₁.setTop (mkF m 2 #[rv vt, iv ln] [(.ref vt), (.int ln)])) (fun t k => XS.aloadN X0.here hx rfl (hb hby d13_1) rfl rfl k) ?_
  obtain ⟨cl1, Ar1, qc1, Sz1, Ng1, Hs1, Ft1⟩ := id Vb
  refine own_go (b := s₁.setTop (mkF m 3 #[rv vt, iv ln] [(.int (cl1.slots.size.toInt32)), (.int ln)])) (fun t k => X0.arraylength hx (own_at e0 Ar1.1) (State.isArrayOf_alike hZ.alike Ar1.2.1) (g := (mkF m 2 #[rv vt, iv ln] [(.ref vt), (.int ln)])) rfl rfl (hb hby d13_2) t k) ?_
  rw [(len_of Sz1 Ng1)]
  refine own_go (b := s₁.setTop (mkF m 4 #[rv vt, iv ln] [(.int (ln - N2))])) (fun t k => XS.isub X0.here hx rfl (hb hby d13_3) rfl k) ?_
  refine own_go (b := s₁.setTop (mkF m 6 #[rv vt, iv ln] [(.int 31), (.int (ln - N2))])) (fun t k => XS.bipush X0.here hx rfl (hb hby d13_4) k) ?_
  refine own_go (b := s₁.setTop (mkF m 7 #[rv vt, iv ln] [(.int (((ln - N2).toUInt32 >>> ((31 : Int32) &&& 31).toUInt32).toInt32))])) (fun t k => XS.iushr X0.here hx rfl (hb hby d13_6) rfl k) ?_
  refine own_go (b := s₁.setTop (mkF m 8 #[rv vt, iv ln] [(.int ((((ln - N2).toUInt32 >>> ((31 : Int32) &&& 31).toUInt32).toInt32).toInt8.toInt32))])) (fun t k => XS.i2b X0.here hx rfl (hb hby d13_7) rfl k) ?_
  exact own_retN X0 hx hlk (t := .byte) hrt (by simp) (hb hby d13_8) (Nat.le_of_ble_eq_true rfl) (Nat.le_of_ble_eq_true rfl) (⟨congrArg (fun z => some (Value.int z)) hq, N0, e0⟩)
theorem d2_0 : decode jdk_42_method_149_code 0 = .ok (.aload_n 0, 1) := by decide +kernel
theorem d2_1 : decode jdk_42_method_149_code 1 = .ok (.invokespecial 1, 3) := by decide +kernel
theorem d2_4 : decode jdk_42_method_149_code 4 = .ok (.iload_n 3, 1) := by decide +kernel
theorem d2_5 : decode jdk_42_method_149_code 5 = .ok (.ifCond .ne 22, 3) := by decide +kernel
theorem d2_8 : decode jdk_42_method_149_code 8 = .ok (.aload_n 0, 1) := by decide +kernel
theorem d2_9 : decode jdk_42_method_149_code 9 = .ok (.ldc 7, 2) := by decide +kernel
theorem d2_11 : decode jdk_42_method_149_code 11 = .ok (.getfield 9, 3) := by decide +kernel
theorem d2_14 : decode jdk_42_method_149_code 14 = .ok (.putfield 9, 3) := by decide +kernel
theorem d2_17 : decode jdk_42_method_149_code 17 = .ok (.aload_n 0, 1) := by decide +kernel
theorem d2_18 : decode jdk_42_method_149_code 18 = .ok (.ldc 7, 2) := by decide +kernel
theorem d2_20 : decode jdk_42_method_149_code 20 = .ok (.getfield 15, 3) := by decide +kernel
theorem d2_23 : decode jdk_42_method_149_code 23 = .ok (.putfield 15, 3) := by decide +kernel
theorem d2_26 : decode jdk_42_method_149_code 26 = .ok (.return_, 1) := by decide +kernel
theorem d2_27 : decode jdk_42_method_149_code 27 = .ok (.getstatic 38, 3) := by decide +kernel
theorem d2_30 : decode jdk_42_method_149_code 30 = .ok (.ifCond .eq 28, 3) := by decide +kernel
theorem d2_33 : decode jdk_42_method_149_code 33 = .ok (.aload_n 1, 1) := by decide +kernel
theorem d2_34 : decode jdk_42_method_149_code 34 = .ok (.iload_n 2, 1) := by decide +kernel
theorem d2_35 : decode jdk_42_method_149_code 35 = .ok (.iload_n 3, 1) := by decide +kernel
theorem d2_36 : decode jdk_42_method_149_code 36 = .ok (.invokestatic 177, 3) := by decide +kernel
theorem d2_39 : decode jdk_42_method_149_code 39 = .ok (.astore 5, 2) := by decide +kernel
theorem d2_41 : decode jdk_42_method_149_code 41 = .ok (.aload_n 0, 1) := by decide +kernel
theorem d2_42 : decode jdk_42_method_149_code 42 = .ok (.aload 5, 2) := by decide +kernel
theorem d2_44 : decode jdk_42_method_149_code 44 = .ok (.iload_n 3, 1) := by decide +kernel
theorem d2_45 : decode jdk_42_method_149_code 45 = .ok (.invokestatic 47, 3) := by decide +kernel
theorem d2_48 : decode jdk_42_method_149_code 48 = .ok (.putfield 15, 3) := by decide +kernel
theorem d2_51 : decode jdk_42_method_149_code 51 = .ok (.aload_n 0, 1) := by decide +kernel
theorem d2_52 : decode jdk_42_method_149_code 52 = .ok (.aload 5, 2) := by decide +kernel
theorem d2_54 : decode jdk_42_method_149_code 54 = .ok (.putfield 9, 3) := by decide +kernel
theorem d2_57 : decode jdk_42_method_149_code 57 = .ok (.return_, 1) := by decide +kernel
theorem d2_58 : decode jdk_42_method_149_code 58 = .ok (.aload_n 0, 1) := by decide +kernel
theorem d2_59 : decode jdk_42_method_149_code 59 = .ok (.iconst 1, 1) := by decide +kernel
theorem d2_60 : decode jdk_42_method_149_code 60 = .ok (.putfield 15, 3) := by decide +kernel
theorem d2_63 : decode jdk_42_method_149_code 63 = .ok (.aload_n 0, 1) := by decide +kernel
theorem d2_64 : decode jdk_42_method_149_code 64 = .ok (.aload_n 1, 1) := by decide +kernel
theorem d2_65 : decode jdk_42_method_149_code 65 = .ok (.iload_n 2, 1) := by decide +kernel
theorem d2_66 : decode jdk_42_method_149_code 66 = .ok (.iload_n 3, 1) := by decide +kernel
theorem d2_67 : decode jdk_42_method_149_code 67 = .ok (.invokestatic 180, 3) := by decide +kernel
theorem d2_70 : decode jdk_42_method_149_code 70 = .ok (.putfield 9, 3) := by decide +kernel
theorem d2_73 : decode jdk_42_method_149_code 73 = .ok (.return_, 1) := by decide +kernel
theorem pd_11 : parseMethodDescriptor "()V" = some ⟨[], none⟩ := by decide +kernel
theorem pd_12 : parseMethodDescriptor "([BI)B" = some ⟨[(.array .byte), .int], some .byte⟩ := by decide +kernel
theorem ef_2w (m : MethodId) (tt : Addr) (aa : Addr) (of : Int32) (ln : Int32) : entryFrame m #[(.ref tt), (.ref aa), (.int of), (.int ln), .null] 6 = mkF m 0 #[rv tt, rv aa, iv of, iv ln, .val .null, .unset] [] := by first | (simp [entryFrame, mkF, argsToLocals, Value.category]; done) | rfl
def Q2w (Z : State) (tt : Addr) (aa : Addr) (of : Int32) (ln : Int32) (kA : ClassId) (xs : List Int32) (jj : Nat) (G1 : Int32) (h0 : Heap) (n0 : Nat) (v : Option Value) (h : Heap) (L : List Loc) : Prop := v = none ∧ Fr n0 L ∧ Keep h0 h [tt] ∧ own_Sx Z h tt xs
set_option maxRecDepth 65536 in
set_option maxHeartbeats 40000000 in
theorem rm2w (l : Launch) (Z : State) (a0 : Array Value) (hw : ∀ d ∈ tables_1, d.before a0 Z = true) (ws : List Jvm.Cond) (tt : Addr) (aa : Addr) (of : Int32) (ln : Int32) (kA : ClassId) (xs : List Int32) (jj : Nat) (G1 : Int32) (h0 : Heap) (n0 : Nat) (Z0 : n0 ≤ h0.size) (hof : of = (0 : Int32)) (hln : ln = (xs.length.toInt32)) (hx4 : xs.length ≤ 4) (hx1 : 0 < xs.length) (Od : Old Z n0 h0) (Va : Arv Z h0 aa kA .char (xs.length.toInt32) (xs.map Value.int) (.int (0 : Int32))) (Sad : Sta Z Z.heap "java/lang/StringUTF16" "$assertionsDisabled" "Z" (.int 1)) (Shi : Sta Z Z.heap "java/lang/StringUTF16" "HI_BYTE_SHIFT" "I" (.int 0)) (Slo : Sta Z Z.heap "java/lang/StringUTF16" "LO_BYTE_SHIFT" "I" (.int 8)) (hj : jj < xs.length) (hlt : ∀ i, i < jj → ¬ (255 : Int32) < xs.getD i 0) (hgt : (255 : Int32) < xs.getD jj 0) (hch : ∀ c ∈ xs, ¬ c < 0 ∧ ¬ (65535 : Int32) < c) (O2 : Sta Z Z.heap "java/lang/String" "COMPACT_STRINGS" "Z" (.int G1)) (P5 : ¬ (G1 = (0 : Int32))) (Ex : Exa Z h0 tt "java/lang/String") (F1 : Fld Z h0 tt "java/lang/String" "value" "[B" .null) (F2 : Fld Z h0 tt "java/lang/String" "coder" "B" (.int 0)) (gt : n0 ≤ tt) :
    MetFree l (⟨"java/lang/String", "<init>", "([CIILjava/lang/Void;)V"⟩ : MethodName) (head1 (Jvm.Cond.code (⟨"java/lang/String", "<init>", "([CIILjava/lang/Void;)V"⟩ : MethodName) jdk_42_method_149_code 6 none :: ws) ({ frames := 4, cells := 2, slots := 12, locals := 57 } : Room)) (fun a U => a = #[(.ref tt), (.ref aa), (.int of), (.int ln), .null] ∧ Z.Warmed39 U.vm ∧ U.heap = h0) (fun _ _ _ _ _ => True) (fun _ U o U' => ∃ v L, o = .returned v ∧ Q2w Z tt aa of ln kA xs jj G1 h0 n0 v U'.heap L ∧ FrameEnd U o U' L ({ frames := 4, cells := 2, slots := 12, locals := 57 } : Room).cells ({ frames := 4, cells := 2, slots := 12, locals := 57 } : Room).slots) := by
  refine MetFree.of_bodySF (plainFor_of_name pn_2) hisR ?_
  intro p e s m args below meth c s₁ Bd hml0 hP hK
  obtain ⟨rfl, hZ, hh⟩ := hP
  have hx := Bd.exec
  have hby := Bd.bytes
  have hml : c.maxLocals = 6 := hml0
  have hown : s.vm.findClass "java/lang/String" = some m.cls := findClass_of_methodNamed Bd.named
  have hnm := (name_of_methodNamed Bd.named Bd.method).1
  have hlk : meth.locks = false := Bd.notSynchronized
  have hrt := Bd.returns
  have X0 : Stand p l e ({ frames := 4, cells := 2, slots := 12, locals := 57 } : Room) s m #[(.ref tt), (.ref aa), (.int of), (.int ln), .null] below meth c s₁ [] 0 0 := Stand.of_body Bd
  have e0 : s₁.heap = h0 := by rw [← hh, Bd.state]; rfl
  have N0 := Fr.nil n0
  show own_Endz p.tables e below (own_EndQ s ({ frames := 4, cells := 2, slots := 12, locals := 57 } : Room).cells ({ frames := 4, cells := 2, slots := 12, locals := 57 } : Room).slots (Q2w Z tt aa of ln kA xs jj G1 h0 n0)) (s₁.setTop (entryFrame m #[(.ref tt), (.ref aa), (.int of), (.int ln), .null] 6))
  refine own_cast (ef_2w m tt aa of ln) ?_
  subst hof
  subst hln
  show own_Endz p.tables e below (own_EndQ s ({ frames := 4, cells := 2, slots := 12, locals := 57 } : Room).cells ({ frames := 4, cells := 2, slots := 12, locals := 57 } : Room).slots (Q2w Z tt aa ((0 : Int32)) ((xs.length.toInt32)) kA xs jj G1 h0 n0)) (s₁.setTop (mkF m 0 #[rv tt, rv aa, iv 0, iv (xs.length.toInt32), .val .null, .unset] []))
  have hl0 : ¬ (xs.length.toInt32) = (0 : Int32) := fun q => absurd (own_inj32 (j := 0) (by omega) (by omega) q) (by omega)
  refine own_go (b := s₁.setTop (mkF m 1 #[rv tt, rv aa, iv 0, iv (xs.length.toInt32), .val .null, .unset] [(.ref tt)])) (fun t k => XS.aloadN X0.here hx rfl (hb hby d2_0) rfl rfl k) ?_
  obtain ⟨T1, X1, e1, st1⟩ := initO X0 hx hZ hown (hw _ (List.mem_of_getElem? (i := 13) rfl)) (hw _ (List.mem_of_getElem? (i := 14) rfl)) (hw _ (List.mem_of_getElem? (i := 15) rfl)) e0 (g := (mkF m 1 #[rv tt, rv aa, iv 0, iv (xs.length.toInt32), .val .null, .unset] [(.ref tt)])) rfl (by rw [hml]; rfl) rfl (hb hby d2_1) (by decide) (W := 0) (by show 2 * 0 + _ ≤ _; exact Nat.le_of_eq rfl) (by decide)
  refine own_go (b := T1.setTop (mkF m 4 #[rv tt, rv aa, iv 0, iv (xs.length.toInt32), .val .null, .unset] [])) st1 ?_
  refine own_go (b := T1.setTop (mkF m 5 #[rv tt, rv aa, iv 0, iv (xs.length.toInt32), .val .null, .unset] [(.int (xs.length.toInt32))])) (fun t k => XS.iloadN X1.here hx rfl (hb hby d2_4) rfl  k) ?_
  refine own_go (b := T1.setTop (mkF m 27 #[rv tt, rv aa, iv 0, iv (xs.length.toInt32), .val .null, .unset] [])) (fun t k => XS.ifYes X1.here hx rfl (pc0 := 5) (pc' := 27) rfl (hb hby d2_5) rfl ((if0 _ _).trans (feq hl0).2) (by decide) (by decide) k) ?_
  obtain ⟨T2, X2, e2, st2⟩ := getS2 X1 hx hZ hown (host := "") (Or.inl (hw _ (List.mem_of_getElem? (i := 59) rfl))) Via.refl e1 (O2.ext Od.2) (g := (mkF m 27 #[rv tt, rv aa, iv 0, iv (xs.length.toInt32), .val .null, .unset] [])) rfl (hb hby d2_27)
  refine own_go (b := T2.setTop (mkF m 30 #[rv tt, rv aa, iv 0, iv (xs.length.toInt32), .val .null, .unset] [(.int G1)])) st2 ?_
  refine own_go (b := T2.setTop (mkF m 33 #[rv tt, rv aa, iv 0, iv (xs.length.toInt32), .val .null, .unset] [])) (fun t k => XS.ifNo X2.here hx rfl (hb hby d2_30) rfl ((if0 _ _).trans (feq P5).1) k) ?_
  refine own_go (b := T2.setTop (mkF m 34 #[rv tt, rv aa, iv 0, iv (xs.length.toInt32), .val .null, .unset] [(.ref aa)])) (fun t k => XS.aloadN X2.here hx rfl (hb hby d2_33) rfl rfl k) ?_
  refine own_go (b := T2.setTop (mkF m 35 #[rv tt, rv aa, iv 0, iv (xs.length.toInt32), .val .null, .unset] [(.int 0), (.ref aa)])) (fun t k => XS.iloadN X2.here hx rfl (hb hby d2_34) rfl  k) ?_
  refine own_go (b := T2.setTop (mkF m 36 #[rv tt, rv aa, iv 0, iv (xs.length.toInt32), .val .null, .unset] [(.int (xs.length.toInt32)), (.int 0), (.ref aa)])) (fun t k => XS.iloadN X2.here hx rfl (hb hby d2_35) rfl  k) ?_
  obtain ⟨_, _, ⟨T3, L3, k3, n3⟩, -, X3, ⟨Lc3, hQ3, l3, y3, z3⟩, st3⟩ := Jvm.LawKit.callS X2 hx (y := (⟨"java/lang/StringUTF16", "compress", "([CII)[B"⟩ : MethodName)) hown (mvT hZ (hw _ (List.mem_of_getElem? (i := 61) rfl))) (mvT hZ (hw _ (List.mem_of_getElem? (i := 62) rfl))) (mvT hZ (hw _ (List.mem_of_getElem? (i := 63) rfl))) (mvT hZ (hw _ (List.mem_of_getElem? (i := 64) rfl))) (by decide) (backOf (W := 0) (rm11 l Z a0 hw [] aa (0 : Int32) (xs.length.toInt32) kA xs jj h0 n0 Z0 rfl rfl hx4 hx1 Od Va Sad Shi Slo hj hlt hgt hch) hZ (hw _ (List.mem_of_getElem? (i := 64) rfl)) (hw _ (List.mem_of_getElem? (i := 63) rfl)) (by decide) (by decide)) (g := (mkF m 36 #[rv tt, rv aa, iv 0, iv (xs.length.toInt32), .val .null, .unset] [(.int (xs.length.toInt32)), (.int 0), (.ref aa)])) rfl (by rw [hml]; rfl) (argsL := [(.ref aa), (.int 0), (.int (xs.length.toInt32))]) (rest := []) (lenOf pd_10 rfl) rfl (by show 2 * 0 + _ ≤ _; exact Nat.le_of_eq rfl) (hb hby d2_36) (fun _ _ => ⟨rfl, e2, (by decide : 0 + 2 ≤ _), (by decide : 0 + 12 ≤ _)⟩)
  dsimp only [Pt.U, Pt.locs, Pt.cells, Pt.slots] at X3 l3 y3 z3 st3 hQ3
  subst l3 y3 z3
  obtain ⟨ab, kV, rfl, N3q, K3, g_ab, sz_aq, Vn⟩ := hQ3
  have Zs3 : n0 ≤ T3.heap.size := Nat.le_trans Z0 K3.1
  have N3 := Fr.app N0 N3q
  have Kp3 : Keep h0 T3.heap [tt] := (Keep.refl h0 [tt]).trans K3 (fun x hx => nomatch hx)
  have Ol3 := Od.keep K3 all0
  have nab : ab ≠ tt := Nat.ne_of_gt (Nat.lt_of_lt_of_le Ex.lt sz_aq)
  obtain ⟨lq3, X3, N3⟩ : ∃ lq, Stand p l e ({ frames := 4, cells := 2, slots := 12, locals := 57 } : Room) s m #[(.ref tt), (.ref aa), (.int ((0 : Int32))), (.int ((xs.length.toInt32))), .null] below meth c T3 lq 2 12 ∧ Fr n0 lq := ⟨_, X3, N3⟩
  refine own_go (b := T3.setTop (mkF m 39 #[rv tt, rv aa, iv 0, iv (xs.length.toInt32), .val .null, .unset] [(.ref ab)])) st3 ?_
  refine own_go (b := T3.setTop (mkF m 41 #[rv tt, rv aa, iv 0, iv (xs.length.toInt32), .val .null, rv ab] [])) (fun t k => XS.astore X3.here hx rfl (hb hby d2_39) rfl rfl (l' := #[rv tt, rv aa, iv 0, iv (xs.length.toInt32), .val .null, rv ab]) rfl k) ?_
  refine own_go (b := T3.setTop (mkF m 42 #[rv tt, rv aa, iv 0, iv (xs.length.toInt32), .val .null, rv ab] [(.ref tt)])) (fun t k => XS.aloadN X3.here hx rfl (hb hby d2_41) rfl rfl k) ?_
  refine own_go (b := T3.setTop (mkF m 44 #[rv tt, rv aa, iv 0, iv (xs.length.toInt32), .val .null, rv ab] [(.ref ab), (.ref tt)])) (fun t k => XS.aload X3.here hx rfl (hb hby d2_42) rfl rfl k) ?_
  refine own_go (b := T3.setTop (mkF m 45 #[rv tt, rv aa, iv 0, iv (xs.length.toInt32), .val .null, rv ab] [(.int (xs.length.toInt32)), (.ref ab), (.ref tt)])) (fun t k => XS.iloadN X3.here hx rfl (hb hby d2_44) rfl  k) ?_
  obtain ⟨_, _, ⟨T4, L4, k4, n4⟩, -, X4, ⟨Lc4, hQ4, l4, y4, z4⟩, st4⟩ := Jvm.LawKit.callS X3 hx (y := (⟨"java/lang/StringUTF16", "coderFromArrayLen", "([BI)B"⟩ : MethodName)) hown (mvT hZ (hw _ (List.mem_of_getElem? (i := 68) rfl))) (mvT hZ (hw _ (List.mem_of_getElem? (i := 69) rfl))) (mvT hZ (hw _ (List.mem_of_getElem? (i := 63) rfl))) (mvT hZ (hw _ (List.mem_of_getElem? (i := 70) rfl))) (by decide) (backOf (W := 1) (rm13 l Z a0 hw [] ab (xs.length.toInt32) kV ((2 * xs.length).toInt32) (StrChars.Road.wideBytes xs) T3.heap n0 Zs3 Vn (own_coder hx1 hx4)) hZ (hw _ (List.mem_of_getElem? (i := 70) rfl)) (hw _ (List.mem_of_getElem? (i := 63) rfl)) (by decide) (by decide)) (g := (mkF m 45 #[rv tt, rv aa, iv 0, iv (xs.length.toInt32), .val .null, rv ab] [(.int (xs.length.toInt32)), (.ref ab), (.ref tt)])) rfl (by rw [hml]; rfl) (argsL := [(.ref ab), (.int (xs.length.toInt32))]) (rest := [(.ref tt)]) (lenOf pd_12 rfl) rfl (by show 2 * 0 + _ ≤ _; exact Nat.le_of_eq rfl) (hb hby d2_45) (fun _ _ => ⟨rfl, rfl, (by decide : 2 + 0 ≤ _), (by decide : 12 + 0 ≤ _)⟩)
  dsimp only [Pt.U, Pt.locs, Pt.cells, Pt.slots] at X4 l4 y4 z4 st4 hQ4
  subst l4 y4 z4
  obtain ⟨rfl, N4q, e4⟩ := hQ4
  have N4 := Fr.app N3 N4q
  obtain ⟨lq4, X4, N4⟩ : ∃ lq, Stand p l e ({ frames := 4, cells := 2, slots := 12, locals := 57 } : Room) s m #[(.ref tt), (.ref aa), (.int ((0 : Int32))), (.int ((xs.length.toInt32))), .null] below meth c T4 lq 2 12 ∧ Fr n0 lq := ⟨_, X4, N4⟩
  refine own_go (b := T4.setTop (mkF m 48 #[rv tt, rv aa, iv 0, iv (xs.length.toInt32), .val .null, rv ab] [(.int 1), (.ref tt)])) st4 ?_
  obtain ⟨T5, h5, X5, e5, W5, st5⟩ := putFN X4 hx hZ hown (hw _ (List.mem_of_getElem? (i := 23) rfl)) Via.refl e4 (F2.keep K3 nin0) (Ex.keep K3) (Or.inr ⟨(hw _ (List.mem_of_getElem? (i := 19) rfl)), rfl, hnm⟩) (hw _ (List.mem_of_getElem? (i := 4) rfl)) (ty := .byte) (v' := (.int (nar .byte (1 : Int32)))) (by decide) rfl (fits_nar_byte _) (g := (mkF m 48 #[rv tt, rv aa, iv 0, iv (xs.length.toInt32), .val .null, rv ab] [(.int 1), (.ref tt)])) rfl rfl (hb hby d2_48)
  have Fw5 : Fld Z h5 tt "java/lang/String" "coder" "B" (.int (nar .byte (1 : Int32))) := Fld.same W5 (F2.keep K3 nin0)
  have Zs5 : n0 ≤ h5.size := Nat.le_trans Zs3 (Keep.of_wr W5).1
  have N5 := Fr.snoc X5 N4 gt
  have Kp5 : Keep h0 h5 [tt] := Kp3.wr W5 (Or.inl (List.mem_of_getElem? (i := 0) rfl))
  have Ol5 := Ol3.wr W5 gt
  refine own_go (b := T5.setTop (mkF m 51 #[rv tt, rv aa, iv 0, iv (xs.length.toInt32), .val .null, rv ab] [])) st5 ?_
  refine own_go (b := T5.setTop (mkF m 52 #[rv tt, rv aa, iv 0, iv (xs.length.toInt32), .val .null, rv ab] [(.ref tt)])) (fun t k => XS.aloadN X5.here hx rfl (hb hby d2_51) rfl rfl k) ?_
  refine own_go (b := T5.setTop (mkF m 54 #[rv tt, rv aa, iv 0, iv (xs.length.toInt32), .val .null, rv ab] [(.ref ab), (.ref tt)])) (fun t k => XS.aload X5.here hx rfl (hb hby d2_52) rfl rfl k) ?_
  obtain ⟨T6, h6, X6, e6, W6, st6⟩ := putF X5 hx hZ hown (host := "") (Or.inl (hw _ (List.mem_of_getElem? (i := 22) rfl))) Via.refl e5 ((F1.keep K3 nin0).other W5 (Or.inr (slot_ne (Or.inr (hw _ (List.mem_of_getElem? (i := 18) rfl))) (Or.inr (hw _ (List.mem_of_getElem? (i := 19) rfl))) (by decide) (t := (.array .byte)) (t' := .byte) (by decide) (by decide)))) ((Ex.keep K3).wr W5) (Or.inr ⟨(hw _ (List.mem_of_getElem? (i := 18) rfl)), rfl, hnm⟩) (hw _ (List.mem_of_getElem? (i := 4) rfl)) (ty := (.array .byte)) (by decide) rfl rfl (g := (mkF m 54 #[rv tt, rv aa, iv 0, iv (xs.length.toInt32), .val .null, rv ab] [(.ref ab), (.ref tt)])) rfl rfl (hb hby d2_54)
  have Fw6 : Fld Z h6 tt "java/lang/String" "value" "[B" (.ref ab) := Fld.same W6 ((F1.keep K3 nin0).other W5 (Or.inr (slot_ne (Or.inr (hw _ (List.mem_of_getElem? (i := 18) rfl))) (Or.inr (hw _ (List.mem_of_getElem? (i := 19) rfl))) (by decide) (t := (.array .byte)) (t' := .byte) (by decide) (by decide))))
  have Zs6 : n0 ≤ h6.size := Nat.le_trans Zs5 (Keep.of_wr W6).1
  have N6 := Fr.snoc X6 N5 gt
  have Kp6 : Keep h0 h6 [tt] := Kp5.wr W6 (Or.inl (List.mem_of_getElem? (i := 0) rfl))
  have Ol6 := Ol5.wr W6 gt
  refine own_go (b := T6.setTop (mkF m 57 #[rv tt, rv aa, iv 0, iv (xs.length.toInt32), .val .null, rv ab] [])) st6 ?_
  exact own_retV X6 hx hlk hrt (hb hby d2_57) (Nat.le_of_ble_eq_true rfl) (Nat.le_of_ble_eq_true rfl) (⟨rfl, N6, by rw [e6]; exact Kp6, by rw [e6]; exact ⟨ab, kV, 1, _, _, (((Ex.keep K3).wr W5).wr W6), Fw6, (Fw5.other W6 (Or.inr (slot_ne (Or.inr (hw _ (List.mem_of_getElem? (i := 19) rfl))) (Or.inr (hw _ (List.mem_of_getElem? (i := 18) rfl))) (by decide) (t := .byte) (t' := (.array .byte)) (by decide) (by decide)))), ((Vn.other W5 nab).other W6 nab), Or.inr ⟨rfl, rfl, rfl, _, own_mem hj, hgt⟩, hch, Nat.le_trans hx4 (by decide), fun _ => hx4⟩⟩)
theorem d1_0 : decode jdk_42_method_3_code 0 = .ok (.aload_n 0, 1) := by decide +kernel
theorem d1_1 : decode jdk_42_method_3_code 1 = .ok (.aload_n 1, 1) := by decide +kernel
theorem d1_2 : decode jdk_42_method_3_code 2 = .ok (.iconst 0, 1) := by decide +kernel
theorem d1_3 : decode jdk_42_method_3_code 3 = .ok (.aload_n 1, 1) := by decide +kernel
theorem d1_4 : decode jdk_42_method_3_code 4 = .ok (.arraylength, 1) := by decide +kernel
theorem d1_5 : decode jdk_42_method_3_code 5 = .ok (.aconst_null, 1) := by decide +kernel
theorem d1_6 : decode jdk_42_method_3_code 6 = .ok (.invokespecial 27, 3) := by decide +kernel
theorem d1_9 : decode jdk_42_method_3_code 9 = .ok (.return_, 1) := by decide +kernel
theorem pd_13 : parseMethodDescriptor "([CIILjava/lang/Void;)V" = some ⟨[(.array .char), .int, .int, (.object "java/lang/Void")], none⟩ := by decide +kernel
theorem ef_1w (m : MethodId) (tt : Addr) (aa : Addr) : entryFrame m #[(.ref tt), (.ref aa)] 2 = mkF m 0 #[rv tt, rv aa] [] := by first | (simp [entryFrame, mkF, argsToLocals, Value.category]; done) | rfl
def Q1w (Z : State) (tt : Addr) (aa : Addr) (kA : ClassId) (xs : List Int32) (jj : Nat) (G1 : Int32) (h0 : Heap) (n0 : Nat) (v : Option Value) (h : Heap) (L : List Loc) : Prop := v = none ∧ Fr n0 L ∧ Keep h0 h [tt] ∧ own_Sx Z h tt xs
set_option maxRecDepth 65536 in
set_option maxHeartbeats 40000000 in
theorem rm1w (l : Launch) (Z : State) (a0 : Array Value) (hw : ∀ d ∈ tables_1, d.before a0 Z = true) (ws : List Jvm.Cond) (tt : Addr) (aa : Addr) (kA : ClassId) (xs : List Int32) (jj : Nat) (G1 : Int32) (h0 : Heap) (n0 : Nat) (Z0 : n0 ≤ h0.size) (hx4 : xs.length ≤ 4) (hx1 : 0 < xs.length) (Od : Old Z n0 h0) (Va : Arv Z h0 aa kA .char (xs.length.toInt32) (xs.map Value.int) (.int (0 : Int32))) (Sad : Sta Z Z.heap "java/lang/StringUTF16" "$assertionsDisabled" "Z" (.int 1)) (Shi : Sta Z Z.heap "java/lang/StringUTF16" "HI_BYTE_SHIFT" "I" (.int 0)) (Slo : Sta Z Z.heap "java/lang/StringUTF16" "LO_BYTE_SHIFT" "I" (.int 8)) (hj : jj < xs.length) (hlt : ∀ i, i < jj → ¬ (255 : Int32) < xs.getD i 0) (hgt : (255 : Int32) < xs.getD jj 0) (hch : ∀ c ∈ xs, ¬ c < 0 ∧ ¬ (65535 : Int32) < c) (O2 : Sta Z Z.heap "java/lang/String" "COMPACT_STRINGS" "Z" (.int G1)) (P5 : ¬ (G1 = (0 : Int32))) (Ex : Exa Z h0 tt "java/lang/String") (F1 : Fld Z h0 tt "java/lang/String" "value" "[B" .null) (F2 : Fld Z h0 tt "java/lang/String" "coder" "B" (.int 0)) (gt : n0 ≤ tt) :
    MetFree l (⟨"java/lang/String", "<init>", "([C)V"⟩ : MethodName) (head1 (Jvm.Cond.code (⟨"java/lang/String", "<init>", "([C)V"⟩ : MethodName) jdk_42_method_3_code 2 none :: ws) ({ frames := 5, cells := 2, slots := 12, locals := 74 } : Room)) (fun a U => a = #[(.ref tt), (.ref aa)] ∧ Z.Warmed39 U.vm ∧ U.heap = h0) (fun _ _ _ _ _ => True) (fun _ U o U' => ∃ v L, o = .returned v ∧ Q1w Z tt aa kA xs jj G1 h0 n0 v U'.heap L ∧ FrameEnd U o U' L ({ frames := 5, cells := 2, slots := 12, locals := 74 } : Room).cells ({ frames := 5, cells := 2, slots := 12, locals := 74 } : Room).slots) := by
  refine MetFree.of_bodySF (plainFor_of_name pn_2) hisR ?_
  intro p e s m args below meth c s₁ Bd hml0 hP hK
  obtain ⟨rfl, hZ, hh⟩ := hP
  have hx := Bd.exec
  have hby := Bd.bytes
  have hml : c.maxLocals = 2 := hml0
  have hown : s.vm.findClass "java/lang/String" = some m.cls := findClass_of_methodNamed Bd.named
  have hnm := (name_of_methodNamed Bd.named Bd.method).1
  have hlk : meth.locks = false := Bd.notSynchronized
  have hrt := Bd.returns
  have X0 : Stand p l e ({ frames := 5, cells := 2, slots := 12, locals := 74 } : Room) s m #[(.ref tt), (.ref aa)] below meth c s₁ [] 0 0 := Stand.of_body Bd
  have e0 : s₁.heap = h0 := by rw [← hh, Bd.state]; rfl
  have N0 := Fr.nil n0
  show own_Endz p.tables e below (own_EndQ s ({ frames := 5, cells := 2, slots := 12, locals := 74 } : Room).cells ({ frames := 5, cells := 2, slots := 12, locals := 74 } : Room).slots (Q1w Z tt aa kA xs jj G1 h0 n0)) (s₁.setTop (entryFrame m #[(.ref tt), (.ref aa)] 2))
  refine own_cast (ef_1w m tt aa) ?_
  refine own_go (b := s₁.setTop (mkF m 1 #[rv tt, rv aa] [(.ref tt)])) (fun t k => XS.aloadN X0.here hx rfl (hb hby d1_0) rfl rfl k) ?_
  refine own_go (b := s₁.setTop (mkF m 2 #[rv tt, rv aa] [(.ref aa), (.ref tt)])) (fun t k => XS.aloadN X0.here hx rfl (hb hby d1_1) rfl rfl k) ?_
  refine own_go (b := s₁.setTop (mkF m 3 #[rv tt, rv aa] [(.int 0), (.ref aa), (.ref tt)])) (fun t k => XS.iconst X0.here hx rfl (hb hby d1_2) k) ?_
  refine own_go (b := s₁.setTop (mkF m 4 #[rv tt, rv aa] [(.ref aa), (.int 0), (.ref aa), (.ref tt)])) (fun t k => XS.aloadN X0.here hx rfl (hb hby d1_3) rfl rfl k) ?_
  obtain ⟨cl1, Ar1, qc1, Sz1, Ng1, Hs1, Ft1⟩ := id Va
  refine own_go (b := s₁.setTop (mkF m 5 #[rv tt, rv aa] [(.int (cl1.slots.size.toInt32)), (.int 0), (.ref aa), (.ref tt)])) (fun t k => X0.arraylength hx (own_at e0 Ar1.1) (State.isArrayOf_alike hZ.alike Ar1.2.1) (g := (mkF m 4 #[rv tt, rv aa] [(.ref aa), (.int 0), (.ref aa), (.ref tt)])) rfl rfl (hb hby d1_4) t k) ?_
  rw [(len_of Sz1 Ng1)]
  refine own_go (b := s₁.setTop (mkF m 6 #[rv tt, rv aa] [.null, (.int (xs.length.toInt32)), (.int 0), (.ref aa), (.ref tt)])) (fun t k => XS.aconstNull X0.here hx rfl (hb hby d1_5) k) ?_
  obtain ⟨_, _, ⟨T2, L2, k2, n2⟩, -, X2, ⟨Lc2, hQ2, l2, y2, z2⟩, st2⟩ := X0.specialBack hx (y := (⟨"java/lang/String", "<init>", "([CIILjava/lang/Void;)V"⟩ : MethodName)) rfl hown (mvT hZ (hw _ (List.mem_of_getElem? (i := 9) rfl))) (mvT hZ (hw _ (List.mem_of_getElem? (i := 10) rfl))) (mvT hZ (hw _ (List.mem_of_getElem? (i := 12) rfl))) (by decide) (backOf (W := 0) (rm2w l Z a0 hw [] tt aa (0 : Int32) (xs.length.toInt32) kA xs jj G1 h0 n0 Z0 rfl rfl hx4 hx1 Od Va Sad Shi Slo hj hlt hgt hch O2 P5 Ex F1 F2 gt) hZ (hw _ (List.mem_of_getElem? (i := 12) rfl)) (hw _ (List.mem_of_getElem? (i := 5) rfl)) (by decide) (by decide)) (g := (mkF m 6 #[rv tt, rv aa] [.null, (.int (xs.length.toInt32)), (.int 0), (.ref aa), (.ref tt)])) rfl (by rw [hml]; rfl) (Steps.refl _) (a := tt) (argsL := [(.ref aa), (.int 0), (.int (xs.length.toInt32)), .null]) (rest := []) (lenOf pd_13 rfl) rfl (by show 2 * 0 + _ ≤ _; exact Nat.le_of_eq rfl) (hb hby d1_6) (fun _ _ => ⟨rfl, e0, (by decide : 0 + 2 ≤ _), (by decide : 0 + 12 ≤ _)⟩)
  dsimp only [Pt.U, Pt.locs, Pt.cells, Pt.slots] at X2 l2 y2 z2 st2 hQ2
  subst l2 y2 z2
  obtain ⟨rfl, N2q, K2, Sz2⟩ := hQ2
  have Zs2 : n0 ≤ T2.heap.size := Nat.le_trans Z0 K2.1
  have N2 := Fr.app N0 N2q
  have Kp2 : Keep h0 T2.heap [tt] := (Keep.refl h0 [tt]).trans K2 (by intro x hx; simp only [List.mem_cons, List.not_mem_nil, or_false] at hx; rcases hx with rfl <;> first | exact Or.inr (by assumption) | exact Or.inl (by simp))
  have Ol2 := Od.keep K2 (allS gt all0)
  obtain ⟨lq2, X2, N2⟩ : ∃ lq, Stand p l e ({ frames := 5, cells := 2, slots := 12, locals := 74 } : Room) s m #[(.ref tt), (.ref aa)] below meth c T2 lq 2 12 ∧ Fr n0 lq := ⟨_, X2, N2⟩
  refine own_tr (b := T2.setTop (mkF m 9 #[rv tt, rv aa] [])) st2 ?_
  exact own_retV X2 hx hlk hrt (hb hby d1_9) (Nat.le_of_ble_eq_true rfl) (Nat.le_of_ble_eq_true rfl) (⟨rfl, N2, Kp2, Sz2⟩)
theorem ef_2e (m : MethodId) (tt : Addr) (aa : Addr) (of : Int32) (ln : Int32) : entryFrame m #[(.ref tt), (.ref aa), (.int of), (.int ln), .null] 6 = mkF m 0 #[rv tt, rv aa, iv of, iv ln, .val .null, .unset] [] := by first | (simp [entryFrame, mkF, argsToLocals, Value.category]; done) | rfl
def Q2e (Z : State) (tt : Addr) (aa : Addr) (of : Int32) (ln : Int32) (h0 : Heap) (n0 : Nat) (v : Option Value) (h : Heap) (L : List Loc) : Prop := v = none ∧ Fr n0 L ∧ Keep h0 h [tt] ∧ own_St Z h tt []
set_option maxRecDepth 65536 in
set_option maxHeartbeats 40000000 in
theorem rm2e (l : Launch) (Z : State) (a0 : Array Value) (hw : ∀ d ∈ tables_1, d.before a0 Z = true) (ws : List Jvm.Cond) (tt : Addr) (aa : Addr) (of : Int32) (ln : Int32) (h0 : Heap) (n0 : Nat) (Z0 : n0 ≤ h0.size) (Od : Old Z n0 h0) (Hc : ∀ q ∈ consts_1, Jvm.Lit.constHeld Z q.1 q.2) (hcw : Jvm.Lit.compactW.before a0 Z = true) (Ex : Exa Z h0 tt "java/lang/String") (F1 : Fld Z h0 tt "java/lang/String" "value" "[B" .null) (F2 : Fld Z h0 tt "java/lang/String" "coder" "B" (.int 0)) (gt : n0 ≤ tt) (hl0 : ln = (0 : Int32)) :
    MetFree l (⟨"java/lang/String", "<init>", "([CIILjava/lang/Void;)V"⟩ : MethodName) (head1 (Jvm.Cond.code (⟨"java/lang/String", "<init>", "([CIILjava/lang/Void;)V"⟩ : MethodName) jdk_42_method_149_code 6 none :: ws) ({ frames := 1, cells := 2, slots := 4, locals := 12 } : Room)) (fun a U => a = #[(.ref tt), (.ref aa), (.int of), (.int ln), .null] ∧ Z.Warmed39 U.vm ∧ U.heap = h0 ∧ IB Z U.vm ([] : List String)) (fun _ _ _ _ _ => True) (fun _ U o U' => ∃ v L, o = .returned v ∧ Q2e Z tt aa of ln h0 n0 v U'.heap L ∧ IB Z U'.vm [""] ∧ ReturnedEndW U o U' L ({ frames := 1, cells := 2, slots := 4, locals := 12 } : Room).cells ({ frames := 1, cells := 2, slots := 4, locals := 12 } : Room).slots) := by
  refine MetFree.of_bodySF (plainFor_of_name pn_2) hisR ?_
  intro p e s m args below meth c s₁ Bd hml0 hP hK
  obtain ⟨rfl, hZ, hh, I0⟩ := hP
  have hx := Bd.exec
  have hby := Bd.bytes
  have hml : c.maxLocals = 6 := hml0
  have hown : s.vm.findClass "java/lang/String" = some m.cls := findClass_of_methodNamed Bd.named
  have hnm := (name_of_methodNamed Bd.named Bd.method).1
  have hlk : meth.locks = false := Bd.notSynchronized
  have hrt := Bd.returns
  have X0 : Stand p l e ({ frames := 1, cells := 2, slots := 4, locals := 12 } : Room) s m #[(.ref tt), (.ref aa), (.int of), (.int ln), .null] below meth c s₁ [] 0 0 := Stand.of_body Bd
  have e0 : s₁.heap = h0 := by rw [← hh, Bd.state]; rfl
  have N0 := Fr.nil n0
  replace X0 : Stand p l e ({ frames := 1, cells := 2, slots := 4, locals := 12 } : Room) (s.setVm s.vm) m #[(.ref tt), (.ref aa), (.int of), (.int ln), .null] below meth c s₁ [] 0 0 := X0
  replace hZ : Z.Warmed39 (s.setVm s.vm).vm := hZ
  replace hown : (s.setVm s.vm).vm.findClass "java/lang/String" = some m.cls := hown
  have hS0 := own_since s
  have Le0 : own_Le s.heap.size h0 := Nat.le_of_eq (congrArg Array.size hh)
  show own_Endz p.tables e below (own_EndW Z s [""] ({ frames := 1, cells := 2, slots := 4, locals := 12 } : Room).cells ({ frames := 1, cells := 2, slots := 4, locals := 12 } : Room).slots (Q2e Z tt aa of ln h0 n0)) (s₁.setTop (entryFrame m #[(.ref tt), (.ref aa), (.int of), (.int ln), .null] 6))
  refine own_cast (ef_2e m tt aa of ln) ?_
  have hkeep : ∀ (b : Addr) (cl : Cell), Z.heap[b]? = some cl → s.heap[b]? = some cl := fun b cl q => by rw [hh]; exact Od.2.2 b cl q
  refine own_go (b := s₁.setTop (mkF m 1 #[rv tt, rv aa, iv of, iv ln, .val .null, .unset] [(.ref tt)])) (fun t k => XS.aloadN X0.here hx rfl (hb hby d2_0) rfl rfl k) ?_
  obtain ⟨T1, X1, e1, st1⟩ := initO X0 hx hZ hown (hw _ (List.mem_of_getElem? (i := 13) rfl)) (hw _ (List.mem_of_getElem? (i := 14) rfl)) (hw _ (List.mem_of_getElem? (i := 15) rfl)) e0 (g := (mkF m 1 #[rv tt, rv aa, iv of, iv ln, .val .null, .unset] [(.ref tt)])) rfl (by rw [hml]; rfl) rfl (hb hby d2_1) (by decide) (W := 0) (by show 2 * 0 + _ ≤ _; exact Nat.le_of_eq rfl) (by decide)
  refine own_go (b := T1.setTop (mkF m 4 #[rv tt, rv aa, iv of, iv ln, .val .null, .unset] [])) st1 ?_
  refine own_go (b := T1.setTop (mkF m 5 #[rv tt, rv aa, iv of, iv ln, .val .null, .unset] [(.int ln)])) (fun t k => XS.iloadN X1.here hx rfl (hb hby d2_4) rfl  k) ?_
  refine own_go (b := T1.setTop (mkF m 8 #[rv tt, rv aa, iv of, iv ln, .val .null, .unset] [])) (fun t k => XS.ifNo X1.here hx rfl (hb hby d2_5) rfl ((if0 _ _).trans (teq hl0).2) k) ?_
  refine own_go (b := T1.setTop (mkF m 9 #[rv tt, rv aa, iv of, iv ln, .val .null, .unset] [(.ref tt)])) (fun t k => XS.aloadN X1.here hx rfl (hb hby d2_8) rfl rfl k) ?_
  obtain ⟨ax2, T2, h2, k2, X2, e2, E2, hS2, Le2, hZ, hown, Sv2, I2, Lt2, st2⟩ := own_ldc X1 hx hZ hown (hw _ (List.mem_of_getElem? (i := 16) rfl)) (fun a ha => hw a (own_wS a ha)) e1 hS0 Le0 (Fr.nil _) hkeep I0 (by simp) (Hc _ (List.mem_of_getElem? (i := 2) rfl)) hcw (cs := []) ⟨by decide +kernel, by decide +kernel⟩ (by decide +kernel) (by decide) (g := (mkF m 9 #[rv tt, rv aa, iv of, iv ln, .val .null, .unset] [(.ref tt)])) rfl (hb hby d2_9) (n := 0) (by decide +kernel) (by decide) (by decide) (by decide)
  have Zs2 : n0 ≤ h2.size := Nat.le_trans Z0 E2.1
  have Kp2 : Keep h0 h2 [tt] := (Keep.refl h0 [tt]).ext E2
  have Ol2 := Od.ext E2
  refine own_go (b := T2.setTop (mkF m 11 #[rv tt, rv aa, iv of, iv ln, .val .null, .unset] [(.ref ax2), (.ref tt)])) st2 ?_
  obtain ⟨tb, kb, Es, Vs, Cs, Ks, -, -⟩ := id Sv2
  have nt : tt ≠ tb := Exa.neArv (Ex.ext E2) Ks (hw _ (List.mem_of_getElem? (i := 4) rfl))
  obtain ⟨T3, X3, e3, st3⟩ := getF X2 hx hZ hown (host := "") (Or.inl (hw _ (List.mem_of_getElem? (i := 22) rfl))) Via.refl e2 Vs (g := (mkF m 11 #[rv tt, rv aa, iv of, iv ln, .val .null, .unset] [(.ref ax2), (.ref tt)])) rfl rfl (hb hby d2_11)
  refine own_go (b := T3.setTop (mkF m 14 #[rv tt, rv aa, iv of, iv ln, .val .null, .unset] [(.ref tb), (.ref tt)])) st3 ?_
  obtain ⟨T4, h4, X4, e4, W4, st4⟩ := putF X3 hx hZ hown (host := "") (Or.inl (hw _ (List.mem_of_getElem? (i := 22) rfl))) Via.refl e3 (F1.ext E2) (Ex.ext E2) (Or.inr ⟨(hw _ (List.mem_of_getElem? (i := 18) rfl)), rfl, hnm⟩) (hw _ (List.mem_of_getElem? (i := 4) rfl)) (ty := (.array .byte)) (by decide) rfl rfl (g := (mkF m 14 #[rv tt, rv aa, iv of, iv ln, .val .null, .unset] [(.ref tb), (.ref tt)])) rfl rfl (hb hby d2_14)
  have Fw4 : Fld Z h4 tt "java/lang/String" "value" "[B" (.ref tb) := Fld.same W4 (F1.ext E2)
  have Zs4 : n0 ≤ h4.size := Nat.le_trans Zs2 (Keep.of_wr W4).1
  have N4 := Fr.snoc X4 N0 gt
  have Kp4 : Keep h0 h4 [tt] := Kp2.wr W4 (Or.inl (List.mem_of_getElem? (i := 0) rfl))
  have Ol4 := Ol2.wr W4 gt
  refine own_go (b := T4.setTop (mkF m 17 #[rv tt, rv aa, iv of, iv ln, .val .null, .unset] [])) st4 ?_
  have Cs2 := Cs.other W4 (Or.inr (slot_ne (Or.inr (hw _ (List.mem_of_getElem? (i := 19) rfl))) (Or.inr (hw _ (List.mem_of_getElem? (i := 18) rfl))) (by decide) (t := .byte) (t' := (.array .byte)) (by decide) (by decide)))
  have Ks2 := Ks.other W4 (Ne.symm nt)
  refine own_go (b := T4.setTop (mkF m 18 #[rv tt, rv aa, iv of, iv ln, .val .null, .unset] [(.ref tt)])) (fun t k => XS.aloadN X4.here hx rfl (hb hby d2_17) rfl rfl k) ?_
  refine own_go (b := T4.setTop (mkF m 20 #[rv tt, rv aa, iv of, iv ln, .val .null, .unset] [(.ref ax2), (.ref tt)])) (fun t k => ldcAgain X4 hx hZ hown (hw _ (List.mem_of_getElem? (i := 16) rfl)) Lt2 (g := (mkF m 18 #[rv tt, rv aa, iv of, iv ln, .val .null, .unset] [(.ref tt)])) rfl (hb hby d2_18) t k) ?_
  obtain ⟨T5, X5, e5, st5⟩ := getF X4 hx hZ hown (host := "") (Or.inl (hw _ (List.mem_of_getElem? (i := 23) rfl))) Via.refl e4 Cs2 (g := (mkF m 20 #[rv tt, rv aa, iv of, iv ln, .val .null, .unset] [(.ref ax2), (.ref tt)])) rfl rfl (hb hby d2_20)
  refine own_go (b := T5.setTop (mkF m 23 #[rv tt, rv aa, iv of, iv ln, .val .null, .unset] [(.int 0), (.ref tt)])) st5 ?_
  obtain ⟨T6, h6, X6, e6, W6, st6⟩ := putFN X5 hx hZ hown (hw _ (List.mem_of_getElem? (i := 23) rfl)) Via.refl e5 ((F2.ext E2).other W4 (Or.inr (slot_ne (Or.inr (hw _ (List.mem_of_getElem? (i := 19) rfl))) (Or.inr (hw _ (List.mem_of_getElem? (i := 18) rfl))) (by decide) (t := .byte) (t' := (.array .byte)) (by decide) (by decide)))) ((Ex.ext E2).wr W4) (Or.inr ⟨(hw _ (List.mem_of_getElem? (i := 19) rfl)), rfl, hnm⟩) (hw _ (List.mem_of_getElem? (i := 4) rfl)) (ty := .byte) (v' := (.int (nar .byte (0 : Int32)))) (by decide) rfl (fits_nar_byte _) (g := (mkF m 23 #[rv tt, rv aa, iv of, iv ln, .val .null, .unset] [(.int 0), (.ref tt)])) rfl rfl (hb hby d2_23)
  have Fw6 : Fld Z h6 tt "java/lang/String" "coder" "B" (.int (nar .byte (0 : Int32))) := Fld.same W6 ((F2.ext E2).other W4 (Or.inr (slot_ne (Or.inr (hw _ (List.mem_of_getElem? (i := 19) rfl))) (Or.inr (hw _ (List.mem_of_getElem? (i := 18) rfl))) (by decide) (t := .byte) (t' := (.array .byte)) (by decide) (by decide))))
  have Zs6 : n0 ≤ h6.size := Nat.le_trans Zs4 (Keep.of_wr W6).1
  have N6 := Fr.snoc X6 N4 gt
  have Kp6 : Keep h0 h6 [tt] := Kp4.wr W6 (Or.inl (List.mem_of_getElem? (i := 0) rfl))
  have Ol6 := Ol4.wr W6 gt
  refine own_go (b := T6.setTop (mkF m 26 #[rv tt, rv aa, iv of, iv ln, .val .null, .unset] [])) st6 ?_
  have Ks3 := Ks2.other W6 (Ne.symm nt)
  exact own_retVW X6 hx hlk hS2 (own_LeT ((Le2.wr W4).wr W6) e6) I2 (by simp) hrt (hb hby d2_26) (Nat.le_of_ble_eq_true rfl) (Nat.le_of_ble_eq_true rfl) (⟨rfl, N6, by rw [e6]; exact Kp6, by rw [e6]; exact ⟨tb, kb, (((Ex.ext E2).wr W4).wr W6), (Fw4.other W6 (Or.inr (slot_ne (Or.inr (hw _ (List.mem_of_getElem? (i := 18) rfl))) (Or.inr (hw _ (List.mem_of_getElem? (i := 19) rfl))) (by decide) (t := (.array .byte)) (t' := .byte) (by decide) (by decide)))), Fw6, Ks3, by simp, by simp⟩⟩)
theorem ef_1e (m : MethodId) (tt : Addr) (aa : Addr) : entryFrame m #[(.ref tt), (.ref aa)] 2 = mkF m 0 #[rv tt, rv aa] [] := by first | (simp [entryFrame, mkF, argsToLocals, Value.category]; done) | rfl
def Q1e (Z : State) (tt : Addr) (aa : Addr) (kA : ClassId) (h0 : Heap) (n0 : Nat) (v : Option Value) (h : Heap) (L : List Loc) : Prop := v = none ∧ Fr n0 L ∧ Keep h0 h [tt] ∧ own_St Z h tt []
set_option maxRecDepth 65536 in
set_option maxHeartbeats 40000000 in
theorem rm1e (l : Launch) (Z : State) (a0 : Array Value) (hw : ∀ d ∈ tables_1, d.before a0 Z = true) (ws : List Jvm.Cond) (tt : Addr) (aa : Addr) (kA : ClassId) (h0 : Heap) (n0 : Nat) (Z0 : n0 ≤ h0.size) (Od : Old Z n0 h0) (Hc : ∀ q ∈ consts_1, Jvm.Lit.constHeld Z q.1 q.2) (hcw : Jvm.Lit.compactW.before a0 Z = true) (Ex : Exa Z h0 tt "java/lang/String") (F1 : Fld Z h0 tt "java/lang/String" "value" "[B" .null) (F2 : Fld Z h0 tt "java/lang/String" "coder" "B" (.int 0)) (gt : n0 ≤ tt) (Va : Arv Z h0 aa kA .char (0 : Int32) [] (.int (0 : Int32))) :
    MetFree l (⟨"java/lang/String", "<init>", "([C)V"⟩ : MethodName) (head1 (Jvm.Cond.code (⟨"java/lang/String", "<init>", "([C)V"⟩ : MethodName) jdk_42_method_3_code 2 none :: ws) ({ frames := 2, cells := 2, slots := 4, locals := 32 } : Room)) (fun a U => a = #[(.ref tt), (.ref aa)] ∧ Z.Warmed39 U.vm ∧ U.heap = h0 ∧ IB Z U.vm ([] : List String)) (fun _ _ _ _ _ => True) (fun _ U o U' => ∃ v L, o = .returned v ∧ Q1e Z tt aa kA h0 n0 v U'.heap L ∧ IB Z U'.vm [""] ∧ ReturnedEndW U o U' L ({ frames := 2, cells := 2, slots := 4, locals := 32 } : Room).cells ({ frames := 2, cells := 2, slots := 4, locals := 32 } : Room).slots) := by
  refine MetFree.of_bodySF (plainFor_of_name pn_2) hisR ?_
  intro p e s m args below meth c s₁ Bd hml0 hP hK
  obtain ⟨rfl, hZ, hh, I0⟩ := hP
  have hx := Bd.exec
  have hby := Bd.bytes
  have hml : c.maxLocals = 2 := hml0
  have hown : s.vm.findClass "java/lang/String" = some m.cls := findClass_of_methodNamed Bd.named
  have hnm := (name_of_methodNamed Bd.named Bd.method).1
  have hlk : meth.locks = false := Bd.notSynchronized
  have hrt := Bd.returns
  have X0 : Stand p l e ({ frames := 2, cells := 2, slots := 4, locals := 32 } : Room) s m #[(.ref tt), (.ref aa)] below meth c s₁ [] 0 0 := Stand.of_body Bd
  have e0 : s₁.heap = h0 := by rw [← hh, Bd.state]; rfl
  have N0 := Fr.nil n0
  replace X0 : Stand p l e ({ frames := 2, cells := 2, slots := 4, locals := 32 } : Room) (s.setVm s.vm) m #[(.ref tt), (.ref aa)] below meth c s₁ [] 0 0 := X0
  replace hZ : Z.Warmed39 (s.setVm s.vm).vm := hZ
  replace hown : (s.setVm s.vm).vm.findClass "java/lang/String" = some m.cls := hown
  have hS0 := own_since s
  have Le0 : own_Le s.heap.size h0 := Nat.le_of_eq (congrArg Array.size hh)
  show own_Endz p.tables e below (own_EndW Z s [""] ({ frames := 2, cells := 2, slots := 4, locals := 32 } : Room).cells ({ frames := 2, cells := 2, slots := 4, locals := 32 } : Room).slots (Q1e Z tt aa kA h0 n0)) (s₁.setTop (entryFrame m #[(.ref tt), (.ref aa)] 2))
  refine own_cast (ef_1e m tt aa) ?_
  refine own_go (b := s₁.setTop (mkF m 1 #[rv tt, rv aa] [(.ref tt)])) (fun t k => XS.aloadN X0.here hx rfl (hb hby d1_0) rfl rfl k) ?_
  refine own_go (b := s₁.setTop (mkF m 2 #[rv tt, rv aa] [(.ref aa), (.ref tt)])) (fun t k => XS.aloadN X0.here hx rfl (hb hby d1_1) rfl rfl k) ?_
  refine own_go (b := s₁.setTop (mkF m 3 #[rv tt, rv aa] [(.int 0), (.ref aa), (.ref tt)])) (fun t k => XS.iconst X0.here hx rfl (hb hby d1_2) k) ?_
  refine own_go (b := s₁.setTop (mkF m 4 #[rv tt, rv aa] [(.ref aa), (.int 0), (.ref aa), (.ref tt)])) (fun t k => XS.aloadN X0.here hx rfl (hb hby d1_3) rfl rfl k) ?_
  obtain ⟨cl1, Ar1, qc1, Sz1, Ng1, Hs1, Ft1⟩ := id Va
  refine own_go (b := s₁.setTop (mkF m 5 #[rv tt, rv aa] [(.int (cl1.slots.size.toInt32)), (.int 0), (.ref aa), (.ref tt)])) (fun t k => X0.arraylength hx (own_at e0 Ar1.1) (State.isArrayOf_alike hZ.alike Ar1.2.1) (g := (mkF m 4 #[rv tt, rv aa] [(.ref aa), (.int 0), (.ref aa), (.ref tt)])) rfl rfl (hb hby d1_4) t k) ?_
  rw [(len_of Sz1 Ng1)]
  refine own_go (b := s₁.setTop (mkF m 6 #[rv tt, rv aa] [.null, (.int 0), (.int 0), (.ref aa), (.ref tt)])) (fun t k => XS.aconstNull X0.here hx rfl (hb hby d1_5) k) ?_
  obtain ⟨_, _, ⟨T2, L2, k2, n2⟩, -, X2, hSa2, hG2, ⟨Lc2, ⟨hQ2, I2⟩, l2, y2, z2⟩, st2⟩ := X0.specialBackS hx (y := (⟨"java/lang/String", "<init>", "([CIILjava/lang/Void;)V"⟩ : MethodName)) rfl hown (mvT hZ (hw _ (List.mem_of_getElem? (i := 9) rfl))) (mvT hZ (hw _ (List.mem_of_getElem? (i := 10) rfl))) (mvT hZ (hw _ (List.mem_of_getElem? (i := 12) rfl))) (by decide) (own_backS (W := 0) (rm2e l Z a0 hw [] tt aa (0 : Int32) (0 : Int32)  h0 n0 Z0 Od Hc hcw Ex F1 F2 gt rfl) hZ (own_IBm (Te := ([] : List String)) I0 rfl (by simp)) (hw _ (List.mem_of_getElem? (i := 12) rfl)) (hw _ (List.mem_of_getElem? (i := 5) rfl)) (by decide) (by decide)) (g := (mkF m 6 #[rv tt, rv aa] [.null, (.int 0), (.int 0), (.ref aa), (.ref tt)])) rfl (by rw [hml]; rfl) (Steps.refl _) (a := tt) (argsL := [(.ref aa), (.int 0), (.int 0), .null]) (rest := []) (lenOf pd_13 rfl) rfl (by show 2 * 0 + _ ≤ _; exact Nat.le_of_eq rfl) (hb hby d1_6) (fun _ _ => ⟨rfl, e0, (by decide : 0 + 2 ≤ _), (by decide : 0 + 4 ≤ _)⟩)
  dsimp only [Pt.U, Pt.locs, Pt.cells, Pt.slots] at X2 l2 y2 z2 st2 hQ2 hSa2 hG2 I2
  subst l2 y2 z2
  obtain ⟨hS2, hZ, hown⟩ := own_reb hS0 (own_LeT Le0 e0) hSa2 hG2 hZ hown
  have Le2 : own_Le T2.heap.size T2.heap := Nat.le_refl _
  obtain ⟨rfl, N2q, K2, Sz2⟩ := hQ2
  have Zs2 : n0 ≤ T2.heap.size := Nat.le_trans Z0 K2.1
  have N2 := Fr.app N0 N2q
  have Kp2 : Keep h0 T2.heap [tt] := (Keep.refl h0 [tt]).trans K2 (by intro x hx; simp only [List.mem_cons, List.not_mem_nil, or_false] at hx; rcases hx with rfl <;> first | exact Or.inr (by assumption) | exact Or.inl (by simp))
  have Ol2 := Od.keep K2 (allS gt all0)
  obtain ⟨lq2, X2, N2⟩ : ∃ lq, Stand p l e ({ frames := 2, cells := 2, slots := 4, locals := 32 } : Room) (s.setVm T2.vm) m #[(.ref tt), (.ref aa)] below meth c T2 lq 2 4 ∧ Fr n0 lq := ⟨_, X2, N2⟩
  refine own_tr (b := T2.setTop (mkF m 9 #[rv tt, rv aa] [])) st2 ?_
  exact own_retVW X2 hx hlk hS2 (own_LeT Le2 rfl) I2 (by simp) hrt (hb hby d1_9) (Nat.le_of_ble_eq_true rfl) (Nat.le_of_ble_eq_true rfl) (⟨rfl, N2, Kp2, Sz2⟩)
theorem d5_0 : decode prog_14_method_7_code 0 = .ok (.aload_n 0, 1) := by decide +kernel
theorem d5_1 : decode prog_14_method_7_code 1 = .ok (.ifnull 20, 3) := by decide +kernel
theorem d5_4 : decode prog_14_method_7_code 4 = .ok (.aload_n 0, 1) := by decide +kernel
theorem d5_5 : decode prog_14_method_7_code 5 = .ok (.invokevirtual 70, 3) := by decide +kernel
theorem d5_8 : decode prog_14_method_7_code 8 = .ok (.ifCond .ne 13, 3) := by decide +kernel
theorem d5_11 : decode prog_14_method_7_code 11 = .ok (.aload_n 0, 1) := by decide +kernel
theorem d5_12 : decode prog_14_method_7_code 12 = .ok (.invokevirtual 76, 3) := by decide +kernel
theorem d5_15 : decode prog_14_method_7_code 15 = .ok (.sipush 128, 3) := by decide +kernel
theorem d5_18 : decode prog_14_method_7_code 18 = .ok (.if_icmp .le 5, 3) := by decide +kernel
theorem d5_21 : decode prog_14_method_7_code 21 = .ok (.iconst 0, 1) := by decide +kernel
theorem d5_22 : decode prog_14_method_7_code 22 = .ok (.ireturn, 1) := by decide +kernel
theorem d5_23 : decode prog_14_method_7_code 23 = .ok (.iconst 0, 1) := by decide +kernel
theorem d5_24 : decode prog_14_method_7_code 24 = .ok (.istore_n 1, 1) := by decide +kernel
theorem d5_25 : decode prog_14_method_7_code 25 = .ok (.iload_n 1, 1) := by decide +kernel
theorem d5_26 : decode prog_14_method_7_code 26 = .ok (.aload_n 0, 1) := by decide +kernel
theorem d5_27 : decode prog_14_method_7_code 27 = .ok (.invokevirtual 76, 3) := by decide +kernel
theorem d5_30 : decode prog_14_method_7_code 30 = .ok (.if_icmp .ge 33, 3) := by decide +kernel
theorem d5_33 : decode prog_14_method_7_code 33 = .ok (.aload_n 0, 1) := by decide +kernel
theorem d5_34 : decode prog_14_method_7_code 34 = .ok (.iload_n 1, 1) := by decide +kernel
theorem d5_35 : decode prog_14_method_7_code 35 = .ok (.invokevirtual 80, 3) := by decide +kernel
theorem d5_38 : decode prog_14_method_7_code 38 = .ok (.istore_n 2, 1) := by decide +kernel
theorem d5_39 : decode prog_14_method_7_code 39 = .ok (.iload_n 2, 1) := by decide +kernel
theorem d5_40 : decode prog_14_method_7_code 40 = .ok (.getstatic 84, 3) := by decide +kernel
theorem d5_43 : decode prog_14_method_7_code 43 = .ok (.arraylength, 1) := by decide +kernel
theorem d5_44 : decode prog_14_method_7_code 44 = .ok (.if_icmp .ge 11, 3) := by decide +kernel
theorem d5_47 : decode prog_14_method_7_code 47 = .ok (.getstatic 84, 3) := by decide +kernel
theorem d5_50 : decode prog_14_method_7_code 50 = .ok (.iload_n 2, 1) := by decide +kernel
theorem d5_51 : decode prog_14_method_7_code 51 = .ok (.baload, 1) := by decide +kernel
theorem d5_52 : decode prog_14_method_7_code 52 = .ok (.ifCond .ne 5, 3) := by decide +kernel
theorem d5_55 : decode prog_14_method_7_code 55 = .ok (.iconst 0, 1) := by decide +kernel
theorem d5_56 : decode prog_14_method_7_code 56 = .ok (.ireturn, 1) := by decide +kernel
theorem d5_57 : decode prog_14_method_7_code 57 = .ok (.iinc 1 1, 3) := by decide +kernel
theorem d5_60 : decode prog_14_method_7_code 60 = .ok (.goto (-35), 3) := by decide +kernel
theorem d5_63 : decode prog_14_method_7_code 63 = .ok (.iconst 1, 1) := by decide +kernel
theorem d5_64 : decode prog_14_method_7_code 64 = .ok (.ireturn, 1) := by decide +kernel
theorem pn_3 : plainName "com/example/fault/fault/TraceId" = true := by first | (simp [plainName, overriddenIn]; done) | decide +kernel
theorem ef_5z (m : MethodId)  : entryFrame m #[.null] 3 = mkF m 0 #[.val .null, .unset, .unset] [] := by first | (simp [entryFrame, mkF, argsToLocals, Value.category]; done) | rfl
def Q5z (Z : State)  (h0 : Heap) (n0 : Nat) (v : Option Value) (h : Heap) (L : List Loc) : Prop := v = some (.int 0) ∧ Fr n0 L ∧ h = h0
set_option maxRecDepth 65536 in
set_option maxHeartbeats 40000000 in
theorem rm5z (l : Launch) (Z : State) (a0 : Array Value) (hw : ∀ d ∈ tables_1, d.before a0 Z = true) (ws : List Jvm.Cond)  (h0 : Heap) (n0 : Nat) (Z0 : n0 ≤ h0.size) :
    MetFree l (⟨"com/example/fault/fault/TraceId", "isWellFormed", "(Ljava/lang/String;)Z"⟩ : MethodName) (head1 (Jvm.Cond.code (⟨"com/example/fault/fault/TraceId", "isWellFormed", "(Ljava/lang/String;)Z"⟩ : MethodName) prog_14_method_7_code 3 (some .boolean) :: ws) ({ frames := 0, cells := 0, slots := 0, locals := 0 } : Room)) (fun a U => a = #[.null] ∧ Z.Warmed39 U.vm ∧ U.heap = h0) (fun _ _ _ _ _ => True) (fun _ U o U' => ∃ v L, o = .returned v ∧ Q5z Z  h0 n0 v U'.heap L ∧ FrameEnd U o U' L ({ frames := 0, cells := 0, slots := 0, locals := 0 } : Room).cells ({ frames := 0, cells := 0, slots := 0, locals := 0 } : Room).slots) := by
  refine MetFree.of_bodySF (plainFor_of_name pn_3) hisR ?_
  intro p e s m args below meth c s₁ Bd hml0 hP hK
  obtain ⟨rfl, hZ, hh⟩ := hP
  have hx := Bd.exec
  have hby := Bd.bytes
  have hml : c.maxLocals = 3 := hml0
  have hown : s.vm.findClass "com/example/fault/fault/TraceId" = some m.cls := findClass_of_methodNamed Bd.named
  have hnm := (name_of_methodNamed Bd.named Bd.method).1
  have hlk : meth.locks = false := Bd.notSynchronized
  have hrt := Bd.returns
  have X0 : Stand p l e ({ frames := 0, cells := 0, slots := 0, locals := 0 } : Room) s m #[.null] below meth c s₁ [] 0 0 := Stand.of_body Bd
  have e0 : s₁.heap = h0 := by rw [← hh, Bd.state]; rfl
  have N0 := Fr.nil n0
  show own_Endz p.tables e below (own_EndQ s ({ frames := 0, cells := 0, slots := 0, locals := 0 } : Room).cells ({ frames := 0, cells := 0, slots := 0, locals := 0 } : Room).slots (Q5z Z  h0 n0)) (s₁.setTop (entryFrame m #[.null] 3))
  refine own_cast (ef_5z m ) ?_
  refine own_go (b := s₁.setTop (mkF m 1 #[.val .null, .unset, .unset] [.null])) (fun t k => XS.aloadN X0.here hx rfl (hb hby d5_0) rfl rfl k) ?_
  refine own_go (b := s₁.setTop (mkF m 21 #[.val .null, .unset, .unset] [])) (fun t k => XS.ifnullYes X0.here hx rfl (pc0 := 1) (pc' := 21) rfl (hb hby d5_1) rfl (by decide) (by decide) k) ?_
  refine own_go (b := s₁.setTop (mkF m 22 #[.val .null, .unset, .unset] [(.int 0)])) (fun t k => XS.iconst X0.here hx rfl (hb hby d5_21) k) ?_
  exact own_retN X0 hx hlk (t := .boolean) hrt (by simp) (hb hby d5_22) (Nat.le_of_ble_eq_true rfl) (Nat.le_of_ble_eq_true rfl) (⟨by first | rfl | (simp only [nar, if_true, if_false]; done) | (simp only [nar, if_true, if_false]; rfl) | (simp [nar]; done) | (simp [nar]; rfl), N0, e0⟩)
theorem own_nat128 {x : Int32} (h0 : ¬ x < 0) (h1 : x < (128 : Int32)) : ∃ k : Nat, k < 128 ∧ x = k.toInt32 := by
  rw [Int32.lt_iff_toInt_lt] at h0 h1
  have e0 : (0 : Int32).toInt = 0 := by decide
  have e1 : (128 : Int32).toInt = 128 := by decide
  refine ⟨x.toInt.toNat, by omega, ?_⟩
  rw [← Int32.toInt_inj, len_toInt (by omega)]
  omega
theorem pd_14 : parseMethodDescriptor "()I" = some ⟨[], some .int⟩ := by decide +kernel
theorem pd_15 : parseMethodDescriptor "(I)C" = some ⟨[.int], some .char⟩ := by decide +kernel
theorem ef_5 (m : MethodId) (xs : Addr) : entryFrame m #[(.ref xs)] 3 = mkF m 0 #[rv xs, .unset, .unset] [] := by first | (simp [entryFrame, mkF, argsToLocals, Value.category]; done) | rfl
def Q5 (Z : State) (xs : Addr) (cs : List Int32) (G1 : Int32) (fm : Value) (al : Addr) (cA : Cell) (h0 : Heap) (n0 : Nat) (v : Option Value) (h : Heap) (L : List Loc) : Prop := v = some (.int (if own_wf cs then 1 else 0)) ∧ Fr n0 L ∧ h = h0
set_option maxRecDepth 65536 in
set_option maxHeartbeats 40000000 in
theorem rm5 (l : Launch) (Z : State) (a0 : Array Value) (hw : ∀ d ∈ tables_1, d.before a0 Z = true) (ws : List Jvm.Cond) (xs : Addr) (cs : List Int32) (G1 : Int32) (fm : Value) (al : Addr) (cA : Cell) (h0 : Heap) (n0 : Nat) (Z0 : n0 ≤ h0.size) (Sx : own_Sx Z h0 xs cs) (O2 : Sta Z h0 "java/lang/String" "COMPACT_STRINGS" "Z" (.int G1)) (P5 : ¬ (G1 = (0 : Int32))) (Sf : Sta Z h0 "jdk/internal/util/Preconditions" "SIOOBE_FORMATTER" "Ljava/util/function/BiFunction;" fm) (rf : fm.isRef = true) (Sad : Sta Z h0 "java/lang/StringUTF16" "$assertionsDisabled" "Z" (.int 1)) (Shi : Sta Z h0 "java/lang/StringUTF16" "HI_BYTE_SHIFT" "I" (.int 0)) (Slo : Sta Z h0 "java/lang/StringUTF16" "LO_BYTE_SHIFT" "I" (.int 8)) (Sal : Sta Z h0 "com/example/fault/fault/TraceId" "ALLOWED" "[Z" (.ref al)) (Aal : Jvm.RoadKit.Arr Z h0 al cA .boolean) (Szl : cA.slots.size = 128) (Tbl : ∀ k, k < 128 → cA.slots[k]? = some (.int (own_ok01 k.toInt32))) :
    MetFree l (⟨"com/example/fault/fault/TraceId", "isWellFormed", "(Ljava/lang/String;)Z"⟩ : MethodName) (head1 (Jvm.Cond.code (⟨"com/example/fault/fault/TraceId", "isWellFormed", "(Ljava/lang/String;)Z"⟩ : MethodName) prog_14_method_7_code 3 (some .boolean) :: ws) ({ frames := 5, cells := 0, slots := 0, locals := 66 } : Room)) (fun a U => a = #[(.ref xs)] ∧ Z.Warmed39 U.vm ∧ U.heap = h0) (fun _ _ _ _ _ => True) (fun _ U o U' => ∃ v L, o = .returned v ∧ Q5 Z xs cs G1 fm al cA h0 n0 v U'.heap L ∧ FrameEnd U o U' L ({ frames := 5, cells := 0, slots := 0, locals := 66 } : Room).cells ({ frames := 5, cells := 0, slots := 0, locals := 66 } : Room).slots) := by
  refine MetFree.of_bodySF (plainFor_of_name pn_3) hisR ?_
  intro p e s m args below meth c s₁ Bd hml0 hP hK
  obtain ⟨rfl, hZ, hh⟩ := hP
  have hx := Bd.exec
  have hby := Bd.bytes
  have hml : c.maxLocals = 3 := hml0
  have hown : s.vm.findClass "com/example/fault/fault/TraceId" = some m.cls := findClass_of_methodNamed Bd.named
  have hnm := (name_of_methodNamed Bd.named Bd.method).1
  have hlk : meth.locks = false := Bd.notSynchronized
  have hrt := Bd.returns
  have X0 : Stand p l e ({ frames := 5, cells := 0, slots := 0, locals := 66 } : Room) s m #[(.ref xs)] below meth c s₁ [] 0 0 := Stand.of_body Bd
  have e0 : s₁.heap = h0 := by rw [← hh, Bd.state]; rfl
  have N0 := Fr.nil n0
  show own_Endz p.tables e below (own_EndQ s ({ frames := 5, cells := 0, slots := 0, locals := 66 } : Room).cells ({ frames := 5, cells := 0, slots := 0, locals := 66 } : Room).slots (Q5 Z xs cs G1 fm al cA h0 n0)) (s₁.setTop (entryFrame m #[(.ref xs)] 3))
  refine own_cast (ef_5 m xs) ?_
  have hl4 : cs.length ≤ 4000 := by obtain ⟨_, _, _, _, _, -, -, -, -, -, -, q, -⟩ := id Sx; exact q
  have hrg : ∀ c ∈ cs, ¬ c < 0 ∧ ¬ (65535 : Int32) < c := by obtain ⟨_, _, _, _, _, -, -, -, -, -, q, -⟩ := id Sx; exact q
  refine own_go (b := s₁.setTop (mkF m 1 #[rv xs, .unset, .unset] [(.ref xs)])) (fun t k => XS.aloadN X0.here hx rfl (hb hby d5_0) rfl rfl k) ?_
  refine own_go (b := s₁.setTop (mkF m 4 #[rv xs, .unset, .unset] [])) (fun t k => XS.ifnullNo X0.here hx rfl (hb hby d5_1) rfl k) ?_
  refine own_go (b := s₁.setTop (mkF m 5 #[rv xs, .unset, .unset] [(.ref xs)])) (fun t k => XS.aloadN X0.here hx rfl (hb hby d5_4) rfl rfl k) ?_
  obtain ⟨cq1, kq1, q1a, q1b, q1c⟩ := isOf hZ e0 Sx.exa
  obtain ⟨_, _, ⟨T1, L1, k1, n1⟩, -, X1, ⟨Lc1, hQ1, l1, y1, z1⟩, st1⟩ := X0.virtualBack hx (y := (⟨"java/lang/String", "isEmpty", "()Z"⟩ : MethodName)) (z := (⟨"java/lang/String", "isEmpty", "()Z"⟩ : MethodName)) hown (mvT hZ (hw _ (List.mem_of_getElem? (i := 31) rfl))) (mvT hZ (hw _ (List.mem_of_getElem? (i := 32) rfl))) (notFace_of_selects (args := #[]) (mvT hZ (hw _ (List.mem_of_getElem? (i := 34) rfl)))) (mvT hZ (hw _ (List.mem_of_getElem? (i := 34) rfl))) (mvT hZ (hw _ (List.mem_of_getElem? (i := 33) rfl))) (by decide) (own_empS (W := 0) hZ hw Sx (by decide) (by decide)) q1a q1c (g := (mkF m 5 #[rv xs, .unset, .unset] [(.ref xs)])) rfl (by rw [hml]; rfl) (Steps.refl _) (argsL := []) (rest := []) (lenOf pd_5 rfl) rfl (by show 2 * 0 + _ ≤ _; exact Nat.le_of_eq rfl) (hb hby d5_5) (fun _ _ => ⟨rfl, e0, (by decide : 0 + 0 ≤ _), (by decide : 0 + 0 ≤ _)⟩)
  dsimp only [Pt.U, Pt.locs, Pt.cells, Pt.slots] at X1 l1 y1 z1 st1 hQ1
  subst l1 y1 z1
  obtain ⟨rfl, rfl, e1⟩ := hQ1
  have N1 := Fr.app N0 (Fr.nil n0)
  obtain ⟨lq1, X1, N1⟩ : ∃ lq, Stand p l e ({ frames := 5, cells := 0, slots := 0, locals := 66 } : Room) s m #[(.ref xs)] below meth c T1 lq 0 0 ∧ Fr n0 lq := ⟨_, X1, N1⟩
  refine own_tr (b := T1.setTop (mkF m 8 #[rv xs, .unset, .unset] [(.int (if cs.length = 0 then 1 else 0))])) st1 ?_
  by_cases hc2 : cs.length = 0
  · rw [if_pos hc2]
    refine own_go (b := T1.setTop (mkF m 21 #[rv xs, .unset, .unset] [])) (fun t k => XS.ifYes X1.here hx rfl (pc0 := 8) (pc' := 21) rfl (hb hby d5_8) rfl ((if0 _ _).trans (feq (by decide : ¬ ((1 : Int32) = (0 : Int32)))).2) (by decide) (by decide) k) ?_
    refine own_go (b := T1.setTop (mkF m 22 #[rv xs, .unset, .unset] [(.int 0)])) (fun t k => XS.iconst X1.here hx rfl (hb hby d5_21) k) ?_
    exact own_retN X1 hx hlk (t := .boolean) hrt (by simp) (hb hby d5_22) (Nat.le_of_ble_eq_true rfl) (Nat.le_of_ble_eq_true rfl) (⟨by rw [if_neg (fun q => absurd hc2 (Nat.ne_of_gt q.1))]; rfl, N1, e1⟩)
  · rw [if_neg hc2]
    refine own_go (b := T1.setTop (mkF m 11 #[rv xs, .unset, .unset] [])) (fun t k => XS.ifNo X1.here hx rfl (hb hby d5_8) rfl ((if0 _ _).trans (teq (rfl : (0 : Int32) = (0 : Int32))).2) k) ?_
    refine own_go (b := T1.setTop (mkF m 12 #[rv xs, .unset, .unset] [(.ref xs)])) (fun t k => XS.aloadN X1.here hx rfl (hb hby d5_11) rfl rfl k) ?_
    obtain ⟨cq3, kq3, q3a, q3b, q3c⟩ := isOf hZ e1 Sx.exa
    obtain ⟨_, _, ⟨T3, L3, k3, n3⟩, -, X3, ⟨Lc3, hQ3, l3, y3, z3⟩, st3⟩ := X1.virtualBack hx (y := (⟨"java/lang/String", "length", "()I"⟩ : MethodName)) (z := (⟨"java/lang/String", "length", "()I"⟩ : MethodName)) hown (mvT hZ (hw _ (List.mem_of_getElem? (i := 60) rfl))) (mvT hZ (hw _ (List.mem_of_getElem? (i := 50) rfl))) (notFace_of_selects (args := #[]) (mvT hZ (hw _ (List.mem_of_getElem? (i := 52) rfl)))) (mvT hZ (hw _ (List.mem_of_getElem? (i := 52) rfl))) (mvT hZ (hw _ (List.mem_of_getElem? (i := 51) rfl))) (by decide) (own_lenS (W := 0) hZ hw Sx (z := (cs.length.toInt32)) rfl O2 P5 (by decide) (by decide)) q3a q3c (g := (mkF m 12 #[rv xs, .unset, .unset] [(.ref xs)])) rfl (by rw [hml]; rfl) (Steps.refl _) (argsL := []) (rest := []) (lenOf pd_14 rfl) rfl (by show 2 * 0 + _ ≤ _; exact Nat.le_of_eq rfl) (hb hby d5_12) (fun _ _ => ⟨rfl, e1, (by decide : 0 + 0 ≤ _), (by decide : 0 + 0 ≤ _)⟩)
    dsimp only [Pt.U, Pt.locs, Pt.cells, Pt.slots] at X3 l3 y3 z3 st3 hQ3
    subst l3 y3 z3
    obtain ⟨rfl, rfl, e3⟩ := hQ3
    have N3 := Fr.app N1 (Fr.nil n0)
    obtain ⟨lq3, X3, N3⟩ : ∃ lq, Stand p l e ({ frames := 5, cells := 0, slots := 0, locals := 66 } : Room) s m #[(.ref xs)] below meth c T3 lq 0 0 ∧ Fr n0 lq := ⟨_, X3, N3⟩
    refine own_tr (b := T3.setTop (mkF m 15 #[rv xs, .unset, .unset] [(.int (cs.length.toInt32))])) st3 ?_
    refine own_go (b := T3.setTop (mkF m 18 #[rv xs, .unset, .unset] [(.int 128), (.int (cs.length.toInt32))])) (fun t k => XS.sipush X3.here hx rfl (hb hby d5_15) k) ?_
    by_cases hc4 : (128 : Int32) < (cs.length.toInt32)
    · refine own_go (b := T3.setTop (mkF m 21 #[rv xs, .unset, .unset] [])) (fun t k => XS.icmpNo X3.here hx rfl (hb hby d5_18) rfl (tlt hc4).2.2.2 k) ?_
      refine own_go (b := T3.setTop (mkF m 22 #[rv xs, .unset, .unset] [(.int 0)])) (fun t k => XS.iconst X3.here hx rfl (hb hby d5_21) k) ?_
      exact own_retN X3 hx hlk (t := .boolean) hrt (by simp) (hb hby d5_22) (Nat.le_of_ble_eq_true rfl) (Nat.le_of_ble_eq_true rfl) (⟨by rw [if_neg (fun q => absurd ((own_128 hl4).mp hc4) (Nat.not_lt.mpr q.2.1))]; rfl, N3, e3⟩)
    · refine own_go (b := T3.setTop (mkF m 23 #[rv xs, .unset, .unset] [])) (fun t k => XS.icmpYes X3.here hx rfl (pc0 := 18) (pc' := 23) rfl (hb hby d5_18) rfl (flt hc4).2.2.2 (by decide) (by decide) k) ?_
      refine own_go (b := T3.setTop (mkF m 24 #[rv xs, .unset, .unset] [(.int 0)])) (fun t k => XS.iconst X3.here hx rfl (hb hby d5_23) k) ?_
      refine own_go (b := T3.setTop (mkF m 25 #[rv xs, iv 0, .unset] [])) (fun t k => XS.istoreN X3.here hx rfl (hb hby d5_24) rfl (l' := #[rv xs, iv 0, .unset]) rfl k) ?_
      have h128 : cs.length ≤ 128 := Nat.le_of_not_lt fun q => hc4 ((own_128 hl4).mpr q)
      have hpos : 0 < cs.length := Nat.pos_of_ne_zero hc2
      have LOOP : ∀ (kI iI : Nat) (s2 : Slot) (TJ : State) (lJ : List Loc) (XJ : Stand p l e ({ frames := 5, cells := 0, slots := 0, locals := 66 } : Room) s m #[(.ref xs)] below meth c TJ lJ 0 0) (eJ : TJ.heap = h0) (NJ : Fr n0 lJ) (hok : ∀ k, k < iI → own_okP (cs.getD k 0)) (hkI : iI + kI = cs.length) (ho2 : One s2), own_Endz p.tables e below (own_EndQ s ({ frames := 5, cells := 0, slots := 0, locals := 66 } : Room).cells ({ frames := 5, cells := 0, slots := 0, locals := 66 } : Room).slots (Q5 Z xs cs G1 fm al cA h0 n0)) (TJ.setTop (mkF m 25 #[rv xs, iv (iI.toInt32), s2] [])) := by
        intro kI
        induction kI with
        | zero =>
          intro iI s2 TJ lJ XJ eJ NJ hok hkI ho2
          have hi8 : ¬ (iI.toInt32) < (cs.length.toInt32) := fun q => by have q' := (own_lt32 (by omega) (by omega)).mp q; omega
          refine own_go (b := TJ.setTop (mkF m 26 #[rv xs, iv (iI.toInt32), s2] [(.int (iI.toInt32))])) (fun t k => XS.iloadN XJ.here hx rfl (hb hby d5_25) rfl  k) ?_
          refine own_go (b := TJ.setTop (mkF m 27 #[rv xs, iv (iI.toInt32), s2] [(.ref xs), (.int (iI.toInt32))])) (fun t k => XS.aloadN XJ.here hx rfl (hb hby d5_26) rfl rfl k) ?_
          obtain ⟨cq5, kq5, q5a, q5b, q5c⟩ := isOf hZ eJ Sx.exa
          obtain ⟨_, _, ⟨T5, L5, k5, n5⟩, -, X5, ⟨Lc5, hQ5, l5, y5, z5⟩, st5⟩ := XJ.virtualBack hx (y := (⟨"java/lang/String", "length", "()I"⟩ : MethodName)) (z := (⟨"java/lang/String", "length", "()I"⟩ : MethodName)) hown (mvT hZ (hw _ (List.mem_of_getElem? (i := 60) rfl))) (mvT hZ (hw _ (List.mem_of_getElem? (i := 50) rfl))) (notFace_of_selects (args := #[]) (mvT hZ (hw _ (List.mem_of_getElem? (i := 52) rfl)))) (mvT hZ (hw _ (List.mem_of_getElem? (i := 52) rfl))) (mvT hZ (hw _ (List.mem_of_getElem? (i := 51) rfl))) (by decide) (own_lenS (W := 1) hZ hw Sx (z := (cs.length.toInt32)) rfl O2 P5 (by decide) (by decide)) q5a q5c (g := (mkF m 27 #[rv xs, iv (iI.toInt32), s2] [(.ref xs), (.int (iI.toInt32))])) rfl (by rw [hml]; rfl) (Steps.refl _) (argsL := []) (rest := [(.int (iI.toInt32))]) (lenOf pd_14 rfl) rfl (by show 2 * 0 + _ ≤ _; exact Nat.le_of_eq rfl) (hb hby d5_27) (fun _ _ => ⟨rfl, eJ, (by decide : 0 + 0 ≤ _), (by decide : 0 + 0 ≤ _)⟩)
          dsimp only [Pt.U, Pt.locs, Pt.cells, Pt.slots] at X5 l5 y5 z5 st5 hQ5
          subst l5 y5 z5
          obtain ⟨rfl, rfl, e5⟩ := hQ5
          have N5 := Fr.app NJ (Fr.nil n0)
          obtain ⟨lq5, X5, N5⟩ : ∃ lq, Stand p l e ({ frames := 5, cells := 0, slots := 0, locals := 66 } : Room) s m #[(.ref xs)] below meth c T5 lq 0 0 ∧ Fr n0 lq := ⟨_, X5, N5⟩
          refine own_tr (b := T5.setTop (mkF m 30 #[rv xs, iv (iI.toInt32), s2] [(.int (cs.length.toInt32)), (.int (iI.toInt32))])) st5 ?_
          refine own_go (b := T5.setTop (mkF m 63 #[rv xs, iv (iI.toInt32), s2] [])) (fun t k => XS.icmpYes X5.here hx rfl (pc0 := 30) (pc' := 63) rfl (hb hby d5_30) rfl (flt hi8).2.1 (by decide) (by decide) k) ?_
          refine own_go (b := T5.setTop (mkF m 64 #[rv xs, iv (iI.toInt32), s2] [(.int 1)])) (fun t k => XS.iconst X5.here hx rfl (hb hby d5_63) k) ?_
          exact own_retN X5 hx hlk (t := .boolean) hrt (by simp) (hb hby d5_64) (Nat.le_of_ble_eq_true rfl) (Nat.le_of_ble_eq_true rfl) (⟨by rw [if_pos ⟨hpos, h128, own_okAll (by omega) hok⟩]; rfl, N5, e5⟩)
        | succ kI ih =>
          intro iI s2 TJ lJ XJ eJ NJ hok hkI ho2
          have hi8 : (iI.toInt32) < (cs.length.toInt32) := (own_lt32 (by omega) (by omega)).mpr (by omega)
          refine own_go (b := TJ.setTop (mkF m 26 #[rv xs, iv (iI.toInt32), s2] [(.int (iI.toInt32))])) (fun t k => XS.iloadN XJ.here hx rfl (hb hby d5_25) rfl  k) ?_
          refine own_go (b := TJ.setTop (mkF m 27 #[rv xs, iv (iI.toInt32), s2] [(.ref xs), (.int (iI.toInt32))])) (fun t k => XS.aloadN XJ.here hx rfl (hb hby d5_26) rfl rfl k) ?_
          obtain ⟨cq6, kq6, q6a, q6b, q6c⟩ := isOf hZ eJ Sx.exa
          obtain ⟨_, _, ⟨T6, L6, k6, n6⟩, -, X6, ⟨Lc6, hQ6, l6, y6, z6⟩, st6⟩ := XJ.virtualBack hx (y := (⟨"java/lang/String", "length", "()I"⟩ : MethodName)) (z := (⟨"java/lang/String", "length", "()I"⟩ : MethodName)) hown (mvT hZ (hw _ (List.mem_of_getElem? (i := 60) rfl))) (mvT hZ (hw _ (List.mem_of_getElem? (i := 50) rfl))) (notFace_of_selects (args := #[]) (mvT hZ (hw _ (List.mem_of_getElem? (i := 52) rfl)))) (mvT hZ (hw _ (List.mem_of_getElem? (i := 52) rfl))) (mvT hZ (hw _ (List.mem_of_getElem? (i := 51) rfl))) (by decide) (own_lenS (W := 1) hZ hw Sx (z := (cs.length.toInt32)) rfl O2 P5 (by decide) (by decide)) q6a q6c (g := (mkF m 27 #[rv xs, iv (iI.toInt32), s2] [(.ref xs), (.int (iI.toInt32))])) rfl (by rw [hml]; rfl) (Steps.refl _) (argsL := []) (rest := [(.int (iI.toInt32))]) (lenOf pd_14 rfl) rfl (by show 2 * 0 + _ ≤ _; exact Nat.le_of_eq rfl) (hb hby d5_27) (fun _ _ => ⟨rfl, eJ, (by decide : 0 + 0 ≤ _), (by decide : 0 + 0 ≤ _)⟩)
          dsimp only [Pt.U, Pt.locs, Pt.cells, Pt.slots] at X6 l6 y6 z6 st6 hQ6
          subst l6 y6 z6
          obtain ⟨rfl, rfl, e6⟩ := hQ6
          have N6 := Fr.app NJ (Fr.nil n0)
          obtain ⟨lq6, X6, N6⟩ : ∃ lq, Stand p l e ({ frames := 5, cells := 0, slots := 0, locals := 66 } : Room) s m #[(.ref xs)] below meth c T6 lq 0 0 ∧ Fr n0 lq := ⟨_, X6, N6⟩
          refine own_tr (b := T6.setTop (mkF m 30 #[rv xs, iv (iI.toInt32), s2] [(.int (cs.length.toInt32)), (.int (iI.toInt32))])) st6 ?_
          refine own_go (b := T6.setTop (mkF m 33 #[rv xs, iv (iI.toInt32), s2] [])) (fun t k => XS.icmpNo X6.here hx rfl (hb hby d5_30) rfl (tlt hi8).2.1 k) ?_
          refine own_go (b := T6.setTop (mkF m 34 #[rv xs, iv (iI.toInt32), s2] [(.ref xs)])) (fun t k => XS.aloadN X6.here hx rfl (hb hby d5_33) rfl rfl k) ?_
          refine own_go (b := T6.setTop (mkF m 35 #[rv xs, iv (iI.toInt32), s2] [(.int (iI.toInt32)), (.ref xs)])) (fun t k => XS.iloadN X6.here hx rfl (hb hby d5_34) rfl  k) ?_
          obtain ⟨cq7, kq7, q7a, q7b, q7c⟩ := isOf hZ e6 Sx.exa
          obtain ⟨_, _, ⟨T7, L7, k7, n7⟩, -, X7, ⟨Lc7, hQ7, l7, y7, z7⟩, st7⟩ := X6.virtualBack hx (y := (⟨"java/lang/String", "charAt", "(I)C"⟩ : MethodName)) (z := (⟨"java/lang/String", "charAt", "(I)C"⟩ : MethodName)) hown (mvT hZ (hw _ (List.mem_of_getElem? (i := 75) rfl))) (mvT hZ (hw _ (List.mem_of_getElem? (i := 76) rfl))) (notFace_of_selects (args := #[]) (mvT hZ (hw _ (List.mem_of_getElem? (i := 78) rfl)))) (mvT hZ (hw _ (List.mem_of_getElem? (i := 78) rfl))) (mvT hZ (hw _ (List.mem_of_getElem? (i := 77) rfl))) (by decide) (own_chW (W := 0) hZ hw Z0 Sx O2 P5 Sf rf Sad Shi Slo (i := iI) (by omega) (by decide) (by decide)) q7a q7c (g := (mkF m 35 #[rv xs, iv (iI.toInt32), s2] [(.int (iI.toInt32)), (.ref xs)])) rfl (by rw [hml]; rfl) (Steps.refl _) (argsL := [(.int (iI.toInt32))]) (rest := []) (lenOf pd_15 rfl) rfl (by show 2 * 0 + _ ≤ _; exact Nat.le_of_eq rfl) (hb hby d5_35) (fun _ _ => ⟨rfl, e6, (by decide : 0 + 0 ≤ _), (by decide : 0 + 0 ≤ _)⟩)
          dsimp only [Pt.U, Pt.locs, Pt.cells, Pt.slots] at X7 l7 y7 z7 st7 hQ7
          subst l7 y7 z7
          obtain ⟨rfl, N7q, e7⟩ := hQ7
          have N7 := Fr.app N6 N7q
          obtain ⟨lq7, X7, N7⟩ : ∃ lq, Stand p l e ({ frames := 5, cells := 0, slots := 0, locals := 66 } : Room) s m #[(.ref xs)] below meth c T7 lq 0 0 ∧ Fr n0 lq := ⟨_, X7, N7⟩
          refine own_tr (b := T7.setTop (mkF m 38 #[rv xs, iv (iI.toInt32), s2] [(.int (cs.getD iI 0))])) st7 ?_
          refine own_go (b := T7.setTop (mkF m 39 #[rv xs, iv (iI.toInt32), iv (cs.getD iI 0)] [])) (fun t k => XS.istoreN X7.here hx rfl (hb hby d5_38) rfl (l' := #[rv xs, iv (iI.toInt32), iv (cs.getD iI 0)]) (XS.store1 (o := s2) rfl ho2 rfl) k) ?_
          refine own_go (b := T7.setTop (mkF m 40 #[rv xs, iv (iI.toInt32), iv (cs.getD iI 0)] [(.int (cs.getD iI 0))])) (fun t k => XS.iloadN X7.here hx rfl (hb hby d5_39) rfl  k) ?_
          obtain ⟨T8, X8, e8, st8⟩ := getS2 X7 hx hZ hown (host := "") (Or.inl (hw _ (List.mem_of_getElem? (i := 97) rfl))) Via.refl e7 Sal (g := (mkF m 40 #[rv xs, iv (iI.toInt32), iv (cs.getD iI 0)] [(.int (cs.getD iI 0))])) rfl (hb hby d5_40)
          refine own_go (b := T8.setTop (mkF m 43 #[rv xs, iv (iI.toInt32), iv (cs.getD iI 0)] [(.ref al), (.int (cs.getD iI 0))])) st8 ?_
          refine own_go (b := T8.setTop (mkF m 44 #[rv xs, iv (iI.toInt32), iv (cs.getD iI 0)] [(.int (cA.slots.size.toInt32)), (.int (cs.getD iI 0))])) (fun t k => X8.arraylength hx (own_at e8 Aal.1) (State.isArrayOf_alike hZ.alike Aal.2.1) (g := (mkF m 43 #[rv xs, iv (iI.toInt32), iv (cs.getD iI 0)] [(.ref al), (.int (cs.getD iI 0))])) rfl rfl (hb hby d5_43) t k) ?_
          rw [(show cA.slots.size.toInt32 = (128 : Int32) from by rw [Szl]; rfl)]
          by_cases hc9 : (cs.getD iI 0) < (128 : Int32)
          · refine own_go (b := T8.setTop (mkF m 47 #[rv xs, iv (iI.toInt32), iv (cs.getD iI 0)] [])) (fun t k => XS.icmpNo X8.here hx rfl (hb hby d5_44) rfl (tlt hc9).2.1 k) ?_
            have hci := hrg _ (own_mem (xs := cs) (i := iI) (by omega))
            have hq8 : ∃ k : Nat, k < 128 ∧ (cs.getD iI 0) = k.toInt32 := own_nat128 hci.1 hc9
            obtain ⟨kc, hkc, ekc⟩ := hq8
            obtain ⟨T10, X10, e10, st10⟩ := getS2 X8 hx hZ hown (host := "") (Or.inl (hw _ (List.mem_of_getElem? (i := 97) rfl))) Via.refl e8 Sal (g := (mkF m 47 #[rv xs, iv (iI.toInt32), iv (cs.getD iI 0)] [])) rfl (hb hby d5_47)
            refine own_go (b := T10.setTop (mkF m 50 #[rv xs, iv (iI.toInt32), iv (cs.getD iI 0)] [(.ref al)])) st10 ?_
            refine own_go (b := T10.setTop (mkF m 51 #[rv xs, iv (iI.toInt32), iv (cs.getD iI 0)] [(.int (cs.getD iI 0)), (.ref al)])) (fun t k => XS.iloadN X10.here hx rfl (hb hby d5_50) rfl  k) ?_
            refine own_go (b := T10.setTop (mkF m 52 #[rv xs, iv (iI.toInt32), iv (cs.getD iI 0)] [(.int (own_ok01 (cs.getD iI 0)))])) (fun t k => X10.baloadBooleans hx (j := (cs.getD iI 0)) (v := (.int (own_ok01 (cs.getD iI 0)))) (own_at e10 Aal.1) (State.isArrayOf_alike hZ.alike Aal.2.1) Aal.2.2 (by rw [ekc]; exact own_inb Szl hkc (by decide)) (by rw [ekc, own_n32 (by omega)]; exact Tbl kc hkc) (g := (mkF m 51 #[rv xs, iv (iI.toInt32), iv (cs.getD iI 0)] [(.int (cs.getD iI 0)), (.ref al)])) rfl rfl (hb hby d5_51) t k) ?_
            by_cases hc11 : own_okP (cs.getD iI 0)
            · rw [own_ok01, if_pos hc11]
              refine own_go (b := T10.setTop (mkF m 57 #[rv xs, iv (iI.toInt32), iv (cs.getD iI 0)] [])) (fun t k => XS.ifYes X10.here hx rfl (pc0 := 52) (pc' := 57) rfl (hb hby d5_52) rfl ((if0 _ _).trans (feq (by decide : ¬ ((1 : Int32) = (0 : Int32)))).2) (by decide) (by decide) k) ?_
              refine own_go (b := T10.setTop (mkF m 60 #[rv xs, iv ((iI.toInt32) + (1 : Int32)), iv (cs.getD iI 0)] [])) (fun t k => XS.iinc X10.here hx rfl (hb hby d5_57) rfl (l' := #[rv xs, iv ((iI.toInt32) + (1 : Int32)), iv (cs.getD iI 0)]) rfl k) ?_
              refine own_go (b := T10.setTop (mkF m 25 #[rv xs, iv ((iI.toInt32) + (1 : Int32)), iv (cs.getD iI 0)] [])) (fun t k => XS.goto X10.here hx rfl (pc0 := 60) (pc' := 25) rfl (hb hby d5_60) (by decide) (by decide) k) ?_
              rw [own_add1 (i := iI) (by omega)]
              exact ih (iI + 1) _ _ _ X10 e10 N7 (fun k q => by rcases Nat.lt_or_eq_of_le (Nat.le_of_lt_succ q) with r | rfl; exact hok k r; exact hc11) (by omega) (One.val rfl)
            · rw [own_ok01, if_neg hc11]
              refine own_go (b := T10.setTop (mkF m 55 #[rv xs, iv (iI.toInt32), iv (cs.getD iI 0)] [])) (fun t k => XS.ifNo X10.here hx rfl (hb hby d5_52) rfl ((if0 _ _).trans (teq (rfl : (0 : Int32) = (0 : Int32))).2) k) ?_
              refine own_go (b := T10.setTop (mkF m 56 #[rv xs, iv (iI.toInt32), iv (cs.getD iI 0)] [(.int 0)])) (fun t k => XS.iconst X10.here hx rfl (hb hby d5_55) k) ?_
              exact own_retN X10 hx hlk (t := .boolean) hrt (by simp) (hb hby d5_56) (Nat.le_of_ble_eq_true rfl) (Nat.le_of_ble_eq_true rfl) (⟨by rw [if_neg (fun q => hc11 (q.2.2 _ (own_mem (by omega))))]; rfl, N7, e10⟩)
          · refine own_go (b := T8.setTop (mkF m 55 #[rv xs, iv (iI.toInt32), iv (cs.getD iI 0)] [])) (fun t k => XS.icmpYes X8.here hx rfl (pc0 := 44) (pc' := 55) rfl (hb hby d5_44) rfl (flt hc9).2.1 (by decide) (by decide) k) ?_
            refine own_go (b := T8.setTop (mkF m 56 #[rv xs, iv (iI.toInt32), iv (cs.getD iI 0)] [(.int 0)])) (fun t k => XS.iconst X8.here hx rfl (hb hby d5_55) k) ?_
            exact own_retN X8 hx hlk (t := .boolean) hrt (by simp) (hb hby d5_56) (Nat.le_of_ble_eq_true rfl) (Nat.le_of_ble_eq_true rfl) (⟨by rw [if_neg (fun q => own_ok128 hc9 (q.2.2 _ (own_mem (by omega))))]; rfl, N7, e8⟩)
      exact LOOP cs.length 0 _ _ _ X3 e3 N3 (fun k q => absurd q (Nat.not_lt_zero k)) (Nat.zero_add _) One.u
theorem d31_0 : decode jdk_31_method_10_code 0 = .ok (.aload_n 0, 1) := by decide +kernel
theorem d31_1 : decode jdk_31_method_10_code 1 = .ok (.ifnonnull 11, 3) := by decide +kernel
theorem d31_4 : decode jdk_31_method_10_code 4 = .ok (.new 84, 3) := by decide +kernel
theorem d31_7 : decode jdk_31_method_10_code 7 = .ok (.dup, 1) := by decide +kernel
theorem d31_8 : decode jdk_31_method_10_code 8 = .ok (.invokespecial 86, 3) := by decide +kernel
theorem d31_11 : decode jdk_31_method_10_code 11 = .ok (.athrow, 1) := by decide +kernel
theorem d31_12 : decode jdk_31_method_10_code 12 = .ok (.aload_n 0, 1) := by decide +kernel
theorem d31_13 : decode jdk_31_method_10_code 13 = .ok (.areturn, 1) := by decide +kernel
theorem pn_4 : plainName "java/util/Objects" = true := by first | (simp [plainName, overriddenIn]; done) | decide +kernel
theorem ef_31 (m : MethodId) (oo : Addr) : entryFrame m #[(.ref oo)] 1 = mkF m 0 #[rv oo] [] := by first | (simp [entryFrame, mkF, argsToLocals, Value.category]; done) | rfl
def Q31 (Z : State) (oo : Addr) (h0 : Heap) (n0 : Nat) (v : Option Value) (h : Heap) (L : List Loc) : Prop := v = some (.ref oo) ∧ Fr n0 L ∧ h = h0
set_option maxRecDepth 65536 in
set_option maxHeartbeats 40000000 in
theorem rm31 (l : Launch) (Z : State) (a0 : Array Value) (hw : ∀ d ∈ tables_1, d.before a0 Z = true) (ws : List Jvm.Cond) (oo : Addr) (h0 : Heap) (n0 : Nat) (Z0 : n0 ≤ h0.size) :
    MetFree l (⟨"java/util/Objects", "requireNonNull", "(Ljava/lang/Object;)Ljava/lang/Object;"⟩ : MethodName) (head1 (Jvm.Cond.code (⟨"java/util/Objects", "requireNonNull", "(Ljava/lang/Object;)Ljava/lang/Object;"⟩ : MethodName) jdk_31_method_10_code 1 (some (.object "java/lang/Object")) :: ws) ({ frames := 0, cells := 0, slots := 0, locals := 0 } : Room)) (fun a U => a = #[(.ref oo)] ∧ Z.Warmed39 U.vm ∧ U.heap = h0) (fun _ _ _ _ _ => True) (fun _ U o U' => ∃ v L, o = .returned v ∧ Q31 Z oo h0 n0 v U'.heap L ∧ FrameEnd U o U' L ({ frames := 0, cells := 0, slots := 0, locals := 0 } : Room).cells ({ frames := 0, cells := 0, slots := 0, locals := 0 } : Room).slots) := by
  refine MetFree.of_bodySF (plainFor_of_name pn_4) hisR ?_
  intro p e s m args below meth c s₁ Bd hml0 hP hK
  obtain ⟨rfl, hZ, hh⟩ := hP
  have hx := Bd.exec
  have hby := Bd.bytes
  have hml : c.maxLocals = 1 := hml0
  have hown : s.vm.findClass "java/util/Objects" = some m.cls := findClass_of_methodNamed Bd.named
  have hnm := (name_of_methodNamed Bd.named Bd.method).1
  have hlk : meth.locks = false := Bd.notSynchronized
  have hrt := Bd.returns
  have X0 : Stand p l e ({ frames := 0, cells := 0, slots := 0, locals := 0 } : Room) s m #[(.ref oo)] below meth c s₁ [] 0 0 := Stand.of_body Bd
  have e0 : s₁.heap = h0 := by rw [← hh, Bd.state]; rfl
  have N0 := Fr.nil n0
  show own_Endz p.tables e below (own_EndQ s ({ frames := 0, cells := 0, slots := 0, locals := 0 } : Room).cells ({ frames := 0, cells := 0, slots := 0, locals := 0 } : Room).slots (Q31 Z oo h0 n0)) (s₁.setTop (entryFrame m #[(.ref oo)] 1))
  refine own_cast (ef_31 m oo) ?_
  refine own_go (b := s₁.setTop (mkF m 1 #[rv oo] [(.ref oo)])) (fun t k => XS.aloadN X0.here hx rfl (hb hby d31_0) rfl rfl k) ?_
  refine own_go (b := s₁.setTop (mkF m 12 #[rv oo] [])) (fun t k => XS.ifnonnullYes X0.here hx rfl (pc0 := 1) (pc' := 12) rfl (hb hby d31_1) rfl (by decide) (by decide) k) ?_
  refine own_go (b := s₁.setTop (mkF m 13 #[rv oo] [(.ref oo)])) (fun t k => XS.aloadN X0.here hx rfl (hb hby d31_12) rfl rfl k) ?_
  exact own_retA X0 hx hlk hrt rfl rfl (hb hby d31_13) (Nat.le_of_ble_eq_true rfl) (Nat.le_of_ble_eq_true rfl) (⟨by first | rfl | (simp only [if_true, if_true, if_false]; done) | (simp only [if_true, if_true, if_false]; rfl) | (simp []; done) | (simp []; rfl), N0, e0⟩)
theorem d32_0 : decode jdk_32_method_2_code 0 = .ok (.aload_n 0, 1) := by decide +kernel
theorem d32_1 : decode jdk_32_method_2_code 1 = .ok (.invokespecial 7, 3) := by decide +kernel
theorem d32_4 : decode jdk_32_method_2_code 4 = .ok (.aload_n 0, 1) := by decide +kernel
theorem d32_5 : decode jdk_32_method_2_code 5 = .ok (.aload_n 1, 1) := by decide +kernel
theorem d32_6 : decode jdk_32_method_2_code 6 = .ok (.putfield 13, 3) := by decide +kernel
theorem d32_9 : decode jdk_32_method_2_code 9 = .ok (.return_, 1) := by decide +kernel
theorem pn_5 : plainName "java/util/Optional" = true := by first | (simp [plainName, overriddenIn]; done) | decide +kernel
theorem ef_32 (m : MethodId) (tt : Addr) (oo : Addr) : entryFrame m #[(.ref tt), (.ref oo)] 2 = mkF m 0 #[rv tt, rv oo] [] := by first | (simp [entryFrame, mkF, argsToLocals, Value.category]; done) | rfl
def Q32 (Z : State) (tt : Addr) (oo : Addr) (h0 : Heap) (n0 : Nat) (v : Option Value) (h : Heap) (L : List Loc) : Prop := v = none ∧ Fr n0 L ∧ Keep h0 h [tt] ∧ Exa Z h tt "java/util/Optional" ∧ Fld Z h tt "java/util/Optional" "value" "Ljava/lang/Object;" (.ref oo)
set_option maxRecDepth 65536 in
set_option maxHeartbeats 40000000 in
theorem rm32 (l : Launch) (Z : State) (a0 : Array Value) (hw : ∀ d ∈ tables_1, d.before a0 Z = true) (ws : List Jvm.Cond) (tt : Addr) (oo : Addr) (h0 : Heap) (n0 : Nat) (Z0 : n0 ≤ h0.size) (Ex : Exa Z h0 tt "java/util/Optional") (F1 : Fld Z h0 tt "java/util/Optional" "value" "Ljava/lang/Object;" .null) (gt : n0 ≤ tt) :
    MetFree l (⟨"java/util/Optional", "<init>", "(Ljava/lang/Object;)V"⟩ : MethodName) (head1 (Jvm.Cond.code (⟨"java/util/Optional", "<init>", "(Ljava/lang/Object;)V"⟩ : MethodName) jdk_32_method_2_code 2 none :: ws) ({ frames := 1, cells := 0, slots := 0, locals := 12 } : Room)) (fun a U => a = #[(.ref tt), (.ref oo)] ∧ Z.Warmed39 U.vm ∧ U.heap = h0) (fun _ _ _ _ _ => True) (fun _ U o U' => ∃ v L, o = .returned v ∧ Q32 Z tt oo h0 n0 v U'.heap L ∧ FrameEnd U o U' L ({ frames := 1, cells := 0, slots := 0, locals := 12 } : Room).cells ({ frames := 1, cells := 0, slots := 0, locals := 12 } : Room).slots) := by
  refine MetFree.of_bodySF (plainFor_of_name pn_5) hisR ?_
  intro p e s m args below meth c s₁ Bd hml0 hP hK
  obtain ⟨rfl, hZ, hh⟩ := hP
  have hx := Bd.exec
  have hby := Bd.bytes
  have hml : c.maxLocals = 2 := hml0
  have hown : s.vm.findClass "java/util/Optional" = some m.cls := findClass_of_methodNamed Bd.named
  have hnm := (name_of_methodNamed Bd.named Bd.method).1
  have hlk : meth.locks = false := Bd.notSynchronized
  have hrt := Bd.returns
  have X0 : Stand p l e ({ frames := 1, cells := 0, slots := 0, locals := 12 } : Room) s m #[(.ref tt), (.ref oo)] below meth c s₁ [] 0 0 := Stand.of_body Bd
  have e0 : s₁.heap = h0 := by rw [← hh, Bd.state]; rfl
  have N0 := Fr.nil n0
  show own_Endz p.tables e below (own_EndQ s ({ frames := 1, cells := 0, slots := 0, locals := 12 } : Room).cells ({ frames := 1, cells := 0, slots := 0, locals := 12 } : Room).slots (Q32 Z tt oo h0 n0)) (s₁.setTop (entryFrame m #[(.ref tt), (.ref oo)] 2))
  refine own_cast (ef_32 m tt oo) ?_
  refine own_go (b := s₁.setTop (mkF m 1 #[rv tt, rv oo] [(.ref tt)])) (fun t k => XS.aloadN X0.here hx rfl (hb hby d32_0) rfl rfl k) ?_
  obtain ⟨T1, X1, e1, st1⟩ := initO X0 hx hZ hown (hw _ (List.mem_of_getElem? (i := 155) rfl)) (hw _ (List.mem_of_getElem? (i := 14) rfl)) (hw _ (List.mem_of_getElem? (i := 15) rfl)) e0 (g := (mkF m 1 #[rv tt, rv oo] [(.ref tt)])) rfl (by rw [hml]; rfl) rfl (hb hby d32_1) (by decide) (W := 0) (by show 2 * 0 + _ ≤ _; exact Nat.le_of_eq rfl) (by decide)
  refine own_go (b := T1.setTop (mkF m 4 #[rv tt, rv oo] [])) st1 ?_
  refine own_go (b := T1.setTop (mkF m 5 #[rv tt, rv oo] [(.ref tt)])) (fun t k => XS.aloadN X1.here hx rfl (hb hby d32_4) rfl rfl k) ?_
  refine own_go (b := T1.setTop (mkF m 6 #[rv tt, rv oo] [(.ref oo), (.ref tt)])) (fun t k => XS.aloadN X1.here hx rfl (hb hby d32_5) rfl rfl k) ?_
  obtain ⟨T2, h2, X2, e2, W2, st2⟩ := putF X1 hx hZ hown (host := "") (Or.inl (hw _ (List.mem_of_getElem? (i := 46) rfl))) Via.refl e1 F1 Ex (Or.inr ⟨(hw _ (List.mem_of_getElem? (i := 47) rfl)), rfl, hnm⟩) (hw _ (List.mem_of_getElem? (i := 146) rfl)) (ty := (.object "java/lang/Object")) (by decide) rfl rfl (g := (mkF m 6 #[rv tt, rv oo] [(.ref oo), (.ref tt)])) rfl rfl (hb hby d32_6)
  have Fw2 : Fld Z h2 tt "java/util/Optional" "value" "Ljava/lang/Object;" (.ref oo) := Fld.same W2 F1
  have Zs2 : n0 ≤ h2.size := Nat.le_trans Z0 (Keep.of_wr W2).1
  have N2 := Fr.snoc X2 N0 gt
  have Kp2 : Keep h0 h2 [tt] := (Keep.refl h0 [tt]).wr W2 (Or.inl (List.mem_of_getElem? (i := 0) rfl))
  refine own_go (b := T2.setTop (mkF m 9 #[rv tt, rv oo] [])) st2 ?_
  exact own_retV X2 hx hlk hrt (hb hby d32_9) (Nat.le_of_ble_eq_true rfl) (Nat.le_of_ble_eq_true rfl) (⟨rfl, N2, by rw [e2]; exact Kp2, by rw [e2]; exact (Ex.wr W2), by rw [e2]; exact Fw2⟩)
theorem d30_0 : decode jdk_32_method_3_code 0 = .ok (.new 2, 3) := by decide +kernel
theorem d30_3 : decode jdk_32_method_3_code 3 = .ok (.dup, 1) := by decide +kernel
theorem d30_4 : decode jdk_32_method_3_code 4 = .ok (.aload_n 0, 1) := by decide +kernel
theorem d30_5 : decode jdk_32_method_3_code 5 = .ok (.invokestatic 17, 3) := by decide +kernel
theorem d30_8 : decode jdk_32_method_3_code 8 = .ok (.invokespecial 23, 3) := by decide +kernel
theorem d30_11 : decode jdk_32_method_3_code 11 = .ok (.areturn, 1) := by decide +kernel
theorem pd_16 : parseMethodDescriptor "(Ljava/lang/Object;)Ljava/lang/Object;" = some ⟨[(.object "java/lang/Object")], some (.object "java/lang/Object")⟩ := by decide +kernel
theorem pd_17 : parseMethodDescriptor "(Ljava/lang/Object;)V" = some ⟨[(.object "java/lang/Object")], none⟩ := by decide +kernel
theorem ef_30 (m : MethodId) (oo : Addr) : entryFrame m #[(.ref oo)] 1 = mkF m 0 #[rv oo] [] := by first | (simp [entryFrame, mkF, argsToLocals, Value.category]; done) | rfl
def Q30 (Z : State) (oo : Addr) (h0 : Heap) (n0 : Nat) (v : Option Value) (h : Heap) (L : List Loc) : Prop := ∃ r, v = some (.ref r) ∧ Fr n0 L ∧ h0.size ≤ r ∧ Keep h0 h [] ∧ Exa Z h r "java/util/Optional" ∧ Fld Z h r "java/util/Optional" "value" "Ljava/lang/Object;" (.ref oo)
set_option maxRecDepth 65536 in
set_option maxHeartbeats 40000000 in
theorem rm30 (l : Launch) (Z : State) (a0 : Array Value) (hw : ∀ d ∈ tables_1, d.before a0 Z = true) (ws : List Jvm.Cond) (oo : Addr) (h0 : Heap) (n0 : Nat) (Z0 : n0 ≤ h0.size) :
    MetFree l (⟨"java/util/Optional", "of", "(Ljava/lang/Object;)Ljava/util/Optional;"⟩ : MethodName) (head1 (Jvm.Cond.code (⟨"java/util/Optional", "of", "(Ljava/lang/Object;)Ljava/util/Optional;"⟩ : MethodName) jdk_32_method_3_code 1 (some (.object "java/util/Optional")) :: ws) ({ frames := 2, cells := 1, slots := 1, locals := 26 } : Room)) (fun a U => a = #[(.ref oo)] ∧ Z.Warmed39 U.vm ∧ U.heap = h0) (fun _ _ _ _ _ => True) (fun _ U o U' => ∃ v L, o = .returned v ∧ Q30 Z oo h0 n0 v U'.heap L ∧ FrameEnd U o U' L ({ frames := 2, cells := 1, slots := 1, locals := 26 } : Room).cells ({ frames := 2, cells := 1, slots := 1, locals := 26 } : Room).slots) := by
  refine MetFree.of_bodySF (plainFor_of_name pn_5) hisR ?_
  intro p e s m args below meth c s₁ Bd hml0 hP hK
  obtain ⟨rfl, hZ, hh⟩ := hP
  have hx := Bd.exec
  have hby := Bd.bytes
  have hml : c.maxLocals = 1 := hml0
  have hown : s.vm.findClass "java/util/Optional" = some m.cls := findClass_of_methodNamed Bd.named
  have hnm := (name_of_methodNamed Bd.named Bd.method).1
  have hlk : meth.locks = false := Bd.notSynchronized
  have hrt := Bd.returns
  have X0 : Stand p l e ({ frames := 2, cells := 1, slots := 1, locals := 26 } : Room) s m #[(.ref oo)] below meth c s₁ [] 0 0 := Stand.of_body Bd
  have e0 : s₁.heap = h0 := by rw [← hh, Bd.state]; rfl
  have N0 := Fr.nil n0
  show own_Endz p.tables e below (own_EndQ s ({ frames := 2, cells := 1, slots := 1, locals := 26 } : Room).cells ({ frames := 2, cells := 1, slots := 1, locals := 26 } : Room).slots (Q30 Z oo h0 n0)) (s₁.setTop (entryFrame m #[(.ref oo)] 1))
  refine own_cast (ef_30 m oo) ?_
  obtain ⟨T1, h1, X1, e1, E1, A1, D1, -, st1⟩ := newO X0 hx hZ hown (hw _ (List.mem_of_getElem? (i := 145) rfl)) (hw _ (List.mem_of_getElem? (i := 146) rfl)) (hw _ (List.mem_of_getElem? (i := 38) rfl)) e0 (g := (mkF m 0 #[rv oo] [])) rfl (hb hby d30_0) (by decide) (by decide)
  obtain ⟨b1, g1⟩ : ∃ z, z = h0.size := ⟨_, rfl⟩
  rw [← g1] at A1 D1 st1
  have g_b1 : n0 ≤ b1 := Nat.le_trans Z0 (Nat.le_of_eq g1.symm)
  have sz_b1 : h0.size ≤ b1 := Nat.le_trans (Keep.refl h0 []).1 (Nat.le_of_eq g1.symm)
  have Zs1 : n0 ≤ h1.size := Nat.le_trans Z0 E1.1
  have Kp1 : Keep h0 h1 [] := (Keep.refl h0 []).ext E1
  have F_value_b1 : Fld Z h1 b1 "java/util/Optional" "value" "Ljava/lang/Object;" .null := D1 (Or.inr (hw _ (List.mem_of_getElem? (i := 47) rfl))) (ty := (.object "java/lang/Object")) (by decide)
  refine own_go (b := T1.setTop (mkF m 3 #[rv oo] [(.ref b1)])) st1 ?_
  refine own_go (b := T1.setTop (mkF m 4 #[rv oo] [(.ref b1), (.ref b1)])) (fun t k => XS.dup X1.here hx rfl (hb hby d30_3) rfl rfl k) ?_
  refine own_go (b := T1.setTop (mkF m 5 #[rv oo] [(.ref oo), (.ref b1), (.ref b1)])) (fun t k => XS.aloadN X1.here hx rfl (hb hby d30_4) rfl rfl k) ?_
  obtain ⟨_, _, ⟨T2, L2, k2, n2⟩, -, X2, ⟨Lc2, hQ2, l2, y2, z2⟩, st2⟩ := Jvm.LawKit.callS X1 hx (y := (⟨"java/util/Objects", "requireNonNull", "(Ljava/lang/Object;)Ljava/lang/Object;"⟩ : MethodName)) hown (mvT hZ (hw _ (List.mem_of_getElem? (i := 147) rfl))) (mvT hZ (hw _ (List.mem_of_getElem? (i := 148) rfl))) (mvT hZ (hw _ (List.mem_of_getElem? (i := 149) rfl))) (mvT hZ (hw _ (List.mem_of_getElem? (i := 150) rfl))) (by decide) (backOf (W := 2) (rm31 l Z a0 hw [] oo  h1 n0 Zs1 ) hZ (hw _ (List.mem_of_getElem? (i := 150) rfl)) (hw _ (List.mem_of_getElem? (i := 149) rfl)) (by decide) (by decide)) (g := (mkF m 5 #[rv oo] [(.ref oo), (.ref b1), (.ref b1)])) rfl (by rw [hml]; rfl) (argsL := [(.ref oo)]) (rest := [(.ref b1), (.ref b1)]) (lenOf pd_16 rfl) rfl (by show 2 * 0 + _ ≤ _; exact Nat.le_of_eq rfl) (hb hby d30_5) (fun _ _ => ⟨rfl, e1, (by decide : 1 + 0 ≤ _), (by decide : 1 + 0 ≤ _)⟩)
  dsimp only [Pt.U, Pt.locs, Pt.cells, Pt.slots] at X2 l2 y2 z2 st2 hQ2
  subst l2 y2 z2
  obtain ⟨rfl, N2q, e2⟩ := hQ2
  have N2 := Fr.app N0 N2q
  obtain ⟨lq2, X2, N2⟩ : ∃ lq, Stand p l e ({ frames := 2, cells := 1, slots := 1, locals := 26 } : Room) s m #[(.ref oo)] below meth c T2 lq 1 1 ∧ Fr n0 lq := ⟨_, X2, N2⟩
  refine own_go (b := T2.setTop (mkF m 8 #[rv oo] [(.ref oo), (.ref b1), (.ref b1)])) st2 ?_
  obtain ⟨_, _, ⟨T3, L3, k3, n3⟩, -, X3, ⟨Lc3, hQ3, l3, y3, z3⟩, st3⟩ := X2.specialBack hx (y := (⟨"java/util/Optional", "<init>", "(Ljava/lang/Object;)V"⟩ : MethodName)) rfl hown (mvT hZ (hw _ (List.mem_of_getElem? (i := 151) rfl))) (mvT hZ (hw _ (List.mem_of_getElem? (i := 152) rfl))) (mvT hZ (hw _ (List.mem_of_getElem? (i := 154) rfl))) (by decide) (backOf (W := 1) (rm32 l Z a0 hw [] b1 oo  h1 n0 Zs1 A1 F_value_b1 g_b1) hZ (hw _ (List.mem_of_getElem? (i := 154) rfl)) (hw _ (List.mem_of_getElem? (i := 38) rfl)) (by decide) (by decide)) (g := (mkF m 8 #[rv oo] [(.ref oo), (.ref b1), (.ref b1)])) rfl (by rw [hml]; rfl) (Steps.refl _) (a := b1) (argsL := [(.ref oo)]) (rest := [(.ref b1)]) (lenOf pd_17 rfl) rfl (by show 2 * 0 + _ ≤ _; exact Nat.le_of_eq rfl) (hb hby d30_8) (fun _ _ => ⟨rfl, e2, (by decide : 1 + 0 ≤ _), (by decide : 1 + 0 ≤ _)⟩)
  dsimp only [Pt.U, Pt.locs, Pt.cells, Pt.slots] at X3 l3 y3 z3 st3 hQ3
  subst l3 y3 z3
  obtain ⟨rfl, N3q, K3, Ek3, Fk3⟩ := hQ3
  have Zs3 : n0 ≤ T3.heap.size := Nat.le_trans Zs1 K3.1
  have N3 := Fr.app N2 N3q
  have Kp3 : Keep h0 T3.heap [] := Kp1.trans K3 (by intro x hx; simp only [List.mem_cons, List.not_mem_nil, or_false] at hx; rcases hx with rfl <;> first | exact Or.inr (by assumption) | exact Or.inl (by simp))
  obtain ⟨lq3, X3, N3⟩ : ∃ lq, Stand p l e ({ frames := 2, cells := 1, slots := 1, locals := 26 } : Room) s m #[(.ref oo)] below meth c T3 lq 1 1 ∧ Fr n0 lq := ⟨_, X3, N3⟩
  refine own_tr (b := T3.setTop (mkF m 11 #[rv oo] [(.ref b1)])) st3 ?_
  exact own_retA X3 hx hlk hrt rfl rfl (hb hby d30_11) (Nat.le_of_ble_eq_true rfl) (Nat.le_of_ble_eq_true rfl) (⟨_, rfl, N3, sz_b1, Kp3, Ek3, Fk3⟩)
theorem d8_0 : decode jdk_32_method_6_code 0 = .ok (.aload_n 0, 1) := by decide +kernel
theorem d8_1 : decode jdk_32_method_6_code 1 = .ok (.getfield 13, 3) := by decide +kernel
theorem d8_4 : decode jdk_32_method_6_code 4 = .ok (.ifnull 7, 3) := by decide +kernel
theorem d8_7 : decode jdk_32_method_6_code 7 = .ok (.iconst 1, 1) := by decide +kernel
theorem d8_8 : decode jdk_32_method_6_code 8 = .ok (.goto 4, 3) := by decide +kernel
theorem d8_11 : decode jdk_32_method_6_code 11 = .ok (.iconst 0, 1) := by decide +kernel
theorem d8_12 : decode jdk_32_method_6_code 12 = .ok (.ireturn, 1) := by decide +kernel
theorem ef_8n (m : MethodId) (oo : Addr) : entryFrame m #[(.ref oo)] 1 = mkF m 0 #[rv oo] [] := by first | (simp [entryFrame, mkF, argsToLocals, Value.category]; done) | rfl
def Q8n (Z : State) (oo : Addr) (h0 : Heap) (n0 : Nat) (v : Option Value) (h : Heap) (L : List Loc) : Prop := v = some (.int 0) ∧ Fr n0 L ∧ h = h0
set_option maxRecDepth 65536 in
set_option maxHeartbeats 40000000 in
theorem rm8n (l : Launch) (Z : State) (a0 : Array Value) (hw : ∀ d ∈ tables_1, d.before a0 Z = true) (ws : List Jvm.Cond) (oo : Addr) (h0 : Heap) (n0 : Nat) (Z0 : n0 ≤ h0.size) (Fv : Fld Z h0 oo "java/util/Optional" "value" "Ljava/lang/Object;" .null) :
    MetFree l (⟨"java/util/Optional", "isPresent", "()Z"⟩ : MethodName) (head1 (Jvm.Cond.code (⟨"java/util/Optional", "isPresent", "()Z"⟩ : MethodName) jdk_32_method_6_code 1 (some .boolean) :: ws) ({ frames := 0, cells := 0, slots := 0, locals := 0 } : Room)) (fun a U => a = #[(.ref oo)] ∧ Z.Warmed39 U.vm ∧ U.heap = h0) (fun _ _ _ _ _ => True) (fun _ U o U' => ∃ v L, o = .returned v ∧ Q8n Z oo h0 n0 v U'.heap L ∧ FrameEnd U o U' L ({ frames := 0, cells := 0, slots := 0, locals := 0 } : Room).cells ({ frames := 0, cells := 0, slots := 0, locals := 0 } : Room).slots) := by
  refine MetFree.of_bodySF (plainFor_of_name pn_5) hisR ?_
  intro p e s m args below meth c s₁ Bd hml0 hP hK
  obtain ⟨rfl, hZ, hh⟩ := hP
  have hx := Bd.exec
  have hby := Bd.bytes
  have hml : c.maxLocals = 1 := hml0
  have hown : s.vm.findClass "java/util/Optional" = some m.cls := findClass_of_methodNamed Bd.named
  have hnm := (name_of_methodNamed Bd.named Bd.method).1
  have hlk : meth.locks = false := Bd.notSynchronized
  have hrt := Bd.returns
  have X0 : Stand p l e ({ frames := 0, cells := 0, slots := 0, locals := 0 } : Room) s m #[(.ref oo)] below meth c s₁ [] 0 0 := Stand.of_body Bd
  have e0 : s₁.heap = h0 := by rw [← hh, Bd.state]; rfl
  have N0 := Fr.nil n0
  show own_Endz p.tables e below (own_EndQ s ({ frames := 0, cells := 0, slots := 0, locals := 0 } : Room).cells ({ frames := 0, cells := 0, slots := 0, locals := 0 } : Room).slots (Q8n Z oo h0 n0)) (s₁.setTop (entryFrame m #[(.ref oo)] 1))
  refine own_cast (ef_8n m oo) ?_
  refine own_go (b := s₁.setTop (mkF m 1 #[rv oo] [(.ref oo)])) (fun t k => XS.aloadN X0.here hx rfl (hb hby d8_0) rfl rfl k) ?_
  obtain ⟨T1, X1, e1, st1⟩ := getF X0 hx hZ hown (host := "") (Or.inl (hw _ (List.mem_of_getElem? (i := 46) rfl))) Via.refl e0 Fv (g := (mkF m 1 #[rv oo] [(.ref oo)])) rfl rfl (hb hby d8_1)
  refine own_go (b := T1.setTop (mkF m 4 #[rv oo] [.null])) st1 ?_
  refine own_go (b := T1.setTop (mkF m 11 #[rv oo] [])) (fun t k => XS.ifnullYes X1.here hx rfl (pc0 := 4) (pc' := 11) rfl (hb hby d8_4) rfl (by decide) (by decide) k) ?_
  refine own_go (b := T1.setTop (mkF m 12 #[rv oo] [(.int 0)])) (fun t k => XS.iconst X1.here hx rfl (hb hby d8_11) k) ?_
  exact own_retN X1 hx hlk (t := .boolean) hrt (by simp) (hb hby d8_12) (Nat.le_of_ble_eq_true rfl) (Nat.le_of_ble_eq_true rfl) (⟨by first | rfl | (simp only [nar, if_true, if_false]; done) | (simp only [nar, if_true, if_false]; rfl) | (simp [nar]; done) | (simp [nar]; rfl), N0, e1⟩)
theorem ef_8v (m : MethodId) (oo : Addr) : entryFrame m #[(.ref oo)] 1 = mkF m 0 #[rv oo] [] := by first | (simp [entryFrame, mkF, argsToLocals, Value.category]; done) | rfl
def Q8v (Z : State) (oo : Addr) (vv : Addr) (h0 : Heap) (n0 : Nat) (v : Option Value) (h : Heap) (L : List Loc) : Prop := v = some (.int 1) ∧ Fr n0 L ∧ h = h0
set_option maxRecDepth 65536 in
set_option maxHeartbeats 40000000 in
theorem rm8v (l : Launch) (Z : State) (a0 : Array Value) (hw : ∀ d ∈ tables_1, d.before a0 Z = true) (ws : List Jvm.Cond) (oo : Addr) (vv : Addr) (h0 : Heap) (n0 : Nat) (Z0 : n0 ≤ h0.size) (Fv : Fld Z h0 oo "java/util/Optional" "value" "Ljava/lang/Object;" (.ref vv)) :
    MetFree l (⟨"java/util/Optional", "isPresent", "()Z"⟩ : MethodName) (head1 (Jvm.Cond.code (⟨"java/util/Optional", "isPresent", "()Z"⟩ : MethodName) jdk_32_method_6_code 1 (some .boolean) :: ws) ({ frames := 0, cells := 0, slots := 0, locals := 0 } : Room)) (fun a U => a = #[(.ref oo)] ∧ Z.Warmed39 U.vm ∧ U.heap = h0) (fun _ _ _ _ _ => True) (fun _ U o U' => ∃ v L, o = .returned v ∧ Q8v Z oo vv h0 n0 v U'.heap L ∧ FrameEnd U o U' L ({ frames := 0, cells := 0, slots := 0, locals := 0 } : Room).cells ({ frames := 0, cells := 0, slots := 0, locals := 0 } : Room).slots) := by
  refine MetFree.of_bodySF (plainFor_of_name pn_5) hisR ?_
  intro p e s m args below meth c s₁ Bd hml0 hP hK
  obtain ⟨rfl, hZ, hh⟩ := hP
  have hx := Bd.exec
  have hby := Bd.bytes
  have hml : c.maxLocals = 1 := hml0
  have hown : s.vm.findClass "java/util/Optional" = some m.cls := findClass_of_methodNamed Bd.named
  have hnm := (name_of_methodNamed Bd.named Bd.method).1
  have hlk : meth.locks = false := Bd.notSynchronized
  have hrt := Bd.returns
  have X0 : Stand p l e ({ frames := 0, cells := 0, slots := 0, locals := 0 } : Room) s m #[(.ref oo)] below meth c s₁ [] 0 0 := Stand.of_body Bd
  have e0 : s₁.heap = h0 := by rw [← hh, Bd.state]; rfl
  have N0 := Fr.nil n0
  show own_Endz p.tables e below (own_EndQ s ({ frames := 0, cells := 0, slots := 0, locals := 0 } : Room).cells ({ frames := 0, cells := 0, slots := 0, locals := 0 } : Room).slots (Q8v Z oo vv h0 n0)) (s₁.setTop (entryFrame m #[(.ref oo)] 1))
  refine own_cast (ef_8v m oo) ?_
  refine own_go (b := s₁.setTop (mkF m 1 #[rv oo] [(.ref oo)])) (fun t k => XS.aloadN X0.here hx rfl (hb hby d8_0) rfl rfl k) ?_
  obtain ⟨T1, X1, e1, st1⟩ := getF X0 hx hZ hown (host := "") (Or.inl (hw _ (List.mem_of_getElem? (i := 46) rfl))) Via.refl e0 Fv (g := (mkF m 1 #[rv oo] [(.ref oo)])) rfl rfl (hb hby d8_1)
  refine own_go (b := T1.setTop (mkF m 4 #[rv oo] [(.ref vv)])) st1 ?_
  refine own_go (b := T1.setTop (mkF m 7 #[rv oo] [])) (fun t k => XS.ifnullNo X1.here hx rfl (hb hby d8_4) rfl k) ?_
  refine own_go (b := T1.setTop (mkF m 8 #[rv oo] [(.int 1)])) (fun t k => XS.iconst X1.here hx rfl (hb hby d8_7) k) ?_
  refine own_go (b := T1.setTop (mkF m 12 #[rv oo] [(.int 1)])) (fun t k => XS.goto X1.here hx rfl (pc0 := 8) (pc' := 12) rfl (hb hby d8_8) (by decide) (by decide) k) ?_
  exact own_retN X1 hx hlk (t := .boolean) hrt (by simp) (hb hby d8_12) (Nat.le_of_ble_eq_true rfl) (Nat.le_of_ble_eq_true rfl) (⟨by first | rfl | (simp only [nar, if_true, if_false]; done) | (simp only [nar, if_true, if_false]; rfl) | (simp [nar]; done) | (simp [nar]; rfl), N0, e1⟩)
theorem d33_0 : decode jdk_32_method_5_code 0 = .ok (.aload_n 0, 1) := by decide +kernel
theorem d33_1 : decode jdk_32_method_5_code 1 = .ok (.getfield 13, 3) := by decide +kernel
theorem d33_4 : decode jdk_32_method_5_code 4 = .ok (.ifnonnull 13, 3) := by decide +kernel
theorem d33_7 : decode jdk_32_method_5_code 7 = .ok (.new 26, 3) := by decide +kernel
theorem d33_10 : decode jdk_32_method_5_code 10 = .ok (.dup, 1) := by decide +kernel
theorem d33_11 : decode jdk_32_method_5_code 11 = .ok (.ldc 28, 2) := by decide +kernel
theorem d33_13 : decode jdk_32_method_5_code 13 = .ok (.invokespecial 30, 3) := by decide +kernel
theorem d33_16 : decode jdk_32_method_5_code 16 = .ok (.athrow, 1) := by decide +kernel
theorem d33_17 : decode jdk_32_method_5_code 17 = .ok (.aload_n 0, 1) := by decide +kernel
theorem d33_18 : decode jdk_32_method_5_code 18 = .ok (.getfield 13, 3) := by decide +kernel
theorem d33_21 : decode jdk_32_method_5_code 21 = .ok (.areturn, 1) := by decide +kernel
theorem ef_33 (m : MethodId) (oo : Addr) : entryFrame m #[(.ref oo)] 1 = mkF m 0 #[rv oo] [] := by first | (simp [entryFrame, mkF, argsToLocals, Value.category]; done) | rfl
def Q33 (Z : State) (oo : Addr) (vv : Addr) (h0 : Heap) (n0 : Nat) (v : Option Value) (h : Heap) (L : List Loc) : Prop := v = some (.ref vv) ∧ Fr n0 L ∧ h = h0
set_option maxRecDepth 65536 in
set_option maxHeartbeats 40000000 in
theorem rm33 (l : Launch) (Z : State) (a0 : Array Value) (hw : ∀ d ∈ tables_1, d.before a0 Z = true) (ws : List Jvm.Cond) (oo : Addr) (vv : Addr) (h0 : Heap) (n0 : Nat) (Z0 : n0 ≤ h0.size) (Fv : Fld Z h0 oo "java/util/Optional" "value" "Ljava/lang/Object;" (.ref vv)) :
    MetFree l (⟨"java/util/Optional", "get", "()Ljava/lang/Object;"⟩ : MethodName) (head1 (Jvm.Cond.code (⟨"java/util/Optional", "get", "()Ljava/lang/Object;"⟩ : MethodName) jdk_32_method_5_code 1 (some (.object "java/lang/Object")) :: ws) ({ frames := 0, cells := 0, slots := 0, locals := 0 } : Room)) (fun a U => a = #[(.ref oo)] ∧ Z.Warmed39 U.vm ∧ U.heap = h0) (fun _ _ _ _ _ => True) (fun _ U o U' => ∃ v L, o = .returned v ∧ Q33 Z oo vv h0 n0 v U'.heap L ∧ FrameEnd U o U' L ({ frames := 0, cells := 0, slots := 0, locals := 0 } : Room).cells ({ frames := 0, cells := 0, slots := 0, locals := 0 } : Room).slots) := by
  refine MetFree.of_bodySF (plainFor_of_name pn_5) hisR ?_
  intro p e s m args below meth c s₁ Bd hml0 hP hK
  obtain ⟨rfl, hZ, hh⟩ := hP
  have hx := Bd.exec
  have hby := Bd.bytes
  have hml : c.maxLocals = 1 := hml0
  have hown : s.vm.findClass "java/util/Optional" = some m.cls := findClass_of_methodNamed Bd.named
  have hnm := (name_of_methodNamed Bd.named Bd.method).1
  have hlk : meth.locks = false := Bd.notSynchronized
  have hrt := Bd.returns
  have X0 : Stand p l e ({ frames := 0, cells := 0, slots := 0, locals := 0 } : Room) s m #[(.ref oo)] below meth c s₁ [] 0 0 := Stand.of_body Bd
  have e0 : s₁.heap = h0 := by rw [← hh, Bd.state]; rfl
  have N0 := Fr.nil n0
  show own_Endz p.tables e below (own_EndQ s ({ frames := 0, cells := 0, slots := 0, locals := 0 } : Room).cells ({ frames := 0, cells := 0, slots := 0, locals := 0 } : Room).slots (Q33 Z oo vv h0 n0)) (s₁.setTop (entryFrame m #[(.ref oo)] 1))
  refine own_cast (ef_33 m oo) ?_
  refine own_go (b := s₁.setTop (mkF m 1 #[rv oo] [(.ref oo)])) (fun t k => XS.aloadN X0.here hx rfl (hb hby d33_0) rfl rfl k) ?_
  obtain ⟨T1, X1, e1, st1⟩ := getF X0 hx hZ hown (host := "") (Or.inl (hw _ (List.mem_of_getElem? (i := 46) rfl))) Via.refl e0 Fv (g := (mkF m 1 #[rv oo] [(.ref oo)])) rfl rfl (hb hby d33_1)
  refine own_go (b := T1.setTop (mkF m 4 #[rv oo] [(.ref vv)])) st1 ?_
  refine own_go (b := T1.setTop (mkF m 17 #[rv oo] [])) (fun t k => XS.ifnonnullYes X1.here hx rfl (pc0 := 4) (pc' := 17) rfl (hb hby d33_4) rfl (by decide) (by decide) k) ?_
  refine own_go (b := T1.setTop (mkF m 18 #[rv oo] [(.ref oo)])) (fun t k => XS.aloadN X1.here hx rfl (hb hby d33_17) rfl rfl k) ?_
  obtain ⟨T2, X2, e2, st2⟩ := getF X1 hx hZ hown (host := "") (Or.inl (hw _ (List.mem_of_getElem? (i := 46) rfl))) Via.refl e1 Fv (g := (mkF m 18 #[rv oo] [(.ref oo)])) rfl rfl (hb hby d33_18)
  refine own_go (b := T2.setTop (mkF m 21 #[rv oo] [(.ref vv)])) st2 ?_
  exact own_retA X2 hx hlk hrt rfl rfl (hb hby d33_21) (Nat.le_of_ble_eq_true rfl) (Nat.le_of_ble_eq_true rfl) (⟨by first | rfl | (simp only [if_true, if_true, if_false]; done) | (simp only [if_true, if_true, if_false]; rfl) | (simp []; done) | (simp []; rfl), N0, e2⟩)
theorem d7_0 : decode jdk_32_method_1_code 0 = .ok (.getstatic 1, 3) := by decide +kernel
theorem d7_3 : decode jdk_32_method_1_code 3 = .ok (.astore_n 0, 1) := by decide +kernel
theorem d7_4 : decode jdk_32_method_1_code 4 = .ok (.aload_n 0, 1) := by decide +kernel
theorem d7_5 : decode jdk_32_method_1_code 5 = .ok (.areturn, 1) := by decide +kernel
theorem ef_7 (m : MethodId)  : entryFrame m #[] 1 = mkF m 0 #[.unset] [] := by first | (simp [entryFrame, mkF, argsToLocals, Value.category]; done) | rfl
def Q7 (Z : State) (em : Addr) (h0 : Heap) (n0 : Nat) (v : Option Value) (h : Heap) (L : List Loc) : Prop := v = some (.ref em) ∧ Fr n0 L ∧ h = h0
set_option maxRecDepth 65536 in
set_option maxHeartbeats 40000000 in
theorem rm7 (l : Launch) (Z : State) (a0 : Array Value) (hw : ∀ d ∈ tables_1, d.before a0 Z = true) (ws : List Jvm.Cond) (em : Addr) (h0 : Heap) (n0 : Nat) (Z0 : n0 ≤ h0.size) (Sm : Sta Z h0 "java/util/Optional" "EMPTY" "Ljava/util/Optional;" (.ref em)) :
    MetFree l (⟨"java/util/Optional", "empty", "()Ljava/util/Optional;"⟩ : MethodName) (head1 (Jvm.Cond.code (⟨"java/util/Optional", "empty", "()Ljava/util/Optional;"⟩ : MethodName) jdk_32_method_1_code 1 (some (.object "java/util/Optional")) :: ws) ({ frames := 0, cells := 0, slots := 0, locals := 0 } : Room)) (fun a U => a = #[] ∧ Z.Warmed39 U.vm ∧ U.heap = h0) (fun _ _ _ _ _ => True) (fun _ U o U' => ∃ v L, o = .returned v ∧ Q7 Z em h0 n0 v U'.heap L ∧ FrameEnd U o U' L ({ frames := 0, cells := 0, slots := 0, locals := 0 } : Room).cells ({ frames := 0, cells := 0, slots := 0, locals := 0 } : Room).slots) := by
  refine MetFree.of_bodySF (plainFor_of_name pn_5) hisR ?_
  intro p e s m args below meth c s₁ Bd hml0 hP hK
  obtain ⟨rfl, hZ, hh⟩ := hP
  have hx := Bd.exec
  have hby := Bd.bytes
  have hml : c.maxLocals = 1 := hml0
  have hown : s.vm.findClass "java/util/Optional" = some m.cls := findClass_of_methodNamed Bd.named
  have hnm := (name_of_methodNamed Bd.named Bd.method).1
  have hlk : meth.locks = false := Bd.notSynchronized
  have hrt := Bd.returns
  have X0 : Stand p l e ({ frames := 0, cells := 0, slots := 0, locals := 0 } : Room) s m #[] below meth c s₁ [] 0 0 := Stand.of_body Bd
  have e0 : s₁.heap = h0 := by rw [← hh, Bd.state]; rfl
  have N0 := Fr.nil n0
  show own_Endz p.tables e below (own_EndQ s ({ frames := 0, cells := 0, slots := 0, locals := 0 } : Room).cells ({ frames := 0, cells := 0, slots := 0, locals := 0 } : Room).slots (Q7 Z em h0 n0)) (s₁.setTop (entryFrame m #[] 1))
  refine own_cast (ef_7 m ) ?_
  obtain ⟨T1, X1, e1, st1⟩ := getS2 X0 hx hZ hown (host := "") (Or.inl (hw _ (List.mem_of_getElem? (i := 40) rfl))) Via.refl e0 Sm (g := (mkF m 0 #[.unset] [])) rfl (hb hby d7_0)
  refine own_go (b := T1.setTop (mkF m 3 #[.unset] [(.ref em)])) st1 ?_
  refine own_go (b := T1.setTop (mkF m 4 #[rv em] [])) (fun t k => XS.astoreN X1.here hx rfl (hb hby d7_3) rfl rfl (l' := #[rv em]) rfl k) ?_
  refine own_go (b := T1.setTop (mkF m 5 #[rv em] [(.ref em)])) (fun t k => XS.aloadN X1.here hx rfl (hb hby d7_4) rfl rfl k) ?_
  exact own_retA X1 hx hlk hrt rfl rfl (hb hby d7_5) (Nat.le_of_ble_eq_true rfl) (Nat.le_of_ble_eq_true rfl) (⟨by first | rfl | (simp only [if_true, if_true, if_false]; done) | (simp only [if_true, if_true, if_false]; rfl) | (simp []; done) | (simp []; rfl), N0, e1⟩)
theorem d29_0 : decode jdk_30_method_1_code 0 = .ok (.aload_n 0, 1) := by decide +kernel
theorem d29_1 : decode jdk_30_method_1_code 1 = .ok (.invokespecial 1, 3) := by decide +kernel
theorem d29_4 : decode jdk_30_method_1_code 4 = .ok (.return_, 1) := by decide +kernel
theorem pn_6 : plainName "java/lang/Record" = true := by first | (simp [plainName, overriddenIn]; done) | decide +kernel
theorem ef_29 (m : MethodId) (oo : Addr) : entryFrame m #[(.ref oo)] 1 = mkF m 0 #[rv oo] [] := by first | (simp [entryFrame, mkF, argsToLocals, Value.category]; done) | rfl
def Q29 (Z : State) (oo : Addr) (h0 : Heap) (n0 : Nat) (v : Option Value) (h : Heap) (L : List Loc) : Prop := v = none ∧ Fr n0 L ∧ h = h0
set_option maxRecDepth 65536 in
set_option maxHeartbeats 40000000 in
theorem rm29 (l : Launch) (Z : State) (a0 : Array Value) (hw : ∀ d ∈ tables_1, d.before a0 Z = true) (ws : List Jvm.Cond) (oo : Addr) (h0 : Heap) (n0 : Nat) (Z0 : n0 ≤ h0.size) :
    MetFree l (⟨"java/lang/Record", "<init>", "()V"⟩ : MethodName) (head1 (Jvm.Cond.code (⟨"java/lang/Record", "<init>", "()V"⟩ : MethodName) jdk_30_method_1_code 1 none :: ws) ({ frames := 1, cells := 0, slots := 0, locals := 12 } : Room)) (fun a U => a = #[(.ref oo)] ∧ Z.Warmed39 U.vm ∧ U.heap = h0) (fun _ _ _ _ _ => True) (fun _ U o U' => ∃ v L, o = .returned v ∧ Q29 Z oo h0 n0 v U'.heap L ∧ FrameEnd U o U' L ({ frames := 1, cells := 0, slots := 0, locals := 12 } : Room).cells ({ frames := 1, cells := 0, slots := 0, locals := 12 } : Room).slots) := by
  refine MetFree.of_bodySF (plainFor_of_name pn_6) hisR ?_
  intro p e s m args below meth c s₁ Bd hml0 hP hK
  obtain ⟨rfl, hZ, hh⟩ := hP
  have hx := Bd.exec
  have hby := Bd.bytes
  have hml : c.maxLocals = 1 := hml0
  have hown : s.vm.findClass "java/lang/Record" = some m.cls := findClass_of_methodNamed Bd.named
  have hnm := (name_of_methodNamed Bd.named Bd.method).1
  have hlk : meth.locks = false := Bd.notSynchronized
  have hrt := Bd.returns
  have X0 : Stand p l e ({ frames := 1, cells := 0, slots := 0, locals := 12 } : Room) s m #[(.ref oo)] below meth c s₁ [] 0 0 := Stand.of_body Bd
  have e0 : s₁.heap = h0 := by rw [← hh, Bd.state]; rfl
  have N0 := Fr.nil n0
  show own_Endz p.tables e below (own_EndQ s ({ frames := 1, cells := 0, slots := 0, locals := 12 } : Room).cells ({ frames := 1, cells := 0, slots := 0, locals := 12 } : Room).slots (Q29 Z oo h0 n0)) (s₁.setTop (entryFrame m #[(.ref oo)] 1))
  refine own_cast (ef_29 m oo) ?_
  refine own_go (b := s₁.setTop (mkF m 1 #[rv oo] [(.ref oo)])) (fun t k => XS.aloadN X0.here hx rfl (hb hby d29_0) rfl rfl k) ?_
  obtain ⟨T1, X1, e1, st1⟩ := initO X0 hx hZ hown (hw _ (List.mem_of_getElem? (i := 139) rfl)) (hw _ (List.mem_of_getElem? (i := 14) rfl)) (hw _ (List.mem_of_getElem? (i := 15) rfl)) e0 (g := (mkF m 1 #[rv oo] [(.ref oo)])) rfl (by rw [hml]; rfl) rfl (hb hby d29_1) (by decide) (W := 0) (by show 2 * 0 + _ ≤ _; exact Nat.le_of_eq rfl) (by decide)
  refine own_go (b := T1.setTop (mkF m 4 #[rv oo] [])) st1 ?_
  exact own_retV X1 hx hlk hrt (hb hby d29_4) (Nat.le_of_ble_eq_true rfl) (Nat.le_of_ble_eq_true rfl) (⟨by first | rfl | (simp only [if_true, if_true, if_false]; done) | (simp only [if_true, if_true, if_false]; rfl) | (simp []; done) | (simp []; rfl), N0, e1⟩)
theorem d34_0 : decode prog_14_method_11_code 0 = .ok (.aload_n 0, 1) := by decide +kernel
theorem d34_1 : decode prog_14_method_11_code 1 = .ok (.getfield 20, 3) := by decide +kernel
theorem d34_4 : decode prog_14_method_11_code 4 = .ok (.areturn, 1) := by decide +kernel
theorem ef_34 (m : MethodId) (oo : Addr) : entryFrame m #[(.ref oo)] 1 = mkF m 0 #[rv oo] [] := by first | (simp [entryFrame, mkF, argsToLocals, Value.category]; done) | rfl
def Q34 (Z : State) (oo : Addr) (vv : Addr) (h0 : Heap) (n0 : Nat) (v : Option Value) (h : Heap) (L : List Loc) : Prop := v = some (.ref vv) ∧ Fr n0 L ∧ h = h0
set_option maxRecDepth 65536 in
set_option maxHeartbeats 40000000 in
theorem rm34 (l : Launch) (Z : State) (a0 : Array Value) (hw : ∀ d ∈ tables_1, d.before a0 Z = true) (ws : List Jvm.Cond) (oo : Addr) (vv : Addr) (h0 : Heap) (n0 : Nat) (Z0 : n0 ≤ h0.size) (Fv : Fld Z h0 oo "com/example/fault/fault/TraceId" "value" "Ljava/lang/String;" (.ref vv)) :
    MetFree l (⟨"com/example/fault/fault/TraceId", "value", "()Ljava/lang/String;"⟩ : MethodName) (head1 (Jvm.Cond.code (⟨"com/example/fault/fault/TraceId", "value", "()Ljava/lang/String;"⟩ : MethodName) prog_14_method_11_code 1 (some (.object "java/lang/String")) :: ws) ({ frames := 0, cells := 0, slots := 0, locals := 0 } : Room)) (fun a U => a = #[(.ref oo)] ∧ Z.Warmed39 U.vm ∧ U.heap = h0) (fun _ _ _ _ _ => True) (fun _ U o U' => ∃ v L, o = .returned v ∧ Q34 Z oo vv h0 n0 v U'.heap L ∧ FrameEnd U o U' L ({ frames := 0, cells := 0, slots := 0, locals := 0 } : Room).cells ({ frames := 0, cells := 0, slots := 0, locals := 0 } : Room).slots) := by
  refine MetFree.of_bodySF (plainFor_of_name pn_3) hisR ?_
  intro p e s m args below meth c s₁ Bd hml0 hP hK
  obtain ⟨rfl, hZ, hh⟩ := hP
  have hx := Bd.exec
  have hby := Bd.bytes
  have hml : c.maxLocals = 1 := hml0
  have hown : s.vm.findClass "com/example/fault/fault/TraceId" = some m.cls := findClass_of_methodNamed Bd.named
  have hnm := (name_of_methodNamed Bd.named Bd.method).1
  have hlk : meth.locks = false := Bd.notSynchronized
  have hrt := Bd.returns
  have X0 : Stand p l e ({ frames := 0, cells := 0, slots := 0, locals := 0 } : Room) s m #[(.ref oo)] below meth c s₁ [] 0 0 := Stand.of_body Bd
  have e0 : s₁.heap = h0 := by rw [← hh, Bd.state]; rfl
  have N0 := Fr.nil n0
  show own_Endz p.tables e below (own_EndQ s ({ frames := 0, cells := 0, slots := 0, locals := 0 } : Room).cells ({ frames := 0, cells := 0, slots := 0, locals := 0 } : Room).slots (Q34 Z oo vv h0 n0)) (s₁.setTop (entryFrame m #[(.ref oo)] 1))
  refine own_cast (ef_34 m oo) ?_
  refine own_go (b := s₁.setTop (mkF m 1 #[rv oo] [(.ref oo)])) (fun t k => XS.aloadN X0.here hx rfl (hb hby d34_0) rfl rfl k) ?_
  obtain ⟨T1, X1, e1, st1⟩ := getF X0 hx hZ hown (host := "") (Or.inl (hw _ (List.mem_of_getElem? (i := 140) rfl))) Via.refl e0 Fv (g := (mkF m 1 #[rv oo] [(.ref oo)])) rfl rfl (hb hby d34_1)
  refine own_go (b := T1.setTop (mkF m 4 #[rv oo] [(.ref vv)])) st1 ?_
  exact own_retA X1 hx hlk hrt rfl rfl (hb hby d34_4) (Nat.le_of_ble_eq_true rfl) (Nat.le_of_ble_eq_true rfl) (⟨by first | rfl | (simp only [if_true, if_true, if_false]; done) | (simp only [if_true, if_true, if_false]; rfl) | (simp []; done) | (simp []; rfl), N0, e1⟩)
theorem d35_0 : decode jdk_42_method_66_code 0 = .ok (.aload_n 0, 1) := by decide +kernel
theorem d35_1 : decode jdk_42_method_66_code 1 = .ok (.aload_n 1, 1) := by decide +kernel
theorem d35_2 : decode jdk_42_method_66_code 2 = .ok (.if_acmp .ne 5, 3) := by decide +kernel
theorem d35_5 : decode jdk_42_method_66_code 5 = .ok (.iconst 1, 1) := by decide +kernel
theorem d35_6 : decode jdk_42_method_66_code 6 = .ok (.ireturn, 1) := by decide +kernel
theorem d35_7 : decode jdk_42_method_66_code 7 = .ok (.aload_n 1, 1) := by decide +kernel
theorem d35_8 : decode jdk_42_method_66_code 8 = .ok (.instanceof 10, 3) := by decide +kernel
theorem d35_11 : decode jdk_42_method_66_code 11 = .ok (.ifCond .eq 43, 3) := by decide +kernel
theorem d35_14 : decode jdk_42_method_66_code 14 = .ok (.aload_n 1, 1) := by decide +kernel
theorem d35_15 : decode jdk_42_method_66_code 15 = .ok (.checkcast 10, 3) := by decide +kernel
theorem d35_18 : decode jdk_42_method_66_code 18 = .ok (.astore_n 2, 1) := by decide +kernel
theorem d35_19 : decode jdk_42_method_66_code 19 = .ok (.getstatic 38, 3) := by decide +kernel
theorem d35_22 : decode jdk_42_method_66_code 22 = .ok (.ifCond .eq 14, 3) := by decide +kernel
theorem d35_25 : decode jdk_42_method_66_code 25 = .ok (.aload_n 0, 1) := by decide +kernel
theorem d35_26 : decode jdk_42_method_66_code 26 = .ok (.getfield 15, 3) := by decide +kernel
theorem d35_29 : decode jdk_42_method_66_code 29 = .ok (.aload_n 2, 1) := by decide +kernel
theorem d35_30 : decode jdk_42_method_66_code 30 = .ok (.getfield 15, 3) := by decide +kernel
theorem d35_33 : decode jdk_42_method_66_code 33 = .ok (.if_icmp .ne 21, 3) := by decide +kernel
theorem d35_36 : decode jdk_42_method_66_code 36 = .ok (.aload_n 0, 1) := by decide +kernel
theorem d35_37 : decode jdk_42_method_66_code 37 = .ok (.getfield 9, 3) := by decide +kernel
theorem d35_40 : decode jdk_42_method_66_code 40 = .ok (.aload_n 2, 1) := by decide +kernel
theorem d35_41 : decode jdk_42_method_66_code 41 = .ok (.getfield 9, 3) := by decide +kernel
theorem d35_44 : decode jdk_42_method_66_code 44 = .ok (.invokestatic 541, 3) := by decide +kernel
theorem d35_47 : decode jdk_42_method_66_code 47 = .ok (.ifCond .eq 7, 3) := by decide +kernel
theorem d35_50 : decode jdk_42_method_66_code 50 = .ok (.iconst 1, 1) := by decide +kernel
theorem d35_51 : decode jdk_42_method_66_code 51 = .ok (.goto 4, 3) := by decide +kernel
theorem d35_54 : decode jdk_42_method_66_code 54 = .ok (.iconst 0, 1) := by decide +kernel
theorem d35_55 : decode jdk_42_method_66_code 55 = .ok (.ireturn, 1) := by decide +kernel
theorem ef_35 (m : MethodId) (xs : Addr) (ys : Addr) : entryFrame m #[(.ref xs), (.ref ys)] 3 = mkF m 0 #[rv xs, rv ys, .unset] [] := by first | (simp [entryFrame, mkF, argsToLocals, Value.category]; done) | rfl
def Q35 (Z : State) (xs : Addr) (ys : Addr) (h0 : Heap) (n0 : Nat) (v : Option Value) (h : Heap) (L : List Loc) : Prop := v = some (.int 1) ∧ Fr n0 L ∧ h = h0
set_option maxRecDepth 65536 in
set_option maxHeartbeats 40000000 in
theorem rm35 (l : Launch) (Z : State) (a0 : Array Value) (hw : ∀ d ∈ tables_1, d.before a0 Z = true) (ws : List Jvm.Cond) (xs : Addr) (ys : Addr) (h0 : Heap) (n0 : Nat) (Z0 : n0 ≤ h0.size) (hxy : xs = ys) :
    MetFree l (⟨"java/lang/String", "equals", "(Ljava/lang/Object;)Z"⟩ : MethodName) (head1 (Jvm.Cond.code (⟨"java/lang/String", "equals", "(Ljava/lang/Object;)Z"⟩ : MethodName) jdk_42_method_66_code 3 (some .boolean) :: ws) ({ frames := 0, cells := 0, slots := 0, locals := 0 } : Room)) (fun a U => a = #[(.ref xs), (.ref ys)] ∧ Z.Warmed39 U.vm ∧ U.heap = h0) (fun _ _ _ _ _ => True) (fun _ U o U' => ∃ v L, o = .returned v ∧ Q35 Z xs ys h0 n0 v U'.heap L ∧ FrameEnd U o U' L ({ frames := 0, cells := 0, slots := 0, locals := 0 } : Room).cells ({ frames := 0, cells := 0, slots := 0, locals := 0 } : Room).slots) := by
  refine MetFree.of_bodySF (plainFor_of_name pn_2) hisR ?_
  intro p e s m args below meth c s₁ Bd hml0 hP hK
  obtain ⟨rfl, hZ, hh⟩ := hP
  have hx := Bd.exec
  have hby := Bd.bytes
  have hml : c.maxLocals = 3 := hml0
  have hown : s.vm.findClass "java/lang/String" = some m.cls := findClass_of_methodNamed Bd.named
  have hnm := (name_of_methodNamed Bd.named Bd.method).1
  have hlk : meth.locks = false := Bd.notSynchronized
  have hrt := Bd.returns
  have X0 : Stand p l e ({ frames := 0, cells := 0, slots := 0, locals := 0 } : Room) s m #[(.ref xs), (.ref ys)] below meth c s₁ [] 0 0 := Stand.of_body Bd
  have e0 : s₁.heap = h0 := by rw [← hh, Bd.state]; rfl
  have N0 := Fr.nil n0
  show own_Endz p.tables e below (own_EndQ s ({ frames := 0, cells := 0, slots := 0, locals := 0 } : Room).cells ({ frames := 0, cells := 0, slots := 0, locals := 0 } : Room).slots (Q35 Z xs ys h0 n0)) (s₁.setTop (entryFrame m #[(.ref xs), (.ref ys)] 3))
  refine own_cast (ef_35 m xs ys) ?_
  refine own_go (b := s₁.setTop (mkF m 1 #[rv xs, rv ys, .unset] [(.ref xs)])) (fun t k => XS.aloadN X0.here hx rfl (hb hby d35_0) rfl rfl k) ?_
  refine own_go (b := s₁.setTop (mkF m 2 #[rv xs, rv ys, .unset] [(.ref ys), (.ref xs)])) (fun t k => XS.aloadN X0.here hx rfl (hb hby d35_1) rfl rfl k) ?_
  refine own_go (b := s₁.setTop (mkF m 5 #[rv xs, rv ys, .unset] [])) (fun t k => Jvm.RoadKit.acmp (g := (mkF m 2 #[rv xs, rv ys, .unset] [(.ref ys), (.ref xs)])) X0 hx rfl rfl rfl (pc0 := 2) (pc' := 5) (same := true) rfl (hb hby d35_2) rfl (decide_eq_true (congrArg Value.ref hxy)) (by decide) (by decide) k) ?_
  refine own_go (b := s₁.setTop (mkF m 6 #[rv xs, rv ys, .unset] [(.int 1)])) (fun t k => XS.iconst X0.here hx rfl (hb hby d35_5) k) ?_
  exact own_retN X0 hx hlk (t := .boolean) hrt (by simp) (hb hby d35_6) (Nat.le_of_ble_eq_true rfl) (Nat.le_of_ble_eq_true rfl) (⟨by first | rfl | (simp only [nar, if_true, if_false]; done) | (simp only [nar, if_true, if_false]; rfl) | (simp [nar]; done) | (simp [nar]; rfl), N0, e0⟩)
theorem d28_0 : decode prog_14_method_1_code 0 = .ok (.aload_n 0, 1) := by decide +kernel
theorem d28_1 : decode prog_14_method_1_code 1 = .ok (.invokespecial 1, 3) := by decide +kernel
theorem d28_4 : decode prog_14_method_1_code 4 = .ok (.aload_n 1, 1) := by decide +kernel
theorem d28_5 : decode prog_14_method_1_code 5 = .ok (.invokestatic 7, 3) := by decide +kernel
theorem d28_8 : decode prog_14_method_1_code 8 = .ok (.ifCond .ne 13, 3) := by decide +kernel
theorem d28_11 : decode prog_14_method_1_code 11 = .ok (.new 13, 3) := by decide +kernel
theorem d28_14 : decode prog_14_method_1_code 14 = .ok (.dup, 1) := by decide +kernel
theorem d28_15 : decode prog_14_method_1_code 15 = .ok (.ldc 15, 2) := by decide +kernel
theorem d28_17 : decode prog_14_method_1_code 17 = .ok (.invokespecial 17, 3) := by decide +kernel
theorem d28_20 : decode prog_14_method_1_code 20 = .ok (.athrow, 1) := by decide +kernel
theorem d28_21 : decode prog_14_method_1_code 21 = .ok (.aload_n 0, 1) := by decide +kernel
theorem d28_22 : decode prog_14_method_1_code 22 = .ok (.aload_n 1, 1) := by decide +kernel
theorem d28_23 : decode prog_14_method_1_code 23 = .ok (.putfield 20, 3) := by decide +kernel
theorem d28_26 : decode prog_14_method_1_code 26 = .ok (.return_, 1) := by decide +kernel
theorem pd_18 : parseMethodDescriptor "(Ljava/lang/String;)Z" = some ⟨[(.object "java/lang/String")], some .boolean⟩ := by decide +kernel
theorem ef_28 (m : MethodId) (tt : Addr) (xs : Addr) : entryFrame m #[(.ref tt), (.ref xs)] 2 = mkF m 0 #[rv tt, rv xs] [] := by first | (simp [entryFrame, mkF, argsToLocals, Value.category]; done) | rfl
def Q28 (Z : State) (tt : Addr) (xs : Addr) (cs : List Int32) (G1 : Int32) (fm : Value) (al : Addr) (cA : Cell) (h0 : Heap) (n0 : Nat) (v : Option Value) (h : Heap) (L : List Loc) : Prop := v = none ∧ Fr n0 L ∧ Keep h0 h [tt] ∧ Exa Z h tt "com/example/fault/fault/TraceId" ∧ Fld Z h tt "com/example/fault/fault/TraceId" "value" "Ljava/lang/String;" (.ref xs)
set_option maxRecDepth 65536 in
set_option maxHeartbeats 40000000 in
theorem rm28 (l : Launch) (Z : State) (a0 : Array Value) (hw : ∀ d ∈ tables_1, d.before a0 Z = true) (ws : List Jvm.Cond) (tt : Addr) (xs : Addr) (cs : List Int32) (G1 : Int32) (fm : Value) (al : Addr) (cA : Cell) (h0 : Heap) (n0 : Nat) (Z0 : n0 ≤ h0.size) (Od : Old Z n0 h0) (hwf : own_wf cs) (Sx : own_Sx Z h0 xs cs) (O2 : Sta Z Z.heap "java/lang/String" "COMPACT_STRINGS" "Z" (.int G1)) (P5 : ¬ (G1 = (0 : Int32))) (Sf : Sta Z Z.heap "jdk/internal/util/Preconditions" "SIOOBE_FORMATTER" "Ljava/util/function/BiFunction;" fm) (rf : fm.isRef = true) (Sad : Sta Z Z.heap "java/lang/StringUTF16" "$assertionsDisabled" "Z" (.int 1)) (Shi : Sta Z Z.heap "java/lang/StringUTF16" "HI_BYTE_SHIFT" "I" (.int 0)) (Slo : Sta Z Z.heap "java/lang/StringUTF16" "LO_BYTE_SHIFT" "I" (.int 8)) (Sal : Sta Z Z.heap "com/example/fault/fault/TraceId" "ALLOWED" "[Z" (.ref al)) (Aal : Jvm.RoadKit.Arr Z Z.heap al cA .boolean) (Szl : cA.slots.size = 128) (Tbl : ∀ k, k < 128 → cA.slots[k]? = some (.int (own_ok01 k.toInt32))) (Ex : Exa Z h0 tt "com/example/fault/fault/TraceId") (F1 : Fld Z h0 tt "com/example/fault/fault/TraceId" "value" "Ljava/lang/String;" .null) (gt : n0 ≤ tt) :
    MetFree l (⟨"com/example/fault/fault/TraceId", "<init>", "(Ljava/lang/String;)V"⟩ : MethodName) (head1 (Jvm.Cond.code (⟨"com/example/fault/fault/TraceId", "<init>", "(Ljava/lang/String;)V"⟩ : MethodName) prog_14_method_1_code 2 none :: ws) ({ frames := 6, cells := 0, slots := 0, locals := 80 } : Room)) (fun a U => a = #[(.ref tt), (.ref xs)] ∧ Z.Warmed39 U.vm ∧ U.heap = h0) (fun _ _ _ _ _ => True) (fun _ U o U' => ∃ v L, o = .returned v ∧ Q28 Z tt xs cs G1 fm al cA h0 n0 v U'.heap L ∧ FrameEnd U o U' L ({ frames := 6, cells := 0, slots := 0, locals := 80 } : Room).cells ({ frames := 6, cells := 0, slots := 0, locals := 80 } : Room).slots) := by
  refine MetFree.of_bodySF (plainFor_of_name pn_3) hisR ?_
  intro p e s m args below meth c s₁ Bd hml0 hP hK
  obtain ⟨rfl, hZ, hh⟩ := hP
  have hx := Bd.exec
  have hby := Bd.bytes
  have hml : c.maxLocals = 2 := hml0
  have hown : s.vm.findClass "com/example/fault/fault/TraceId" = some m.cls := findClass_of_methodNamed Bd.named
  have hnm := (name_of_methodNamed Bd.named Bd.method).1
  have hlk : meth.locks = false := Bd.notSynchronized
  have hrt := Bd.returns
  have X0 : Stand p l e ({ frames := 6, cells := 0, slots := 0, locals := 80 } : Room) s m #[(.ref tt), (.ref xs)] below meth c s₁ [] 0 0 := Stand.of_body Bd
  have e0 : s₁.heap = h0 := by rw [← hh, Bd.state]; rfl
  have N0 := Fr.nil n0
  show own_Endz p.tables e below (own_EndQ s ({ frames := 6, cells := 0, slots := 0, locals := 80 } : Room).cells ({ frames := 6, cells := 0, slots := 0, locals := 80 } : Room).slots (Q28 Z tt xs cs G1 fm al cA h0 n0)) (s₁.setTop (entryFrame m #[(.ref tt), (.ref xs)] 2))
  refine own_cast (ef_28 m tt xs) ?_
  refine own_go (b := s₁.setTop (mkF m 1 #[rv tt, rv xs] [(.ref tt)])) (fun t k => XS.aloadN X0.here hx rfl (hb hby d28_0) rfl rfl k) ?_
  obtain ⟨_, _, ⟨T1, L1, k1, n1⟩, -, X1, ⟨Lc1, hQ1, l1, y1, z1⟩, st1⟩ := X0.specialBack hx (y := (⟨"java/lang/Record", "<init>", "()V"⟩ : MethodName)) rfl hown (mvT hZ (hw _ (List.mem_of_getElem? (i := 134) rfl))) (mvT hZ (hw _ (List.mem_of_getElem? (i := 135) rfl))) (mvT hZ (hw _ (List.mem_of_getElem? (i := 138) rfl))) (by decide) (backOf (W := 0) (rm29 l Z a0 hw [] tt  h0 n0 Z0 ) hZ (hw _ (List.mem_of_getElem? (i := 138) rfl)) (hw _ (List.mem_of_getElem? (i := 137) rfl)) (by decide) (by decide)) (g := (mkF m 1 #[rv tt, rv xs] [(.ref tt)])) rfl (by rw [hml]; rfl) (Steps.refl _) (a := tt) (argsL := []) (rest := []) (lenOf pd_11 rfl) rfl (by show 2 * 0 + _ ≤ _; exact Nat.le_of_eq rfl) (hb hby d28_1) (fun _ _ => ⟨rfl, e0, (by decide : 0 + 0 ≤ _), (by decide : 0 + 0 ≤ _)⟩)
  dsimp only [Pt.U, Pt.locs, Pt.cells, Pt.slots] at X1 l1 y1 z1 st1 hQ1
  subst l1 y1 z1
  obtain ⟨rfl, N1q, e1⟩ := hQ1
  have N1 := Fr.app N0 N1q
  obtain ⟨lq1, X1, N1⟩ : ∃ lq, Stand p l e ({ frames := 6, cells := 0, slots := 0, locals := 80 } : Room) s m #[(.ref tt), (.ref xs)] below meth c T1 lq 0 0 ∧ Fr n0 lq := ⟨_, X1, N1⟩
  refine own_tr (b := T1.setTop (mkF m 4 #[rv tt, rv xs] [])) st1 ?_
  refine own_go (b := T1.setTop (mkF m 5 #[rv tt, rv xs] [(.ref xs)])) (fun t k => XS.aloadN X1.here hx rfl (hb hby d28_4) rfl rfl k) ?_
  obtain ⟨_, _, ⟨T2, L2, k2, n2⟩, -, X2, ⟨Lc2, hQ2, l2, y2, z2⟩, st2⟩ := Jvm.LawKit.callS X1 hx (y := (⟨"com/example/fault/fault/TraceId", "isWellFormed", "(Ljava/lang/String;)Z"⟩ : MethodName)) hown (mvT hZ (hw _ (List.mem_of_getElem? (i := 28) rfl))) (mvT hZ (hw _ (List.mem_of_getElem? (i := 29) rfl))) (mvT hZ (hw _ (List.mem_of_getElem? (i := 26) rfl))) (mvT hZ (hw _ (List.mem_of_getElem? (i := 30) rfl))) (by decide) (backOf (W := 0) (rm5 l Z a0 hw [] xs cs G1 fm al cA h0 n0 Z0 Sx (O2.ext Od.2) P5 (Sf.ext Od.2) rf (Sad.ext Od.2) (Shi.ext Od.2) (Slo.ext Od.2) (Sal.ext Od.2) (Aal.ext Od.2) Szl Tbl) hZ (hw _ (List.mem_of_getElem? (i := 30) rfl)) (hw _ (List.mem_of_getElem? (i := 26) rfl)) (by decide) (by decide)) (g := (mkF m 5 #[rv tt, rv xs] [(.ref xs)])) rfl (by rw [hml]; rfl) (argsL := [(.ref xs)]) (rest := []) (lenOf pd_18 rfl) rfl (by show 2 * 0 + _ ≤ _; exact Nat.le_of_eq rfl) (hb hby d28_5) (fun _ _ => ⟨rfl, e1, (by decide : 0 + 0 ≤ _), (by decide : 0 + 0 ≤ _)⟩)
  dsimp only [Pt.U, Pt.locs, Pt.cells, Pt.slots] at X2 l2 y2 z2 st2 hQ2
  subst l2 y2 z2
  obtain ⟨rfl, N2q, e2⟩ := hQ2
  have N2 := Fr.app N1 N2q
  obtain ⟨lq2, X2, N2⟩ : ∃ lq, Stand p l e ({ frames := 6, cells := 0, slots := 0, locals := 80 } : Room) s m #[(.ref tt), (.ref xs)] below meth c T2 lq 0 0 ∧ Fr n0 lq := ⟨_, X2, N2⟩
  refine own_go (b := T2.setTop (mkF m 8 #[rv tt, rv xs] [(.int (if own_wf cs then 1 else 0))])) st2 ?_
  rw [if_pos hwf]
  refine own_go (b := T2.setTop (mkF m 21 #[rv tt, rv xs] [])) (fun t k => XS.ifYes X2.here hx rfl (pc0 := 8) (pc' := 21) rfl (hb hby d28_8) rfl ((if0 _ _).trans (feq (by decide : ¬ ((1 : Int32) = (0 : Int32)))).2) (by decide) (by decide) k) ?_
  refine own_go (b := T2.setTop (mkF m 22 #[rv tt, rv xs] [(.ref tt)])) (fun t k => XS.aloadN X2.here hx rfl (hb hby d28_21) rfl rfl k) ?_
  refine own_go (b := T2.setTop (mkF m 23 #[rv tt, rv xs] [(.ref xs), (.ref tt)])) (fun t k => XS.aloadN X2.here hx rfl (hb hby d28_22) rfl rfl k) ?_
  obtain ⟨T3, h3, X3, e3, W3, st3⟩ := putF X2 hx hZ hown (host := "") (Or.inl (hw _ (List.mem_of_getElem? (i := 140) rfl))) Via.refl e2 F1 Ex (Or.inr ⟨(hw _ (List.mem_of_getElem? (i := 141) rfl)), rfl, hnm⟩) (hw _ (List.mem_of_getElem? (i := 130) rfl)) (ty := (.object "java/lang/String")) (by decide) rfl rfl (g := (mkF m 23 #[rv tt, rv xs] [(.ref xs), (.ref tt)])) rfl rfl (hb hby d28_23)
  have Fw3 : Fld Z h3 tt "com/example/fault/fault/TraceId" "value" "Ljava/lang/String;" (.ref xs) := Fld.same W3 F1
  have Zs3 : n0 ≤ h3.size := Nat.le_trans Z0 (Keep.of_wr W3).1
  have N3 := Fr.snoc X3 N2 gt
  have Kp3 : Keep h0 h3 [tt] := (Keep.refl h0 [tt]).wr W3 (Or.inl (List.mem_of_getElem? (i := 0) rfl))
  have Ol3 := Od.wr W3 gt
  refine own_go (b := T3.setTop (mkF m 26 #[rv tt, rv xs] [])) st3 ?_
  exact own_retV X3 hx hlk hrt (hb hby d28_26) (Nat.le_of_ble_eq_true rfl) (Nat.le_of_ble_eq_true rfl) (⟨rfl, N3, by rw [e3]; exact Kp3, by rw [e3]; exact (Ex.wr W3), by rw [e3]; exact Fw3⟩)
theorem d4_0 : decode prog_14_method_4_code 0 = .ok (.aload_n 0, 1) := by decide +kernel
theorem d4_1 : decode prog_14_method_4_code 1 = .ok (.invokestatic 7, 3) := by decide +kernel
theorem d4_4 : decode prog_14_method_4_code 4 = .ok (.ifCond .eq 17, 3) := by decide +kernel
theorem d4_7 : decode prog_14_method_4_code 7 = .ok (.new 8, 3) := by decide +kernel
theorem d4_10 : decode prog_14_method_4_code 10 = .ok (.dup, 1) := by decide +kernel
theorem d4_11 : decode prog_14_method_4_code 11 = .ok (.aload_n 0, 1) := by decide +kernel
theorem d4_12 : decode prog_14_method_4_code 12 = .ok (.invokespecial 24, 3) := by decide +kernel
theorem d4_15 : decode prog_14_method_4_code 15 = .ok (.invokestatic 33, 3) := by decide +kernel
theorem d4_18 : decode prog_14_method_4_code 18 = .ok (.goto 6, 3) := by decide +kernel
theorem d4_21 : decode prog_14_method_4_code 21 = .ok (.invokestatic 39, 3) := by decide +kernel
theorem d4_24 : decode prog_14_method_4_code 24 = .ok (.areturn, 1) := by decide +kernel
theorem pd_19 : parseMethodDescriptor "(Ljava/lang/String;)V" = some ⟨[(.object "java/lang/String")], none⟩ := by decide +kernel
theorem pd_20 : parseMethodDescriptor "(Ljava/lang/Object;)Ljava/util/Optional;" = some ⟨[(.object "java/lang/Object")], some (.object "java/util/Optional")⟩ := by decide +kernel
theorem ef_4y (m : MethodId) (xs : Addr) : entryFrame m #[(.ref xs)] 1 = mkF m 0 #[rv xs] [] := by first | (simp [entryFrame, mkF, argsToLocals, Value.category]; done) | rfl
def Q4y (Z : State) (xs : Addr) (cs : List Int32) (G1 : Int32) (fm : Value) (al : Addr) (cA : Cell) (h0 : Heap) (n0 : Nat) (v : Option Value) (h : Heap) (L : List Loc) : Prop := ∃ r tr, v = some (.ref r) ∧ Fr n0 L ∧ Keep h0 h [] ∧ Exa Z h r "java/util/Optional" ∧ Fld Z h r "java/util/Optional" "value" "Ljava/lang/Object;" (.ref tr) ∧ Exa Z h tr "com/example/fault/fault/TraceId" ∧ Fld Z h tr "com/example/fault/fault/TraceId" "value" "Ljava/lang/String;" (.ref xs)
set_option maxRecDepth 65536 in
set_option maxHeartbeats 40000000 in
theorem rm4y (l : Launch) (Z : State) (a0 : Array Value) (hw : ∀ d ∈ tables_1, d.before a0 Z = true) (ws : List Jvm.Cond) (xs : Addr) (cs : List Int32) (G1 : Int32) (fm : Value) (al : Addr) (cA : Cell) (h0 : Heap) (n0 : Nat) (Z0 : n0 ≤ h0.size) (Od : Old Z n0 h0) (hwf : own_wf cs) (Sx : own_Sx Z h0 xs cs) (O2 : Sta Z Z.heap "java/lang/String" "COMPACT_STRINGS" "Z" (.int G1)) (P5 : ¬ (G1 = (0 : Int32))) (Sf : Sta Z Z.heap "jdk/internal/util/Preconditions" "SIOOBE_FORMATTER" "Ljava/util/function/BiFunction;" fm) (rf : fm.isRef = true) (Sad : Sta Z Z.heap "java/lang/StringUTF16" "$assertionsDisabled" "Z" (.int 1)) (Shi : Sta Z Z.heap "java/lang/StringUTF16" "HI_BYTE_SHIFT" "I" (.int 0)) (Slo : Sta Z Z.heap "java/lang/StringUTF16" "LO_BYTE_SHIFT" "I" (.int 8)) (Sal : Sta Z Z.heap "com/example/fault/fault/TraceId" "ALLOWED" "[Z" (.ref al)) (Aal : Jvm.RoadKit.Arr Z Z.heap al cA .boolean) (Szl : cA.slots.size = 128) (Tbl : ∀ k, k < 128 → cA.slots[k]? = some (.int (own_ok01 k.toInt32))) :
    MetFree l (⟨"com/example/fault/fault/TraceId", "parse", "(Ljava/lang/String;)Ljava/util/Optional;"⟩ : MethodName) (head1 (Jvm.Cond.code (⟨"com/example/fault/fault/TraceId", "parse", "(Ljava/lang/String;)Ljava/util/Optional;"⟩ : MethodName) prog_14_method_4_code 1 (some (.object "java/util/Optional")) :: ws) ({ frames := 7, cells := 2, slots := 2, locals := 94 } : Room)) (fun a U => a = #[(.ref xs)] ∧ Z.Warmed39 U.vm ∧ U.heap = h0) (fun _ _ _ _ _ => True) (fun _ U o U' => ∃ v L, o = .returned v ∧ Q4y Z xs cs G1 fm al cA h0 n0 v U'.heap L ∧ FrameEnd U o U' L ({ frames := 7, cells := 2, slots := 2, locals := 94 } : Room).cells ({ frames := 7, cells := 2, slots := 2, locals := 94 } : Room).slots) := by
  refine MetFree.of_bodySF (plainFor_of_name pn_3) hisR ?_
  intro p e s m args below meth c s₁ Bd hml0 hP hK
  obtain ⟨rfl, hZ, hh⟩ := hP
  have hx := Bd.exec
  have hby := Bd.bytes
  have hml : c.maxLocals = 1 := hml0
  have hown : s.vm.findClass "com/example/fault/fault/TraceId" = some m.cls := findClass_of_methodNamed Bd.named
  have hnm := (name_of_methodNamed Bd.named Bd.method).1
  have hlk : meth.locks = false := Bd.notSynchronized
  have hrt := Bd.returns
  have X0 : Stand p l e ({ frames := 7, cells := 2, slots := 2, locals := 94 } : Room) s m #[(.ref xs)] below meth c s₁ [] 0 0 := Stand.of_body Bd
  have e0 : s₁.heap = h0 := by rw [← hh, Bd.state]; rfl
  have N0 := Fr.nil n0
  show own_Endz p.tables e below (own_EndQ s ({ frames := 7, cells := 2, slots := 2, locals := 94 } : Room).cells ({ frames := 7, cells := 2, slots := 2, locals := 94 } : Room).slots (Q4y Z xs cs G1 fm al cA h0 n0)) (s₁.setTop (entryFrame m #[(.ref xs)] 1))
  refine own_cast (ef_4y m xs) ?_
  refine own_go (b := s₁.setTop (mkF m 1 #[rv xs] [(.ref xs)])) (fun t k => XS.aloadN X0.here hx rfl (hb hby d4_0) rfl rfl k) ?_
  obtain ⟨_, _, ⟨T1, L1, k1, n1⟩, -, X1, ⟨Lc1, hQ1, l1, y1, z1⟩, st1⟩ := Jvm.LawKit.callS X0 hx (y := (⟨"com/example/fault/fault/TraceId", "isWellFormed", "(Ljava/lang/String;)Z"⟩ : MethodName)) hown (mvT hZ (hw _ (List.mem_of_getElem? (i := 28) rfl))) (mvT hZ (hw _ (List.mem_of_getElem? (i := 29) rfl))) (mvT hZ (hw _ (List.mem_of_getElem? (i := 26) rfl))) (mvT hZ (hw _ (List.mem_of_getElem? (i := 30) rfl))) (by decide) (backOf (W := 0) (rm5 l Z a0 hw [] xs cs G1 fm al cA h0 n0 Z0 Sx (O2.ext Od.2) P5 (Sf.ext Od.2) rf (Sad.ext Od.2) (Shi.ext Od.2) (Slo.ext Od.2) (Sal.ext Od.2) (Aal.ext Od.2) Szl Tbl) hZ (hw _ (List.mem_of_getElem? (i := 30) rfl)) (hw _ (List.mem_of_getElem? (i := 26) rfl)) (by decide) (by decide)) (g := (mkF m 1 #[rv xs] [(.ref xs)])) rfl (by rw [hml]; rfl) (argsL := [(.ref xs)]) (rest := []) (lenOf pd_18 rfl) rfl (by show 2 * 0 + _ ≤ _; exact Nat.le_of_eq rfl) (hb hby d4_1) (fun _ _ => ⟨rfl, e0, (by decide : 0 + 0 ≤ _), (by decide : 0 + 0 ≤ _)⟩)
  dsimp only [Pt.U, Pt.locs, Pt.cells, Pt.slots] at X1 l1 y1 z1 st1 hQ1
  subst l1 y1 z1
  obtain ⟨rfl, N1q, e1⟩ := hQ1
  have N1 := Fr.app N0 N1q
  obtain ⟨lq1, X1, N1⟩ : ∃ lq, Stand p l e ({ frames := 7, cells := 2, slots := 2, locals := 94 } : Room) s m #[(.ref xs)] below meth c T1 lq 0 0 ∧ Fr n0 lq := ⟨_, X1, N1⟩
  refine own_go (b := T1.setTop (mkF m 4 #[rv xs] [(.int (if own_wf cs then 1 else 0))])) st1 ?_
  rw [if_pos hwf]
  refine own_go (b := T1.setTop (mkF m 7 #[rv xs] [])) (fun t k => XS.ifNo X1.here hx rfl (hb hby d4_4) rfl ((if0 _ _).trans (feq (by decide : ¬ ((1 : Int32) = (0 : Int32)))).1) k) ?_
  obtain ⟨T2, h2, X2, e2, E2, A2, D2, -, st2⟩ := newO X1 hx hZ hown (hw _ (List.mem_of_getElem? (i := 129) rfl)) (hw _ (List.mem_of_getElem? (i := 130) rfl)) (hw _ (List.mem_of_getElem? (i := 26) rfl)) e1 (g := (mkF m 7 #[rv xs] [])) rfl (hb hby d4_7) (by decide) (by decide)
  obtain ⟨b2, g2⟩ : ∃ z, z = h0.size := ⟨_, rfl⟩
  rw [← g2] at A2 D2 st2
  have g_b2 : n0 ≤ b2 := Nat.le_trans Z0 (Nat.le_of_eq g2.symm)
  have sz_b2 : h0.size ≤ b2 := Nat.le_trans (Keep.refl h0 []).1 (Nat.le_of_eq g2.symm)
  have Zs2 : n0 ≤ h2.size := Nat.le_trans Z0 E2.1
  have Kp2 : Keep h0 h2 [] := (Keep.refl h0 []).ext E2
  have Ol2 := Od.ext E2
  have F_value_b2 : Fld Z h2 b2 "com/example/fault/fault/TraceId" "value" "Ljava/lang/String;" .null := D2 (Or.inr (hw _ (List.mem_of_getElem? (i := 141) rfl))) (ty := (.object "java/lang/String")) (by decide)
  refine own_go (b := T2.setTop (mkF m 10 #[rv xs] [(.ref b2)])) st2 ?_
  refine own_go (b := T2.setTop (mkF m 11 #[rv xs] [(.ref b2), (.ref b2)])) (fun t k => XS.dup X2.here hx rfl (hb hby d4_10) rfl rfl k) ?_
  refine own_go (b := T2.setTop (mkF m 12 #[rv xs] [(.ref xs), (.ref b2), (.ref b2)])) (fun t k => XS.aloadN X2.here hx rfl (hb hby d4_11) rfl rfl k) ?_
  obtain ⟨_, _, ⟨T3, L3, k3, n3⟩, -, X3, ⟨Lc3, hQ3, l3, y3, z3⟩, st3⟩ := X2.specialBack hx (y := (⟨"com/example/fault/fault/TraceId", "<init>", "(Ljava/lang/String;)V"⟩ : MethodName)) rfl hown (mvT hZ (hw _ (List.mem_of_getElem? (i := 131) rfl))) (mvT hZ (hw _ (List.mem_of_getElem? (i := 132) rfl))) (mvT hZ (hw _ (List.mem_of_getElem? (i := 133) rfl))) (by decide) (backOf (W := 1) (rm28 l Z a0 hw [] b2 xs cs G1 fm al cA h2 n0 Zs2 Ol2 hwf (Sx.ext E2) O2 P5 Sf rf Sad Shi Slo Sal Aal Szl Tbl A2 F_value_b2 g_b2) hZ (hw _ (List.mem_of_getElem? (i := 133) rfl)) (hw _ (List.mem_of_getElem? (i := 26) rfl)) (by decide) (by decide)) (g := (mkF m 12 #[rv xs] [(.ref xs), (.ref b2), (.ref b2)])) rfl (by rw [hml]; rfl) (Steps.refl _) (a := b2) (argsL := [(.ref xs)]) (rest := [(.ref b2)]) (lenOf pd_19 rfl) rfl (by show 2 * 0 + _ ≤ _; exact Nat.le_of_eq rfl) (hb hby d4_12) (fun _ _ => ⟨rfl, e2, (by decide : 1 + 0 ≤ _), (by decide : 1 + 0 ≤ _)⟩)
  dsimp only [Pt.U, Pt.locs, Pt.cells, Pt.slots] at X3 l3 y3 z3 st3 hQ3
  subst l3 y3 z3
  obtain ⟨rfl, N3q, K3, Ek3, Fk3⟩ := hQ3
  have Zs3 : n0 ≤ T3.heap.size := Nat.le_trans Zs2 K3.1
  have N3 := Fr.app N1 N3q
  have Kp3 : Keep h0 T3.heap [] := Kp2.trans K3 (by intro x hx; simp only [List.mem_cons, List.not_mem_nil, or_false] at hx; rcases hx with rfl <;> first | exact Or.inr (by assumption) | exact Or.inl (by simp))
  have Ol3 := Ol2.keep K3 (allS g_b2 all0)
  obtain ⟨lq3, X3, N3⟩ : ∃ lq, Stand p l e ({ frames := 7, cells := 2, slots := 2, locals := 94 } : Room) s m #[(.ref xs)] below meth c T3 lq 1 1 ∧ Fr n0 lq := ⟨_, X3, N3⟩
  refine own_tr (b := T3.setTop (mkF m 15 #[rv xs] [(.ref b2)])) st3 ?_
  obtain ⟨_, _, ⟨T4, L4, k4, n4⟩, -, X4, ⟨Lc4, hQ4, l4, y4, z4⟩, st4⟩ := Jvm.LawKit.callS X3 hx (y := (⟨"java/util/Optional", "of", "(Ljava/lang/Object;)Ljava/util/Optional;"⟩ : MethodName)) hown (mvT hZ (hw _ (List.mem_of_getElem? (i := 142) rfl))) (mvT hZ (hw _ (List.mem_of_getElem? (i := 143) rfl))) (mvT hZ (hw _ (List.mem_of_getElem? (i := 38) rfl))) (mvT hZ (hw _ (List.mem_of_getElem? (i := 144) rfl))) (by decide) (backOf (W := 0) (rm30 l Z a0 hw [] b2  T3.heap n0 Zs3 ) hZ (hw _ (List.mem_of_getElem? (i := 144) rfl)) (hw _ (List.mem_of_getElem? (i := 38) rfl)) (by decide) (by decide)) (g := (mkF m 15 #[rv xs] [(.ref b2)])) rfl (by rw [hml]; rfl) (argsL := [(.ref b2)]) (rest := []) (lenOf pd_20 rfl) rfl (by show 2 * 0 + _ ≤ _; exact Nat.le_of_eq rfl) (hb hby d4_15) (fun _ _ => ⟨rfl, rfl, (by decide : 1 + 1 ≤ _), (by decide : 1 + 1 ≤ _)⟩)
  dsimp only [Pt.U, Pt.locs, Pt.cells, Pt.slots] at X4 l4 y4 z4 st4 hQ4
  subst l4 y4 z4
  obtain ⟨ro4, rfl, N4q, -, K4, Er4, Fo4⟩ := hQ4
  have Zs4 : n0 ≤ T4.heap.size := Nat.le_trans Zs3 K4.1
  have N4 := Fr.app N3 N4q
  have Kp4 : Keep h0 T4.heap [] := Kp3.trans K4 (fun x hx => nomatch hx)
  have Ol4 := Ol3.keep K4 all0
  obtain ⟨lq4, X4, N4⟩ : ∃ lq, Stand p l e ({ frames := 7, cells := 2, slots := 2, locals := 94 } : Room) s m #[(.ref xs)] below meth c T4 lq 2 2 ∧ Fr n0 lq := ⟨_, X4, N4⟩
  refine own_go (b := T4.setTop (mkF m 18 #[rv xs] [(.ref ro4)])) st4 ?_
  refine own_go (b := T4.setTop (mkF m 24 #[rv xs] [(.ref ro4)])) (fun t k => XS.goto X4.here hx rfl (pc0 := 18) (pc' := 24) rfl (hb hby d4_18) (by decide) (by decide) k) ?_
  exact own_retA X4 hx hlk hrt rfl rfl (hb hby d4_24) (Nat.le_of_ble_eq_true rfl) (Nat.le_of_ble_eq_true rfl) (⟨_, b2, rfl, N4, Kp4, Er4, Fo4, (Ek3.keep K4), (Fk3.keep K4 nin0)⟩)
theorem pd_21 : parseMethodDescriptor "()Ljava/util/Optional;" = some ⟨[], some (.object "java/util/Optional")⟩ := by decide +kernel
theorem ef_4n (m : MethodId) (xs : Addr) : entryFrame m #[(.ref xs)] 1 = mkF m 0 #[rv xs] [] := by first | (simp [entryFrame, mkF, argsToLocals, Value.category]; done) | rfl
def Q4n (Z : State) (xs : Addr) (cs : List Int32) (G1 : Int32) (fm : Value) (al : Addr) (cA : Cell) (em : Addr) (h0 : Heap) (n0 : Nat) (v : Option Value) (h : Heap) (L : List Loc) : Prop := v = some (.ref em) ∧ Fr n0 L ∧ h = h0
set_option maxRecDepth 65536 in
set_option maxHeartbeats 40000000 in
theorem rm4n (l : Launch) (Z : State) (a0 : Array Value) (hw : ∀ d ∈ tables_1, d.before a0 Z = true) (ws : List Jvm.Cond) (xs : Addr) (cs : List Int32) (G1 : Int32) (fm : Value) (al : Addr) (cA : Cell) (em : Addr) (h0 : Heap) (n0 : Nat) (Z0 : n0 ≤ h0.size) (Od : Old Z n0 h0) (hwf : ¬ own_wf cs) (Sx : own_Sx Z h0 xs cs) (O2 : Sta Z Z.heap "java/lang/String" "COMPACT_STRINGS" "Z" (.int G1)) (P5 : ¬ (G1 = (0 : Int32))) (Sf : Sta Z Z.heap "jdk/internal/util/Preconditions" "SIOOBE_FORMATTER" "Ljava/util/function/BiFunction;" fm) (rf : fm.isRef = true) (Sad : Sta Z Z.heap "java/lang/StringUTF16" "$assertionsDisabled" "Z" (.int 1)) (Shi : Sta Z Z.heap "java/lang/StringUTF16" "HI_BYTE_SHIFT" "I" (.int 0)) (Slo : Sta Z Z.heap "java/lang/StringUTF16" "LO_BYTE_SHIFT" "I" (.int 8)) (Sal : Sta Z Z.heap "com/example/fault/fault/TraceId" "ALLOWED" "[Z" (.ref al)) (Aal : Jvm.RoadKit.Arr Z Z.heap al cA .boolean) (Szl : cA.slots.size = 128) (Tbl : ∀ k, k < 128 → cA.slots[k]? = some (.int (own_ok01 k.toInt32))) (Sm : Sta Z Z.heap "java/util/Optional" "EMPTY" "Ljava/util/Optional;" (.ref em)) :
    MetFree l (⟨"com/example/fault/fault/TraceId", "parse", "(Ljava/lang/String;)Ljava/util/Optional;"⟩ : MethodName) (head1 (Jvm.Cond.code (⟨"com/example/fault/fault/TraceId", "parse", "(Ljava/lang/String;)Ljava/util/Optional;"⟩ : MethodName) prog_14_method_4_code 1 (some (.object "java/util/Optional")) :: ws) ({ frames := 7, cells := 2, slots := 2, locals := 94 } : Room)) (fun a U => a = #[(.ref xs)] ∧ Z.Warmed39 U.vm ∧ U.heap = h0) (fun _ _ _ _ _ => True) (fun _ U o U' => ∃ v L, o = .returned v ∧ Q4n Z xs cs G1 fm al cA em h0 n0 v U'.heap L ∧ FrameEnd U o U' L ({ frames := 7, cells := 2, slots := 2, locals := 94 } : Room).cells ({ frames := 7, cells := 2, slots := 2, locals := 94 } : Room).slots) := by
  refine MetFree.of_bodySF (plainFor_of_name pn_3) hisR ?_
  intro p e s m args below meth c s₁ Bd hml0 hP hK
  obtain ⟨rfl, hZ, hh⟩ := hP
  have hx := Bd.exec
  have hby := Bd.bytes
  have hml : c.maxLocals = 1 := hml0
  have hown : s.vm.findClass "com/example/fault/fault/TraceId" = some m.cls := findClass_of_methodNamed Bd.named
  have hnm := (name_of_methodNamed Bd.named Bd.method).1
  have hlk : meth.locks = false := Bd.notSynchronized
  have hrt := Bd.returns
  have X0 : Stand p l e ({ frames := 7, cells := 2, slots := 2, locals := 94 } : Room) s m #[(.ref xs)] below meth c s₁ [] 0 0 := Stand.of_body Bd
  have e0 : s₁.heap = h0 := by rw [← hh, Bd.state]; rfl
  have N0 := Fr.nil n0
  show own_Endz p.tables e below (own_EndQ s ({ frames := 7, cells := 2, slots := 2, locals := 94 } : Room).cells ({ frames := 7, cells := 2, slots := 2, locals := 94 } : Room).slots (Q4n Z xs cs G1 fm al cA em h0 n0)) (s₁.setTop (entryFrame m #[(.ref xs)] 1))
  refine own_cast (ef_4n m xs) ?_
  refine own_go (b := s₁.setTop (mkF m 1 #[rv xs] [(.ref xs)])) (fun t k => XS.aloadN X0.here hx rfl (hb hby d4_0) rfl rfl k) ?_
  obtain ⟨_, _, ⟨T1, L1, k1, n1⟩, -, X1, ⟨Lc1, hQ1, l1, y1, z1⟩, st1⟩ := Jvm.LawKit.callS X0 hx (y := (⟨"com/example/fault/fault/TraceId", "isWellFormed", "(Ljava/lang/String;)Z"⟩ : MethodName)) hown (mvT hZ (hw _ (List.mem_of_getElem? (i := 28) rfl))) (mvT hZ (hw _ (List.mem_of_getElem? (i := 29) rfl))) (mvT hZ (hw _ (List.mem_of_getElem? (i := 26) rfl))) (mvT hZ (hw _ (List.mem_of_getElem? (i := 30) rfl))) (by decide) (backOf (W := 0) (rm5 l Z a0 hw [] xs cs G1 fm al cA h0 n0 Z0 Sx (O2.ext Od.2) P5 (Sf.ext Od.2) rf (Sad.ext Od.2) (Shi.ext Od.2) (Slo.ext Od.2) (Sal.ext Od.2) (Aal.ext Od.2) Szl Tbl) hZ (hw _ (List.mem_of_getElem? (i := 30) rfl)) (hw _ (List.mem_of_getElem? (i := 26) rfl)) (by decide) (by decide)) (g := (mkF m 1 #[rv xs] [(.ref xs)])) rfl (by rw [hml]; rfl) (argsL := [(.ref xs)]) (rest := []) (lenOf pd_18 rfl) rfl (by show 2 * 0 + _ ≤ _; exact Nat.le_of_eq rfl) (hb hby d4_1) (fun _ _ => ⟨rfl, e0, (by decide : 0 + 0 ≤ _), (by decide : 0 + 0 ≤ _)⟩)
  dsimp only [Pt.U, Pt.locs, Pt.cells, Pt.slots] at X1 l1 y1 z1 st1 hQ1
  subst l1 y1 z1
  obtain ⟨rfl, N1q, e1⟩ := hQ1
  have N1 := Fr.app N0 N1q
  obtain ⟨lq1, X1, N1⟩ : ∃ lq, Stand p l e ({ frames := 7, cells := 2, slots := 2, locals := 94 } : Room) s m #[(.ref xs)] below meth c T1 lq 0 0 ∧ Fr n0 lq := ⟨_, X1, N1⟩
  refine own_go (b := T1.setTop (mkF m 4 #[rv xs] [(.int (if own_wf cs then 1 else 0))])) st1 ?_
  rw [if_neg hwf]
  refine own_go (b := T1.setTop (mkF m 21 #[rv xs] [])) (fun t k => XS.ifYes X1.here hx rfl (pc0 := 4) (pc' := 21) rfl (hb hby d4_4) rfl ((if0 _ _).trans (teq (rfl : (0 : Int32) = (0 : Int32))).1) (by decide) (by decide) k) ?_
  obtain ⟨_, _, ⟨T2, L2, k2, n2⟩, -, X2, ⟨Lc2, hQ2, l2, y2, z2⟩, st2⟩ := Jvm.LawKit.callS X1 hx (y := (⟨"java/util/Optional", "empty", "()Ljava/util/Optional;"⟩ : MethodName)) hown (mvT hZ (hw _ (List.mem_of_getElem? (i := 36) rfl))) (mvT hZ (hw _ (List.mem_of_getElem? (i := 37) rfl))) (mvT hZ (hw _ (List.mem_of_getElem? (i := 38) rfl))) (mvT hZ (hw _ (List.mem_of_getElem? (i := 39) rfl))) (by decide) (backOf (W := 0) (rm7 l Z a0 hw []  em h0 n0 Z0 (Sm.ext Od.2)) hZ (hw _ (List.mem_of_getElem? (i := 39) rfl)) (hw _ (List.mem_of_getElem? (i := 38) rfl)) (by decide) (by decide)) (g := (mkF m 21 #[rv xs] [])) rfl (by rw [hml]; rfl) (argsL := []) (rest := []) (lenOf pd_21 rfl) rfl (by show 2 * 0 + _ ≤ _; exact Nat.le_of_eq rfl) (hb hby d4_21) (fun _ _ => ⟨rfl, e1, (by decide : 0 + 0 ≤ _), (by decide : 0 + 0 ≤ _)⟩)
  dsimp only [Pt.U, Pt.locs, Pt.cells, Pt.slots] at X2 l2 y2 z2 st2 hQ2
  subst l2 y2 z2
  obtain ⟨rfl, N2q, e2⟩ := hQ2
  have N2 := Fr.app N1 N2q
  obtain ⟨lq2, X2, N2⟩ : ∃ lq, Stand p l e ({ frames := 7, cells := 2, slots := 2, locals := 94 } : Room) s m #[(.ref xs)] below meth c T2 lq 0 0 ∧ Fr n0 lq := ⟨_, X2, N2⟩
  refine own_go (b := T2.setTop (mkF m 24 #[rv xs] [(.ref em)])) st2 ?_
  exact own_retA X2 hx hlk hrt rfl rfl (hb hby d4_24) (Nat.le_of_ble_eq_true rfl) (Nat.le_of_ble_eq_true rfl) (⟨by first | rfl | (simp only [if_true, if_true, if_false]; done) | (simp only [if_true, if_true, if_false]; rfl) | (simp []; done) | (simp []; rfl), N2, e2⟩)
theorem ef_4z (m : MethodId)  : entryFrame m #[.null] 1 = mkF m 0 #[.val .null] [] := by first | (simp [entryFrame, mkF, argsToLocals, Value.category]; done) | rfl
def Q4z (Z : State) (em : Addr) (h0 : Heap) (n0 : Nat) (v : Option Value) (h : Heap) (L : List Loc) : Prop := v = some (.ref em) ∧ Fr n0 L ∧ h = h0
set_option maxRecDepth 65536 in
set_option maxHeartbeats 40000000 in
theorem rm4z (l : Launch) (Z : State) (a0 : Array Value) (hw : ∀ d ∈ tables_1, d.before a0 Z = true) (ws : List Jvm.Cond) (em : Addr) (h0 : Heap) (n0 : Nat) (Z0 : n0 ≤ h0.size) (Od : Old Z n0 h0) (Sm : Sta Z Z.heap "java/util/Optional" "EMPTY" "Ljava/util/Optional;" (.ref em)) :
    MetFree l (⟨"com/example/fault/fault/TraceId", "parse", "(Ljava/lang/String;)Ljava/util/Optional;"⟩ : MethodName) (head1 (Jvm.Cond.code (⟨"com/example/fault/fault/TraceId", "parse", "(Ljava/lang/String;)Ljava/util/Optional;"⟩ : MethodName) prog_14_method_4_code 1 (some (.object "java/util/Optional")) :: ws) ({ frames := 7, cells := 2, slots := 2, locals := 94 } : Room)) (fun a U => a = #[.null] ∧ Z.Warmed39 U.vm ∧ U.heap = h0) (fun _ _ _ _ _ => True) (fun _ U o U' => ∃ v L, o = .returned v ∧ Q4z Z em h0 n0 v U'.heap L ∧ FrameEnd U o U' L ({ frames := 7, cells := 2, slots := 2, locals := 94 } : Room).cells ({ frames := 7, cells := 2, slots := 2, locals := 94 } : Room).slots) := by
  refine MetFree.of_bodySF (plainFor_of_name pn_3) hisR ?_
  intro p e s m args below meth c s₁ Bd hml0 hP hK
  obtain ⟨rfl, hZ, hh⟩ := hP
  have hx := Bd.exec
  have hby := Bd.bytes
  have hml : c.maxLocals = 1 := hml0
  have hown : s.vm.findClass "com/example/fault/fault/TraceId" = some m.cls := findClass_of_methodNamed Bd.named
  have hnm := (name_of_methodNamed Bd.named Bd.method).1
  have hlk : meth.locks = false := Bd.notSynchronized
  have hrt := Bd.returns
  have X0 : Stand p l e ({ frames := 7, cells := 2, slots := 2, locals := 94 } : Room) s m #[.null] below meth c s₁ [] 0 0 := Stand.of_body Bd
  have e0 : s₁.heap = h0 := by rw [← hh, Bd.state]; rfl
  have N0 := Fr.nil n0
  show own_Endz p.tables e below (own_EndQ s ({ frames := 7, cells := 2, slots := 2, locals := 94 } : Room).cells ({ frames := 7, cells := 2, slots := 2, locals := 94 } : Room).slots (Q4z Z em h0 n0)) (s₁.setTop (entryFrame m #[.null] 1))
  refine own_cast (ef_4z m ) ?_
  refine own_go (b := s₁.setTop (mkF m 1 #[.val .null] [.null])) (fun t k => XS.aloadN X0.here hx rfl (hb hby d4_0) rfl rfl k) ?_
  obtain ⟨_, _, ⟨T1, L1, k1, n1⟩, -, X1, ⟨Lc1, hQ1, l1, y1, z1⟩, st1⟩ := Jvm.LawKit.callS X0 hx (y := (⟨"com/example/fault/fault/TraceId", "isWellFormed", "(Ljava/lang/String;)Z"⟩ : MethodName)) hown (mvT hZ (hw _ (List.mem_of_getElem? (i := 28) rfl))) (mvT hZ (hw _ (List.mem_of_getElem? (i := 29) rfl))) (mvT hZ (hw _ (List.mem_of_getElem? (i := 26) rfl))) (mvT hZ (hw _ (List.mem_of_getElem? (i := 30) rfl))) (by decide) (backOf (W := 0) (rm5z l Z a0 hw []   h0 n0 Z0 ) hZ (hw _ (List.mem_of_getElem? (i := 30) rfl)) (hw _ (List.mem_of_getElem? (i := 26) rfl)) (by decide) (by decide)) (g := (mkF m 1 #[.val .null] [.null])) rfl (by rw [hml]; rfl) (argsL := [.null]) (rest := []) (lenOf pd_18 rfl) rfl (by show 2 * 0 + _ ≤ _; exact Nat.le_of_eq rfl) (hb hby d4_1) (fun _ _ => ⟨rfl, e0, (by decide : 0 + 0 ≤ _), (by decide : 0 + 0 ≤ _)⟩)
  dsimp only [Pt.U, Pt.locs, Pt.cells, Pt.slots] at X1 l1 y1 z1 st1 hQ1
  subst l1 y1 z1
  obtain ⟨rfl, N1q, e1⟩ := hQ1
  have N1 := Fr.app N0 N1q
  obtain ⟨lq1, X1, N1⟩ : ∃ lq, Stand p l e ({ frames := 7, cells := 2, slots := 2, locals := 94 } : Room) s m #[.null] below meth c T1 lq 0 0 ∧ Fr n0 lq := ⟨_, X1, N1⟩
  refine own_go (b := T1.setTop (mkF m 4 #[.val .null] [(.int 0)])) st1 ?_
  refine own_go (b := T1.setTop (mkF m 21 #[.val .null] [])) (fun t k => XS.ifYes X1.here hx rfl (pc0 := 4) (pc' := 21) rfl (hb hby d4_4) rfl ((if0 _ _).trans (teq (rfl : (0 : Int32) = (0 : Int32))).1) (by decide) (by decide) k) ?_
  obtain ⟨_, _, ⟨T2, L2, k2, n2⟩, -, X2, ⟨Lc2, hQ2, l2, y2, z2⟩, st2⟩ := Jvm.LawKit.callS X1 hx (y := (⟨"java/util/Optional", "empty", "()Ljava/util/Optional;"⟩ : MethodName)) hown (mvT hZ (hw _ (List.mem_of_getElem? (i := 36) rfl))) (mvT hZ (hw _ (List.mem_of_getElem? (i := 37) rfl))) (mvT hZ (hw _ (List.mem_of_getElem? (i := 38) rfl))) (mvT hZ (hw _ (List.mem_of_getElem? (i := 39) rfl))) (by decide) (backOf (W := 0) (rm7 l Z a0 hw []  em h0 n0 Z0 (Sm.ext Od.2)) hZ (hw _ (List.mem_of_getElem? (i := 39) rfl)) (hw _ (List.mem_of_getElem? (i := 38) rfl)) (by decide) (by decide)) (g := (mkF m 21 #[.val .null] [])) rfl (by rw [hml]; rfl) (argsL := []) (rest := []) (lenOf pd_21 rfl) rfl (by show 2 * 0 + _ ≤ _; exact Nat.le_of_eq rfl) (hb hby d4_21) (fun _ _ => ⟨rfl, e1, (by decide : 0 + 0 ≤ _), (by decide : 0 + 0 ≤ _)⟩)
  dsimp only [Pt.U, Pt.locs, Pt.cells, Pt.slots] at X2 l2 y2 z2 st2 hQ2
  subst l2 y2 z2
  obtain ⟨rfl, N2q, e2⟩ := hQ2
  have N2 := Fr.app N1 N2q
  obtain ⟨lq2, X2, N2⟩ : ∃ lq, Stand p l e ({ frames := 7, cells := 2, slots := 2, locals := 94 } : Room) s m #[.null] below meth c T2 lq 0 0 ∧ Fr n0 lq := ⟨_, X2, N2⟩
  refine own_go (b := T2.setTop (mkF m 24 #[.val .null] [(.ref em)])) st2 ?_
  exact own_retA X2 hx hlk hrt rfl rfl (hb hby d4_24) (Nat.le_of_ble_eq_true rfl) (Nat.le_of_ble_eq_true rfl) (⟨by first | rfl | (simp only [if_true, if_true, if_false]; done) | (simp only [if_true, if_true, if_false]; rfl) | (simp []; done) | (simp []; rfl), N2, e2⟩)
theorem d14_0 : decode method_2_code 0 = .ok (.iload_n 0, 1) := by decide +kernel
theorem d14_1 : decode method_2_code 1 = .ok (.bipush 65, 2) := by decide +kernel
theorem d14_3 : decode method_2_code 3 = .ok (.if_icmp .lt 11, 3) := by decide +kernel
theorem d14_6 : decode method_2_code 6 = .ok (.iload_n 0, 1) := by decide +kernel
theorem d14_7 : decode method_2_code 7 = .ok (.bipush 90, 2) := by decide +kernel
theorem d14_9 : decode method_2_code 9 = .ok (.if_icmp .gt 5, 3) := by decide +kernel
theorem d14_12 : decode method_2_code 12 = .ok (.iconst 1, 1) := by decide +kernel
theorem d14_13 : decode method_2_code 13 = .ok (.ireturn, 1) := by decide +kernel
theorem d14_14 : decode method_2_code 14 = .ok (.iload_n 0, 1) := by decide +kernel
theorem d14_15 : decode method_2_code 15 = .ok (.bipush 97, 2) := by decide +kernel
theorem d14_17 : decode method_2_code 17 = .ok (.if_icmp .lt 11, 3) := by decide +kernel
theorem d14_20 : decode method_2_code 20 = .ok (.iload_n 0, 1) := by decide +kernel
theorem d14_21 : decode method_2_code 21 = .ok (.bipush 122, 2) := by decide +kernel
theorem d14_23 : decode method_2_code 23 = .ok (.if_icmp .gt 5, 3) := by decide +kernel
theorem d14_26 : decode method_2_code 26 = .ok (.iconst 1, 1) := by decide +kernel
theorem d14_27 : decode method_2_code 27 = .ok (.ireturn, 1) := by decide +kernel
theorem d14_28 : decode method_2_code 28 = .ok (.iload_n 0, 1) := by decide +kernel
theorem d14_29 : decode method_2_code 29 = .ok (.bipush 48, 2) := by decide +kernel
theorem d14_31 : decode method_2_code 31 = .ok (.if_icmp .lt 11, 3) := by decide +kernel
theorem d14_34 : decode method_2_code 34 = .ok (.iload_n 0, 1) := by decide +kernel
theorem d14_35 : decode method_2_code 35 = .ok (.bipush 57, 2) := by decide +kernel
theorem d14_37 : decode method_2_code 37 = .ok (.if_icmp .gt 5, 3) := by decide +kernel
theorem d14_40 : decode method_2_code 40 = .ok (.iconst 1, 1) := by decide +kernel
theorem d14_41 : decode method_2_code 41 = .ok (.ireturn, 1) := by decide +kernel
theorem d14_42 : decode method_2_code 42 = .ok (.iload_n 0, 1) := by decide +kernel
theorem d14_43 : decode method_2_code 43 = .ok (.bipush 46, 2) := by decide +kernel
theorem d14_45 : decode method_2_code 45 = .ok (.if_icmp .eq 15, 3) := by decide +kernel
theorem d14_48 : decode method_2_code 48 = .ok (.iload_n 0, 1) := by decide +kernel
theorem d14_49 : decode method_2_code 49 = .ok (.bipush 95, 2) := by decide +kernel
theorem d14_51 : decode method_2_code 51 = .ok (.if_icmp .eq 9, 3) := by decide +kernel
theorem d14_54 : decode method_2_code 54 = .ok (.iload_n 0, 1) := by decide +kernel
theorem d14_55 : decode method_2_code 55 = .ok (.bipush 45, 2) := by decide +kernel
theorem d14_57 : decode method_2_code 57 = .ok (.if_icmp .ne 7, 3) := by decide +kernel
theorem d14_60 : decode method_2_code 60 = .ok (.iconst 1, 1) := by decide +kernel
theorem d14_61 : decode method_2_code 61 = .ok (.goto 4, 3) := by decide +kernel
theorem d14_64 : decode method_2_code 64 = .ok (.iconst 0, 1) := by decide +kernel
theorem d14_65 : decode method_2_code 65 = .ok (.ireturn, 1) := by decide +kernel
theorem pn_7 : plainName "com/example/fault/fault/TraceIdParsePinLaw" = true := by first | (simp [plainName, overriddenIn]; done) | decide +kernel
theorem ef_14 (m : MethodId) (cc : Int32) : entryFrame m #[(.int cc)] 1 = mkF m 0 #[iv cc] [] := by first | (simp [entryFrame, mkF, argsToLocals, Value.category]; done) | rfl
def Q14 (Z : State) (cc : Int32) (h0 : Heap) (n0 : Nat) (v : Option Value) (h : Heap) (L : List Loc) : Prop := v = some (.int (own_ok01 cc)) ∧ Fr n0 L ∧ h = h0
set_option maxRecDepth 65536 in
set_option maxHeartbeats 40000000 in
theorem rm14 (l : Launch) (Z : State) (a0 : Array Value) (hw : ∀ d ∈ tables_1, d.before a0 Z = true) (ws : List Jvm.Cond) (cc : Int32) (h0 : Heap) (n0 : Nat) (Z0 : n0 ≤ h0.size) :
    MetFree l (⟨"com/example/fault/fault/TraceIdParsePinLaw", "ok", "(C)Z"⟩ : MethodName) (head1 (Jvm.Cond.code (⟨"com/example/fault/fault/TraceIdParsePinLaw", "ok", "(C)Z"⟩ : MethodName) method_2_code 1 (some .boolean) :: ws) ({ frames := 0, cells := 0, slots := 0, locals := 0 } : Room)) (fun a U => a = #[(.int cc)] ∧ Z.Warmed39 U.vm ∧ U.heap = h0) (fun _ _ _ _ _ => True) (fun _ U o U' => ∃ v L, o = .returned v ∧ Q14 Z cc h0 n0 v U'.heap L ∧ FrameEnd U o U' L ({ frames := 0, cells := 0, slots := 0, locals := 0 } : Room).cells ({ frames := 0, cells := 0, slots := 0, locals := 0 } : Room).slots) := by
  refine MetFree.of_bodySF (plainFor_of_name pn_7) hisR ?_
  intro p e s m args below meth c s₁ Bd hml0 hP hK
  obtain ⟨rfl, hZ, hh⟩ := hP
  have hx := Bd.exec
  have hby := Bd.bytes
  have hml : c.maxLocals = 1 := hml0
  have hown : s.vm.findClass "com/example/fault/fault/TraceIdParsePinLaw" = some m.cls := findClass_of_methodNamed Bd.named
  have hnm := (name_of_methodNamed Bd.named Bd.method).1
  have hlk : meth.locks = false := Bd.notSynchronized
  have hrt := Bd.returns
  have X0 : Stand p l e ({ frames := 0, cells := 0, slots := 0, locals := 0 } : Room) s m #[(.int cc)] below meth c s₁ [] 0 0 := Stand.of_body Bd
  have e0 : s₁.heap = h0 := by rw [← hh, Bd.state]; rfl
  have N0 := Fr.nil n0
  show own_Endz p.tables e below (own_EndQ s ({ frames := 0, cells := 0, slots := 0, locals := 0 } : Room).cells ({ frames := 0, cells := 0, slots := 0, locals := 0 } : Room).slots (Q14 Z cc h0 n0)) (s₁.setTop (entryFrame m #[(.int cc)] 1))
  refine own_cast (ef_14 m cc) ?_
  refine own_go (b := s₁.setTop (mkF m 1 #[iv cc] [(.int cc)])) (fun t k => XS.iloadN X0.here hx rfl (hb hby d14_0) rfl  k) ?_
  refine own_go (b := s₁.setTop (mkF m 3 #[iv cc] [(.int 65), (.int cc)])) (fun t k => XS.bipush X0.here hx rfl (hb hby d14_1) k) ?_
  by_cases hc1 : cc < (65 : Int32)
  · refine own_go (b := s₁.setTop (mkF m 14 #[iv cc] [])) (fun t k => XS.icmpYes X0.here hx rfl (pc0 := 3) (pc' := 14) rfl (hb hby d14_3) rfl (tlt hc1).1 (by decide) (by decide) k) ?_
    refine own_go (b := s₁.setTop (mkF m 15 #[iv cc] [(.int cc)])) (fun t k => XS.iloadN X0.here hx rfl (hb hby d14_14) rfl  k) ?_
    refine own_go (b := s₁.setTop (mkF m 17 #[iv cc] [(.int 97), (.int cc)])) (fun t k => XS.bipush X0.here hx rfl (hb hby d14_15) k) ?_
    by_cases hc2 : cc < (97 : Int32)
    · refine own_go (b := s₁.setTop (mkF m 28 #[iv cc] [])) (fun t k => XS.icmpYes X0.here hx rfl (pc0 := 17) (pc' := 28) rfl (hb hby d14_17) rfl (tlt hc2).1 (by decide) (by decide) k) ?_
      refine own_go (b := s₁.setTop (mkF m 29 #[iv cc] [(.int cc)])) (fun t k => XS.iloadN X0.here hx rfl (hb hby d14_28) rfl  k) ?_
      refine own_go (b := s₁.setTop (mkF m 31 #[iv cc] [(.int 48), (.int cc)])) (fun t k => XS.bipush X0.here hx rfl (hb hby d14_29) k) ?_
      by_cases hc3 : cc < (48 : Int32)
      · refine own_go (b := s₁.setTop (mkF m 42 #[iv cc] [])) (fun t k => XS.icmpYes X0.here hx rfl (pc0 := 31) (pc' := 42) rfl (hb hby d14_31) rfl (tlt hc3).1 (by decide) (by decide) k) ?_
        refine own_go (b := s₁.setTop (mkF m 43 #[iv cc] [(.int cc)])) (fun t k => XS.iloadN X0.here hx rfl (hb hby d14_42) rfl  k) ?_
        refine own_go (b := s₁.setTop (mkF m 45 #[iv cc] [(.int 46), (.int cc)])) (fun t k => XS.bipush X0.here hx rfl (hb hby d14_43) k) ?_
        by_cases hc4 : cc = (46 : Int32)
        · refine own_go (b := s₁.setTop (mkF m 60 #[iv cc] [])) (fun t k => XS.icmpYes X0.here hx rfl (pc0 := 45) (pc' := 60) rfl (hb hby d14_45) rfl (teq hc4).1 (by decide) (by decide) k) ?_
          refine own_go (b := s₁.setTop (mkF m 61 #[iv cc] [(.int 1)])) (fun t k => XS.iconst X0.here hx rfl (hb hby d14_60) k) ?_
          refine own_go (b := s₁.setTop (mkF m 65 #[iv cc] [(.int 1)])) (fun t k => XS.goto X0.here hx rfl (pc0 := 61) (pc' := 65) rfl (hb hby d14_61) (by decide) (by decide) k) ?_
          exact own_retN X0 hx hlk (t := .boolean) hrt (by simp) (hb hby d14_65) (Nat.le_of_ble_eq_true rfl) (Nat.le_of_ble_eq_true rfl) (⟨by rw [own_ok01, if_pos (by simp [own_okP, eq_true hc1, eq_true hc2, eq_true hc3, eq_true hc4])]; rfl, N0, e0⟩)
        · refine own_go (b := s₁.setTop (mkF m 48 #[iv cc] [])) (fun t k => XS.icmpNo X0.here hx rfl (hb hby d14_45) rfl (feq hc4).1 k) ?_
          refine own_go (b := s₁.setTop (mkF m 49 #[iv cc] [(.int cc)])) (fun t k => XS.iloadN X0.here hx rfl (hb hby d14_48) rfl  k) ?_
          refine own_go (b := s₁.setTop (mkF m 51 #[iv cc] [(.int 95), (.int cc)])) (fun t k => XS.bipush X0.here hx rfl (hb hby d14_49) k) ?_
          by_cases hc5 : cc = (95 : Int32)
          · refine own_go (b := s₁.setTop (mkF m 60 #[iv cc] [])) (fun t k => XS.icmpYes X0.here hx rfl (pc0 := 51) (pc' := 60) rfl (hb hby d14_51) rfl (teq hc5).1 (by decide) (by decide) k) ?_
            refine own_go (b := s₁.setTop (mkF m 61 #[iv cc] [(.int 1)])) (fun t k => XS.iconst X0.here hx rfl (hb hby d14_60) k) ?_
            refine own_go (b := s₁.setTop (mkF m 65 #[iv cc] [(.int 1)])) (fun t k => XS.goto X0.here hx rfl (pc0 := 61) (pc' := 65) rfl (hb hby d14_61) (by decide) (by decide) k) ?_
            exact own_retN X0 hx hlk (t := .boolean) hrt (by simp) (hb hby d14_65) (Nat.le_of_ble_eq_true rfl) (Nat.le_of_ble_eq_true rfl) (⟨by rw [own_ok01, if_pos (by simp [own_okP, eq_true hc1, eq_true hc2, eq_true hc3, eq_false hc4, eq_true hc5])]; rfl, N0, e0⟩)
          · refine own_go (b := s₁.setTop (mkF m 54 #[iv cc] [])) (fun t k => XS.icmpNo X0.here hx rfl (hb hby d14_51) rfl (feq hc5).1 k) ?_
            refine own_go (b := s₁.setTop (mkF m 55 #[iv cc] [(.int cc)])) (fun t k => XS.iloadN X0.here hx rfl (hb hby d14_54) rfl  k) ?_
            refine own_go (b := s₁.setTop (mkF m 57 #[iv cc] [(.int 45), (.int cc)])) (fun t k => XS.bipush X0.here hx rfl (hb hby d14_55) k) ?_
            by_cases hc6 : cc = (45 : Int32)
            · refine own_go (b := s₁.setTop (mkF m 60 #[iv cc] [])) (fun t k => XS.icmpNo X0.here hx rfl (hb hby d14_57) rfl (teq hc6).2 k) ?_
              refine own_go (b := s₁.setTop (mkF m 61 #[iv cc] [(.int 1)])) (fun t k => XS.iconst X0.here hx rfl (hb hby d14_60) k) ?_
              refine own_go (b := s₁.setTop (mkF m 65 #[iv cc] [(.int 1)])) (fun t k => XS.goto X0.here hx rfl (pc0 := 61) (pc' := 65) rfl (hb hby d14_61) (by decide) (by decide) k) ?_
              exact own_retN X0 hx hlk (t := .boolean) hrt (by simp) (hb hby d14_65) (Nat.le_of_ble_eq_true rfl) (Nat.le_of_ble_eq_true rfl) (⟨by rw [own_ok01, if_pos (by simp [own_okP, eq_true hc1, eq_true hc2, eq_true hc3, eq_false hc4, eq_false hc5, eq_true hc6])]; rfl, N0, e0⟩)
            · refine own_go (b := s₁.setTop (mkF m 64 #[iv cc] [])) (fun t k => XS.icmpYes X0.here hx rfl (pc0 := 57) (pc' := 64) rfl (hb hby d14_57) rfl (feq hc6).2 (by decide) (by decide) k) ?_
              refine own_go (b := s₁.setTop (mkF m 65 #[iv cc] [(.int 0)])) (fun t k => XS.iconst X0.here hx rfl (hb hby d14_64) k) ?_
              exact own_retN X0 hx hlk (t := .boolean) hrt (by simp) (hb hby d14_65) (Nat.le_of_ble_eq_true rfl) (Nat.le_of_ble_eq_true rfl) (⟨by rw [own_ok01, if_neg (by simp [own_okP, eq_true hc1, eq_true hc2, eq_true hc3, eq_false hc4, eq_false hc5, eq_false hc6])]; rfl, N0, e0⟩)
      · refine own_go (b := s₁.setTop (mkF m 34 #[iv cc] [])) (fun t k => XS.icmpNo X0.here hx rfl (hb hby d14_31) rfl (flt hc3).1 k) ?_
        refine own_go (b := s₁.setTop (mkF m 35 #[iv cc] [(.int cc)])) (fun t k => XS.iloadN X0.here hx rfl (hb hby d14_34) rfl  k) ?_
        refine own_go (b := s₁.setTop (mkF m 37 #[iv cc] [(.int 57), (.int cc)])) (fun t k => XS.bipush X0.here hx rfl (hb hby d14_35) k) ?_
        by_cases hc7 : (57 : Int32) < cc
        · refine own_go (b := s₁.setTop (mkF m 42 #[iv cc] [])) (fun t k => XS.icmpYes X0.here hx rfl (pc0 := 37) (pc' := 42) rfl (hb hby d14_37) rfl (tlt hc7).2.2.1 (by decide) (by decide) k) ?_
          refine own_go (b := s₁.setTop (mkF m 43 #[iv cc] [(.int cc)])) (fun t k => XS.iloadN X0.here hx rfl (hb hby d14_42) rfl  k) ?_
          refine own_go (b := s₁.setTop (mkF m 45 #[iv cc] [(.int 46), (.int cc)])) (fun t k => XS.bipush X0.here hx rfl (hb hby d14_43) k) ?_
          by_cases hc8 : cc = (46 : Int32)
          · refine own_go (b := s₁.setTop (mkF m 60 #[iv cc] [])) (fun t k => XS.icmpYes X0.here hx rfl (pc0 := 45) (pc' := 60) rfl (hb hby d14_45) rfl (teq hc8).1 (by decide) (by decide) k) ?_
            refine own_go (b := s₁.setTop (mkF m 61 #[iv cc] [(.int 1)])) (fun t k => XS.iconst X0.here hx rfl (hb hby d14_60) k) ?_
            refine own_go (b := s₁.setTop (mkF m 65 #[iv cc] [(.int 1)])) (fun t k => XS.goto X0.here hx rfl (pc0 := 61) (pc' := 65) rfl (hb hby d14_61) (by decide) (by decide) k) ?_
            exact own_retN X0 hx hlk (t := .boolean) hrt (by simp) (hb hby d14_65) (Nat.le_of_ble_eq_true rfl) (Nat.le_of_ble_eq_true rfl) (⟨by rw [own_ok01, if_pos (by simp [own_okP, eq_true hc1, eq_true hc2, eq_false hc3, eq_true hc7, eq_true hc8])]; rfl, N0, e0⟩)
          · refine own_go (b := s₁.setTop (mkF m 48 #[iv cc] [])) (fun t k => XS.icmpNo X0.here hx rfl (hb hby d14_45) rfl (feq hc8).1 k) ?_
            refine own_go (b := s₁.setTop (mkF m 49 #[iv cc] [(.int cc)])) (fun t k => XS.iloadN X0.here hx rfl (hb hby d14_48) rfl  k) ?_
            refine own_go (b := s₁.setTop (mkF m 51 #[iv cc] [(.int 95), (.int cc)])) (fun t k => XS.bipush X0.here hx rfl (hb hby d14_49) k) ?_
            by_cases hc9 : cc = (95 : Int32)
            · refine own_go (b := s₁.setTop (mkF m 60 #[iv cc] [])) (fun t k => XS.icmpYes X0.here hx rfl (pc0 := 51) (pc' := 60) rfl (hb hby d14_51) rfl (teq hc9).1 (by decide) (by decide) k) ?_
              refine own_go (b := s₁.setTop (mkF m 61 #[iv cc] [(.int 1)])) (fun t k => XS.iconst X0.here hx rfl (hb hby d14_60) k) ?_
              refine own_go (b := s₁.setTop (mkF m 65 #[iv cc] [(.int 1)])) (fun t k => XS.goto X0.here hx rfl (pc0 := 61) (pc' := 65) rfl (hb hby d14_61) (by decide) (by decide) k) ?_
              exact own_retN X0 hx hlk (t := .boolean) hrt (by simp) (hb hby d14_65) (Nat.le_of_ble_eq_true rfl) (Nat.le_of_ble_eq_true rfl) (⟨by rw [own_ok01, if_pos (by simp [own_okP, eq_true hc1, eq_true hc2, eq_false hc3, eq_true hc7, eq_false hc8, eq_true hc9])]; rfl, N0, e0⟩)
            · refine own_go (b := s₁.setTop (mkF m 54 #[iv cc] [])) (fun t k => XS.icmpNo X0.here hx rfl (hb hby d14_51) rfl (feq hc9).1 k) ?_
              refine own_go (b := s₁.setTop (mkF m 55 #[iv cc] [(.int cc)])) (fun t k => XS.iloadN X0.here hx rfl (hb hby d14_54) rfl  k) ?_
              refine own_go (b := s₁.setTop (mkF m 57 #[iv cc] [(.int 45), (.int cc)])) (fun t k => XS.bipush X0.here hx rfl (hb hby d14_55) k) ?_
              by_cases hc10 : cc = (45 : Int32)
              · refine own_go (b := s₁.setTop (mkF m 60 #[iv cc] [])) (fun t k => XS.icmpNo X0.here hx rfl (hb hby d14_57) rfl (teq hc10).2 k) ?_
                refine own_go (b := s₁.setTop (mkF m 61 #[iv cc] [(.int 1)])) (fun t k => XS.iconst X0.here hx rfl (hb hby d14_60) k) ?_
                refine own_go (b := s₁.setTop (mkF m 65 #[iv cc] [(.int 1)])) (fun t k => XS.goto X0.here hx rfl (pc0 := 61) (pc' := 65) rfl (hb hby d14_61) (by decide) (by decide) k) ?_
                exact own_retN X0 hx hlk (t := .boolean) hrt (by simp) (hb hby d14_65) (Nat.le_of_ble_eq_true rfl) (Nat.le_of_ble_eq_true rfl) (⟨by rw [own_ok01, if_pos (by simp [own_okP, eq_true hc1, eq_true hc2, eq_false hc3, eq_true hc7, eq_false hc8, eq_false hc9, eq_true hc10])]; rfl, N0, e0⟩)
              · refine own_go (b := s₁.setTop (mkF m 64 #[iv cc] [])) (fun t k => XS.icmpYes X0.here hx rfl (pc0 := 57) (pc' := 64) rfl (hb hby d14_57) rfl (feq hc10).2 (by decide) (by decide) k) ?_
                refine own_go (b := s₁.setTop (mkF m 65 #[iv cc] [(.int 0)])) (fun t k => XS.iconst X0.here hx rfl (hb hby d14_64) k) ?_
                exact own_retN X0 hx hlk (t := .boolean) hrt (by simp) (hb hby d14_65) (Nat.le_of_ble_eq_true rfl) (Nat.le_of_ble_eq_true rfl) (⟨by rw [own_ok01, if_neg (by simp [own_okP, eq_true hc1, eq_true hc2, eq_false hc3, eq_true hc7, eq_false hc8, eq_false hc9, eq_false hc10])]; rfl, N0, e0⟩)
        · refine own_go (b := s₁.setTop (mkF m 40 #[iv cc] [])) (fun t k => XS.icmpNo X0.here hx rfl (hb hby d14_37) rfl (flt hc7).2.2.1 k) ?_
          refine own_go (b := s₁.setTop (mkF m 41 #[iv cc] [(.int 1)])) (fun t k => XS.iconst X0.here hx rfl (hb hby d14_40) k) ?_
          exact own_retN X0 hx hlk (t := .boolean) hrt (by simp) (hb hby d14_41) (Nat.le_of_ble_eq_true rfl) (Nat.le_of_ble_eq_true rfl) (⟨by rw [own_ok01, if_pos (by simp [own_okP, eq_true hc1, eq_true hc2, eq_false hc3, eq_false hc7])]; rfl, N0, e0⟩)
    · refine own_go (b := s₁.setTop (mkF m 20 #[iv cc] [])) (fun t k => XS.icmpNo X0.here hx rfl (hb hby d14_17) rfl (flt hc2).1 k) ?_
      refine own_go (b := s₁.setTop (mkF m 21 #[iv cc] [(.int cc)])) (fun t k => XS.iloadN X0.here hx rfl (hb hby d14_20) rfl  k) ?_
      refine own_go (b := s₁.setTop (mkF m 23 #[iv cc] [(.int 122), (.int cc)])) (fun t k => XS.bipush X0.here hx rfl (hb hby d14_21) k) ?_
      by_cases hc11 : (122 : Int32) < cc
      · refine own_go (b := s₁.setTop (mkF m 28 #[iv cc] [])) (fun t k => XS.icmpYes X0.here hx rfl (pc0 := 23) (pc' := 28) rfl (hb hby d14_23) rfl (tlt hc11).2.2.1 (by decide) (by decide) k) ?_
        refine own_go (b := s₁.setTop (mkF m 29 #[iv cc] [(.int cc)])) (fun t k => XS.iloadN X0.here hx rfl (hb hby d14_28) rfl  k) ?_
        refine own_go (b := s₁.setTop (mkF m 31 #[iv cc] [(.int 48), (.int cc)])) (fun t k => XS.bipush X0.here hx rfl (hb hby d14_29) k) ?_
        by_cases hc12 : cc < (48 : Int32)
        · refine own_go (b := s₁.setTop (mkF m 42 #[iv cc] [])) (fun t k => XS.icmpYes X0.here hx rfl (pc0 := 31) (pc' := 42) rfl (hb hby d14_31) rfl (tlt hc12).1 (by decide) (by decide) k) ?_
          refine own_go (b := s₁.setTop (mkF m 43 #[iv cc] [(.int cc)])) (fun t k => XS.iloadN X0.here hx rfl (hb hby d14_42) rfl  k) ?_
          refine own_go (b := s₁.setTop (mkF m 45 #[iv cc] [(.int 46), (.int cc)])) (fun t k => XS.bipush X0.here hx rfl (hb hby d14_43) k) ?_
          by_cases hc13 : cc = (46 : Int32)
          · refine own_go (b := s₁.setTop (mkF m 60 #[iv cc] [])) (fun t k => XS.icmpYes X0.here hx rfl (pc0 := 45) (pc' := 60) rfl (hb hby d14_45) rfl (teq hc13).1 (by decide) (by decide) k) ?_
            refine own_go (b := s₁.setTop (mkF m 61 #[iv cc] [(.int 1)])) (fun t k => XS.iconst X0.here hx rfl (hb hby d14_60) k) ?_
            refine own_go (b := s₁.setTop (mkF m 65 #[iv cc] [(.int 1)])) (fun t k => XS.goto X0.here hx rfl (pc0 := 61) (pc' := 65) rfl (hb hby d14_61) (by decide) (by decide) k) ?_
            exact own_retN X0 hx hlk (t := .boolean) hrt (by simp) (hb hby d14_65) (Nat.le_of_ble_eq_true rfl) (Nat.le_of_ble_eq_true rfl) (⟨by rw [own_ok01, if_pos (by simp [own_okP, eq_true hc1, eq_false hc2, eq_true hc11, eq_true hc12, eq_true hc13])]; rfl, N0, e0⟩)
          · refine own_go (b := s₁.setTop (mkF m 48 #[iv cc] [])) (fun t k => XS.icmpNo X0.here hx rfl (hb hby d14_45) rfl (feq hc13).1 k) ?_
            refine own_go (b := s₁.setTop (mkF m 49 #[iv cc] [(.int cc)])) (fun t k => XS.iloadN X0.here hx rfl (hb hby d14_48) rfl  k) ?_
            refine own_go (b := s₁.setTop (mkF m 51 #[iv cc] [(.int 95), (.int cc)])) (fun t k => XS.bipush X0.here hx rfl (hb hby d14_49) k) ?_
            by_cases hc14 : cc = (95 : Int32)
            · refine own_go (b := s₁.setTop (mkF m 60 #[iv cc] [])) (fun t k => XS.icmpYes X0.here hx rfl (pc0 := 51) (pc' := 60) rfl (hb hby d14_51) rfl (teq hc14).1 (by decide) (by decide) k) ?_
              refine own_go (b := s₁.setTop (mkF m 61 #[iv cc] [(.int 1)])) (fun t k => XS.iconst X0.here hx rfl (hb hby d14_60) k) ?_
              refine own_go (b := s₁.setTop (mkF m 65 #[iv cc] [(.int 1)])) (fun t k => XS.goto X0.here hx rfl (pc0 := 61) (pc' := 65) rfl (hb hby d14_61) (by decide) (by decide) k) ?_
              exact own_retN X0 hx hlk (t := .boolean) hrt (by simp) (hb hby d14_65) (Nat.le_of_ble_eq_true rfl) (Nat.le_of_ble_eq_true rfl) (⟨by rw [own_ok01, if_pos (by simp [own_okP, eq_true hc1, eq_false hc2, eq_true hc11, eq_true hc12, eq_false hc13, eq_true hc14])]; rfl, N0, e0⟩)
            · refine own_go (b := s₁.setTop (mkF m 54 #[iv cc] [])) (fun t k => XS.icmpNo X0.here hx rfl (hb hby d14_51) rfl (feq hc14).1 k) ?_
              refine own_go (b := s₁.setTop (mkF m 55 #[iv cc] [(.int cc)])) (fun t k => XS.iloadN X0.here hx rfl (hb hby d14_54) rfl  k) ?_
              refine own_go (b := s₁.setTop (mkF m 57 #[iv cc] [(.int 45), (.int cc)])) (fun t k => XS.bipush X0.here hx rfl (hb hby d14_55) k) ?_
              by_cases hc15 : cc = (45 : Int32)
              · refine own_go (b := s₁.setTop (mkF m 60 #[iv cc] [])) (fun t k => XS.icmpNo X0.here hx rfl (hb hby d14_57) rfl (teq hc15).2 k) ?_
                refine own_go (b := s₁.setTop (mkF m 61 #[iv cc] [(.int 1)])) (fun t k => XS.iconst X0.here hx rfl (hb hby d14_60) k) ?_
                refine own_go (b := s₁.setTop (mkF m 65 #[iv cc] [(.int 1)])) (fun t k => XS.goto X0.here hx rfl (pc0 := 61) (pc' := 65) rfl (hb hby d14_61) (by decide) (by decide) k) ?_
                exact own_retN X0 hx hlk (t := .boolean) hrt (by simp) (hb hby d14_65) (Nat.le_of_ble_eq_true rfl) (Nat.le_of_ble_eq_true rfl) (⟨by rw [own_ok01, if_pos (by simp [own_okP, eq_true hc1, eq_false hc2, eq_true hc11, eq_true hc12, eq_false hc13, eq_false hc14, eq_true hc15])]; rfl, N0, e0⟩)
              · refine own_go (b := s₁.setTop (mkF m 64 #[iv cc] [])) (fun t k => XS.icmpYes X0.here hx rfl (pc0 := 57) (pc' := 64) rfl (hb hby d14_57) rfl (feq hc15).2 (by decide) (by decide) k) ?_
                refine own_go (b := s₁.setTop (mkF m 65 #[iv cc] [(.int 0)])) (fun t k => XS.iconst X0.here hx rfl (hb hby d14_64) k) ?_
                exact own_retN X0 hx hlk (t := .boolean) hrt (by simp) (hb hby d14_65) (Nat.le_of_ble_eq_true rfl) (Nat.le_of_ble_eq_true rfl) (⟨by rw [own_ok01, if_neg (by simp [own_okP, eq_true hc1, eq_false hc2, eq_true hc11, eq_true hc12, eq_false hc13, eq_false hc14, eq_false hc15])]; rfl, N0, e0⟩)
        · refine own_go (b := s₁.setTop (mkF m 34 #[iv cc] [])) (fun t k => XS.icmpNo X0.here hx rfl (hb hby d14_31) rfl (flt hc12).1 k) ?_
          refine own_go (b := s₁.setTop (mkF m 35 #[iv cc] [(.int cc)])) (fun t k => XS.iloadN X0.here hx rfl (hb hby d14_34) rfl  k) ?_
          refine own_go (b := s₁.setTop (mkF m 37 #[iv cc] [(.int 57), (.int cc)])) (fun t k => XS.bipush X0.here hx rfl (hb hby d14_35) k) ?_
          by_cases hc16 : (57 : Int32) < cc
          · refine own_go (b := s₁.setTop (mkF m 42 #[iv cc] [])) (fun t k => XS.icmpYes X0.here hx rfl (pc0 := 37) (pc' := 42) rfl (hb hby d14_37) rfl (tlt hc16).2.2.1 (by decide) (by decide) k) ?_
            refine own_go (b := s₁.setTop (mkF m 43 #[iv cc] [(.int cc)])) (fun t k => XS.iloadN X0.here hx rfl (hb hby d14_42) rfl  k) ?_
            refine own_go (b := s₁.setTop (mkF m 45 #[iv cc] [(.int 46), (.int cc)])) (fun t k => XS.bipush X0.here hx rfl (hb hby d14_43) k) ?_
            by_cases hc17 : cc = (46 : Int32)
            · refine own_go (b := s₁.setTop (mkF m 60 #[iv cc] [])) (fun t k => XS.icmpYes X0.here hx rfl (pc0 := 45) (pc' := 60) rfl (hb hby d14_45) rfl (teq hc17).1 (by decide) (by decide) k) ?_
              refine own_go (b := s₁.setTop (mkF m 61 #[iv cc] [(.int 1)])) (fun t k => XS.iconst X0.here hx rfl (hb hby d14_60) k) ?_
              refine own_go (b := s₁.setTop (mkF m 65 #[iv cc] [(.int 1)])) (fun t k => XS.goto X0.here hx rfl (pc0 := 61) (pc' := 65) rfl (hb hby d14_61) (by decide) (by decide) k) ?_
              exact own_retN X0 hx hlk (t := .boolean) hrt (by simp) (hb hby d14_65) (Nat.le_of_ble_eq_true rfl) (Nat.le_of_ble_eq_true rfl) (⟨by rw [own_ok01, if_pos (by simp [own_okP, eq_true hc1, eq_false hc2, eq_true hc11, eq_false hc12, eq_true hc16, eq_true hc17])]; rfl, N0, e0⟩)
            · refine own_go (b := s₁.setTop (mkF m 48 #[iv cc] [])) (fun t k => XS.icmpNo X0.here hx rfl (hb hby d14_45) rfl (feq hc17).1 k) ?_
              refine own_go (b := s₁.setTop (mkF m 49 #[iv cc] [(.int cc)])) (fun t k => XS.iloadN X0.here hx rfl (hb hby d14_48) rfl  k) ?_
              refine own_go (b := s₁.setTop (mkF m 51 #[iv cc] [(.int 95), (.int cc)])) (fun t k => XS.bipush X0.here hx rfl (hb hby d14_49) k) ?_
              by_cases hc18 : cc = (95 : Int32)
              · refine own_go (b := s₁.setTop (mkF m 60 #[iv cc] [])) (fun t k => XS.icmpYes X0.here hx rfl (pc0 := 51) (pc' := 60) rfl (hb hby d14_51) rfl (teq hc18).1 (by decide) (by decide) k) ?_
                refine own_go (b := s₁.setTop (mkF m 61 #[iv cc] [(.int 1)])) (fun t k => XS.iconst X0.here hx rfl (hb hby d14_60) k) ?_
                refine own_go (b := s₁.setTop (mkF m 65 #[iv cc] [(.int 1)])) (fun t k => XS.goto X0.here hx rfl (pc0 := 61) (pc' := 65) rfl (hb hby d14_61) (by decide) (by decide) k) ?_
                exact own_retN X0 hx hlk (t := .boolean) hrt (by simp) (hb hby d14_65) (Nat.le_of_ble_eq_true rfl) (Nat.le_of_ble_eq_true rfl) (⟨by rw [own_ok01, if_pos (by simp [own_okP, eq_true hc1, eq_false hc2, eq_true hc11, eq_false hc12, eq_true hc16, eq_false hc17, eq_true hc18])]; rfl, N0, e0⟩)
              · refine own_go (b := s₁.setTop (mkF m 54 #[iv cc] [])) (fun t k => XS.icmpNo X0.here hx rfl (hb hby d14_51) rfl (feq hc18).1 k) ?_
                refine own_go (b := s₁.setTop (mkF m 55 #[iv cc] [(.int cc)])) (fun t k => XS.iloadN X0.here hx rfl (hb hby d14_54) rfl  k) ?_
                refine own_go (b := s₁.setTop (mkF m 57 #[iv cc] [(.int 45), (.int cc)])) (fun t k => XS.bipush X0.here hx rfl (hb hby d14_55) k) ?_
                by_cases hc19 : cc = (45 : Int32)
                · refine own_go (b := s₁.setTop (mkF m 60 #[iv cc] [])) (fun t k => XS.icmpNo X0.here hx rfl (hb hby d14_57) rfl (teq hc19).2 k) ?_
                  refine own_go (b := s₁.setTop (mkF m 61 #[iv cc] [(.int 1)])) (fun t k => XS.iconst X0.here hx rfl (hb hby d14_60) k) ?_
                  refine own_go (b := s₁.setTop (mkF m 65 #[iv cc] [(.int 1)])) (fun t k => XS.goto X0.here hx rfl (pc0 := 61) (pc' := 65) rfl (hb hby d14_61) (by decide) (by decide) k) ?_
                  exact own_retN X0 hx hlk (t := .boolean) hrt (by simp) (hb hby d14_65) (Nat.le_of_ble_eq_true rfl) (Nat.le_of_ble_eq_true rfl) (⟨by rw [own_ok01, if_pos (by simp [own_okP, eq_true hc1, eq_false hc2, eq_true hc11, eq_false hc12, eq_true hc16, eq_false hc17, eq_false hc18, eq_true hc19])]; rfl, N0, e0⟩)
                · refine own_go (b := s₁.setTop (mkF m 64 #[iv cc] [])) (fun t k => XS.icmpYes X0.here hx rfl (pc0 := 57) (pc' := 64) rfl (hb hby d14_57) rfl (feq hc19).2 (by decide) (by decide) k) ?_
                  refine own_go (b := s₁.setTop (mkF m 65 #[iv cc] [(.int 0)])) (fun t k => XS.iconst X0.here hx rfl (hb hby d14_64) k) ?_
                  exact own_retN X0 hx hlk (t := .boolean) hrt (by simp) (hb hby d14_65) (Nat.le_of_ble_eq_true rfl) (Nat.le_of_ble_eq_true rfl) (⟨by rw [own_ok01, if_neg (by simp [own_okP, eq_true hc1, eq_false hc2, eq_true hc11, eq_false hc12, eq_true hc16, eq_false hc17, eq_false hc18, eq_false hc19])]; rfl, N0, e0⟩)
          · refine own_go (b := s₁.setTop (mkF m 40 #[iv cc] [])) (fun t k => XS.icmpNo X0.here hx rfl (hb hby d14_37) rfl (flt hc16).2.2.1 k) ?_
            refine own_go (b := s₁.setTop (mkF m 41 #[iv cc] [(.int 1)])) (fun t k => XS.iconst X0.here hx rfl (hb hby d14_40) k) ?_
            exact own_retN X0 hx hlk (t := .boolean) hrt (by simp) (hb hby d14_41) (Nat.le_of_ble_eq_true rfl) (Nat.le_of_ble_eq_true rfl) (⟨by rw [own_ok01, if_pos (by simp [own_okP, eq_true hc1, eq_false hc2, eq_true hc11, eq_false hc12, eq_false hc16])]; rfl, N0, e0⟩)
      · refine own_go (b := s₁.setTop (mkF m 26 #[iv cc] [])) (fun t k => XS.icmpNo X0.here hx rfl (hb hby d14_23) rfl (flt hc11).2.2.1 k) ?_
        refine own_go (b := s₁.setTop (mkF m 27 #[iv cc] [(.int 1)])) (fun t k => XS.iconst X0.here hx rfl (hb hby d14_26) k) ?_
        exact own_retN X0 hx hlk (t := .boolean) hrt (by simp) (hb hby d14_27) (Nat.le_of_ble_eq_true rfl) (Nat.le_of_ble_eq_true rfl) (⟨by rw [own_ok01, if_pos (by simp [own_okP, eq_true hc1, eq_false hc2, eq_false hc11])]; rfl, N0, e0⟩)
  · refine own_go (b := s₁.setTop (mkF m 6 #[iv cc] [])) (fun t k => XS.icmpNo X0.here hx rfl (hb hby d14_3) rfl (flt hc1).1 k) ?_
    refine own_go (b := s₁.setTop (mkF m 7 #[iv cc] [(.int cc)])) (fun t k => XS.iloadN X0.here hx rfl (hb hby d14_6) rfl  k) ?_
    refine own_go (b := s₁.setTop (mkF m 9 #[iv cc] [(.int 90), (.int cc)])) (fun t k => XS.bipush X0.here hx rfl (hb hby d14_7) k) ?_
    by_cases hc20 : (90 : Int32) < cc
    · refine own_go (b := s₁.setTop (mkF m 14 #[iv cc] [])) (fun t k => XS.icmpYes X0.here hx rfl (pc0 := 9) (pc' := 14) rfl (hb hby d14_9) rfl (tlt hc20).2.2.1 (by decide) (by decide) k) ?_
      refine own_go (b := s₁.setTop (mkF m 15 #[iv cc] [(.int cc)])) (fun t k => XS.iloadN X0.here hx rfl (hb hby d14_14) rfl  k) ?_
      refine own_go (b := s₁.setTop (mkF m 17 #[iv cc] [(.int 97), (.int cc)])) (fun t k => XS.bipush X0.here hx rfl (hb hby d14_15) k) ?_
      by_cases hc21 : cc < (97 : Int32)
      · refine own_go (b := s₁.setTop (mkF m 28 #[iv cc] [])) (fun t k => XS.icmpYes X0.here hx rfl (pc0 := 17) (pc' := 28) rfl (hb hby d14_17) rfl (tlt hc21).1 (by decide) (by decide) k) ?_
        refine own_go (b := s₁.setTop (mkF m 29 #[iv cc] [(.int cc)])) (fun t k => XS.iloadN X0.here hx rfl (hb hby d14_28) rfl  k) ?_
        refine own_go (b := s₁.setTop (mkF m 31 #[iv cc] [(.int 48), (.int cc)])) (fun t k => XS.bipush X0.here hx rfl (hb hby d14_29) k) ?_
        by_cases hc22 : cc < (48 : Int32)
        · refine own_go (b := s₁.setTop (mkF m 42 #[iv cc] [])) (fun t k => XS.icmpYes X0.here hx rfl (pc0 := 31) (pc' := 42) rfl (hb hby d14_31) rfl (tlt hc22).1 (by decide) (by decide) k) ?_
          refine own_go (b := s₁.setTop (mkF m 43 #[iv cc] [(.int cc)])) (fun t k => XS.iloadN X0.here hx rfl (hb hby d14_42) rfl  k) ?_
          refine own_go (b := s₁.setTop (mkF m 45 #[iv cc] [(.int 46), (.int cc)])) (fun t k => XS.bipush X0.here hx rfl (hb hby d14_43) k) ?_
          by_cases hc23 : cc = (46 : Int32)
          · refine own_go (b := s₁.setTop (mkF m 60 #[iv cc] [])) (fun t k => XS.icmpYes X0.here hx rfl (pc0 := 45) (pc' := 60) rfl (hb hby d14_45) rfl (teq hc23).1 (by decide) (by decide) k) ?_
            refine own_go (b := s₁.setTop (mkF m 61 #[iv cc] [(.int 1)])) (fun t k => XS.iconst X0.here hx rfl (hb hby d14_60) k) ?_
            refine own_go (b := s₁.setTop (mkF m 65 #[iv cc] [(.int 1)])) (fun t k => XS.goto X0.here hx rfl (pc0 := 61) (pc' := 65) rfl (hb hby d14_61) (by decide) (by decide) k) ?_
            exact own_retN X0 hx hlk (t := .boolean) hrt (by simp) (hb hby d14_65) (Nat.le_of_ble_eq_true rfl) (Nat.le_of_ble_eq_true rfl) (⟨by rw [own_ok01, if_pos (by simp [own_okP, eq_false hc1, eq_true hc20, eq_true hc21, eq_true hc22, eq_true hc23])]; rfl, N0, e0⟩)
          · refine own_go (b := s₁.setTop (mkF m 48 #[iv cc] [])) (fun t k => XS.icmpNo X0.here hx rfl (hb hby d14_45) rfl (feq hc23).1 k) ?_
            refine own_go (b := s₁.setTop (mkF m 49 #[iv cc] [(.int cc)])) (fun t k => XS.iloadN X0.here hx rfl (hb hby d14_48) rfl  k) ?_
            refine own_go (b := s₁.setTop (mkF m 51 #[iv cc] [(.int 95), (.int cc)])) (fun t k => XS.bipush X0.here hx rfl (hb hby d14_49) k) ?_
            by_cases hc24 : cc = (95 : Int32)
            · refine own_go (b := s₁.setTop (mkF m 60 #[iv cc] [])) (fun t k => XS.icmpYes X0.here hx rfl (pc0 := 51) (pc' := 60) rfl (hb hby d14_51) rfl (teq hc24).1 (by decide) (by decide) k) ?_
              refine own_go (b := s₁.setTop (mkF m 61 #[iv cc] [(.int 1)])) (fun t k => XS.iconst X0.here hx rfl (hb hby d14_60) k) ?_
              refine own_go (b := s₁.setTop (mkF m 65 #[iv cc] [(.int 1)])) (fun t k => XS.goto X0.here hx rfl (pc0 := 61) (pc' := 65) rfl (hb hby d14_61) (by decide) (by decide) k) ?_
              exact own_retN X0 hx hlk (t := .boolean) hrt (by simp) (hb hby d14_65) (Nat.le_of_ble_eq_true rfl) (Nat.le_of_ble_eq_true rfl) (⟨by rw [own_ok01, if_pos (by simp [own_okP, eq_false hc1, eq_true hc20, eq_true hc21, eq_true hc22, eq_false hc23, eq_true hc24])]; rfl, N0, e0⟩)
            · refine own_go (b := s₁.setTop (mkF m 54 #[iv cc] [])) (fun t k => XS.icmpNo X0.here hx rfl (hb hby d14_51) rfl (feq hc24).1 k) ?_
              refine own_go (b := s₁.setTop (mkF m 55 #[iv cc] [(.int cc)])) (fun t k => XS.iloadN X0.here hx rfl (hb hby d14_54) rfl  k) ?_
              refine own_go (b := s₁.setTop (mkF m 57 #[iv cc] [(.int 45), (.int cc)])) (fun t k => XS.bipush X0.here hx rfl (hb hby d14_55) k) ?_
              by_cases hc25 : cc = (45 : Int32)
              · refine own_go (b := s₁.setTop (mkF m 60 #[iv cc] [])) (fun t k => XS.icmpNo X0.here hx rfl (hb hby d14_57) rfl (teq hc25).2 k) ?_
                refine own_go (b := s₁.setTop (mkF m 61 #[iv cc] [(.int 1)])) (fun t k => XS.iconst X0.here hx rfl (hb hby d14_60) k) ?_
                refine own_go (b := s₁.setTop (mkF m 65 #[iv cc] [(.int 1)])) (fun t k => XS.goto X0.here hx rfl (pc0 := 61) (pc' := 65) rfl (hb hby d14_61) (by decide) (by decide) k) ?_
                exact own_retN X0 hx hlk (t := .boolean) hrt (by simp) (hb hby d14_65) (Nat.le_of_ble_eq_true rfl) (Nat.le_of_ble_eq_true rfl) (⟨by rw [own_ok01, if_pos (by simp [own_okP, eq_false hc1, eq_true hc20, eq_true hc21, eq_true hc22, eq_false hc23, eq_false hc24, eq_true hc25])]; rfl, N0, e0⟩)
              · refine own_go (b := s₁.setTop (mkF m 64 #[iv cc] [])) (fun t k => XS.icmpYes X0.here hx rfl (pc0 := 57) (pc' := 64) rfl (hb hby d14_57) rfl (feq hc25).2 (by decide) (by decide) k) ?_
                refine own_go (b := s₁.setTop (mkF m 65 #[iv cc] [(.int 0)])) (fun t k => XS.iconst X0.here hx rfl (hb hby d14_64) k) ?_
                exact own_retN X0 hx hlk (t := .boolean) hrt (by simp) (hb hby d14_65) (Nat.le_of_ble_eq_true rfl) (Nat.le_of_ble_eq_true rfl) (⟨by rw [own_ok01, if_neg (by simp [own_okP, eq_false hc1, eq_true hc20, eq_true hc21, eq_true hc22, eq_false hc23, eq_false hc24, eq_false hc25])]; rfl, N0, e0⟩)
        · refine own_go (b := s₁.setTop (mkF m 34 #[iv cc] [])) (fun t k => XS.icmpNo X0.here hx rfl (hb hby d14_31) rfl (flt hc22).1 k) ?_
          refine own_go (b := s₁.setTop (mkF m 35 #[iv cc] [(.int cc)])) (fun t k => XS.iloadN X0.here hx rfl (hb hby d14_34) rfl  k) ?_
          refine own_go (b := s₁.setTop (mkF m 37 #[iv cc] [(.int 57), (.int cc)])) (fun t k => XS.bipush X0.here hx rfl (hb hby d14_35) k) ?_
          by_cases hc26 : (57 : Int32) < cc
          · refine own_go (b := s₁.setTop (mkF m 42 #[iv cc] [])) (fun t k => XS.icmpYes X0.here hx rfl (pc0 := 37) (pc' := 42) rfl (hb hby d14_37) rfl (tlt hc26).2.2.1 (by decide) (by decide) k) ?_
            refine own_go (b := s₁.setTop (mkF m 43 #[iv cc] [(.int cc)])) (fun t k => XS.iloadN X0.here hx rfl (hb hby d14_42) rfl  k) ?_
            refine own_go (b := s₁.setTop (mkF m 45 #[iv cc] [(.int 46), (.int cc)])) (fun t k => XS.bipush X0.here hx rfl (hb hby d14_43) k) ?_
            by_cases hc27 : cc = (46 : Int32)
            · refine own_go (b := s₁.setTop (mkF m 60 #[iv cc] [])) (fun t k => XS.icmpYes X0.here hx rfl (pc0 := 45) (pc' := 60) rfl (hb hby d14_45) rfl (teq hc27).1 (by decide) (by decide) k) ?_
              refine own_go (b := s₁.setTop (mkF m 61 #[iv cc] [(.int 1)])) (fun t k => XS.iconst X0.here hx rfl (hb hby d14_60) k) ?_
              refine own_go (b := s₁.setTop (mkF m 65 #[iv cc] [(.int 1)])) (fun t k => XS.goto X0.here hx rfl (pc0 := 61) (pc' := 65) rfl (hb hby d14_61) (by decide) (by decide) k) ?_
              exact own_retN X0 hx hlk (t := .boolean) hrt (by simp) (hb hby d14_65) (Nat.le_of_ble_eq_true rfl) (Nat.le_of_ble_eq_true rfl) (⟨by rw [own_ok01, if_pos (by simp [own_okP, eq_false hc1, eq_true hc20, eq_true hc21, eq_false hc22, eq_true hc26, eq_true hc27])]; rfl, N0, e0⟩)
            · refine own_go (b := s₁.setTop (mkF m 48 #[iv cc] [])) (fun t k => XS.icmpNo X0.here hx rfl (hb hby d14_45) rfl (feq hc27).1 k) ?_
              refine own_go (b := s₁.setTop (mkF m 49 #[iv cc] [(.int cc)])) (fun t k => XS.iloadN X0.here hx rfl (hb hby d14_48) rfl  k) ?_
              refine own_go (b := s₁.setTop (mkF m 51 #[iv cc] [(.int 95), (.int cc)])) (fun t k => XS.bipush X0.here hx rfl (hb hby d14_49) k) ?_
              by_cases hc28 : cc = (95 : Int32)
              · refine own_go (b := s₁.setTop (mkF m 60 #[iv cc] [])) (fun t k => XS.icmpYes X0.here hx rfl (pc0 := 51) (pc' := 60) rfl (hb hby d14_51) rfl (teq hc28).1 (by decide) (by decide) k) ?_
                refine own_go (b := s₁.setTop (mkF m 61 #[iv cc] [(.int 1)])) (fun t k => XS.iconst X0.here hx rfl (hb hby d14_60) k) ?_
                refine own_go (b := s₁.setTop (mkF m 65 #[iv cc] [(.int 1)])) (fun t k => XS.goto X0.here hx rfl (pc0 := 61) (pc' := 65) rfl (hb hby d14_61) (by decide) (by decide) k) ?_
                exact own_retN X0 hx hlk (t := .boolean) hrt (by simp) (hb hby d14_65) (Nat.le_of_ble_eq_true rfl) (Nat.le_of_ble_eq_true rfl) (⟨by rw [own_ok01, if_pos (by simp [own_okP, eq_false hc1, eq_true hc20, eq_true hc21, eq_false hc22, eq_true hc26, eq_false hc27, eq_true hc28])]; rfl, N0, e0⟩)
              · refine own_go (b := s₁.setTop (mkF m 54 #[iv cc] [])) (fun t k => XS.icmpNo X0.here hx rfl (hb hby d14_51) rfl (feq hc28).1 k) ?_
                refine own_go (b := s₁.setTop (mkF m 55 #[iv cc] [(.int cc)])) (fun t k => XS.iloadN X0.here hx rfl (hb hby d14_54) rfl  k) ?_
                refine own_go (b := s₁.setTop (mkF m 57 #[iv cc] [(.int 45), (.int cc)])) (fun t k => XS.bipush X0.here hx rfl (hb hby d14_55) k) ?_
                by_cases hc29 : cc = (45 : Int32)
                · refine own_go (b := s₁.setTop (mkF m 60 #[iv cc] [])) (fun t k => XS.icmpNo X0.here hx rfl (hb hby d14_57) rfl (teq hc29).2 k) ?_
                  refine own_go (b := s₁.setTop (mkF m 61 #[iv cc] [(.int 1)])) (fun t k => XS.iconst X0.here hx rfl (hb hby d14_60) k) ?_
                  refine own_go (b := s₁.setTop (mkF m 65 #[iv cc] [(.int 1)])) (fun t k => XS.goto X0.here hx rfl (pc0 := 61) (pc' := 65) rfl (hb hby d14_61) (by decide) (by decide) k) ?_
                  exact own_retN X0 hx hlk (t := .boolean) hrt (by simp) (hb hby d14_65) (Nat.le_of_ble_eq_true rfl) (Nat.le_of_ble_eq_true rfl) (⟨by rw [own_ok01, if_pos (by simp [own_okP, eq_false hc1, eq_true hc20, eq_true hc21, eq_false hc22, eq_true hc26, eq_false hc27, eq_false hc28, eq_true hc29])]; rfl, N0, e0⟩)
                · refine own_go (b := s₁.setTop (mkF m 64 #[iv cc] [])) (fun t k => XS.icmpYes X0.here hx rfl (pc0 := 57) (pc' := 64) rfl (hb hby d14_57) rfl (feq hc29).2 (by decide) (by decide) k) ?_
                  refine own_go (b := s₁.setTop (mkF m 65 #[iv cc] [(.int 0)])) (fun t k => XS.iconst X0.here hx rfl (hb hby d14_64) k) ?_
                  exact own_retN X0 hx hlk (t := .boolean) hrt (by simp) (hb hby d14_65) (Nat.le_of_ble_eq_true rfl) (Nat.le_of_ble_eq_true rfl) (⟨by rw [own_ok01, if_neg (by simp [own_okP, eq_false hc1, eq_true hc20, eq_true hc21, eq_false hc22, eq_true hc26, eq_false hc27, eq_false hc28, eq_false hc29])]; rfl, N0, e0⟩)
          · refine own_go (b := s₁.setTop (mkF m 40 #[iv cc] [])) (fun t k => XS.icmpNo X0.here hx rfl (hb hby d14_37) rfl (flt hc26).2.2.1 k) ?_
            refine own_go (b := s₁.setTop (mkF m 41 #[iv cc] [(.int 1)])) (fun t k => XS.iconst X0.here hx rfl (hb hby d14_40) k) ?_
            exact own_retN X0 hx hlk (t := .boolean) hrt (by simp) (hb hby d14_41) (Nat.le_of_ble_eq_true rfl) (Nat.le_of_ble_eq_true rfl) (⟨by rw [own_ok01, if_pos (by simp [own_okP, eq_false hc1, eq_true hc20, eq_true hc21, eq_false hc22, eq_false hc26])]; rfl, N0, e0⟩)
      · refine own_go (b := s₁.setTop (mkF m 20 #[iv cc] [])) (fun t k => XS.icmpNo X0.here hx rfl (hb hby d14_17) rfl (flt hc21).1 k) ?_
        refine own_go (b := s₁.setTop (mkF m 21 #[iv cc] [(.int cc)])) (fun t k => XS.iloadN X0.here hx rfl (hb hby d14_20) rfl  k) ?_
        refine own_go (b := s₁.setTop (mkF m 23 #[iv cc] [(.int 122), (.int cc)])) (fun t k => XS.bipush X0.here hx rfl (hb hby d14_21) k) ?_
        by_cases hc30 : (122 : Int32) < cc
        · refine own_go (b := s₁.setTop (mkF m 28 #[iv cc] [])) (fun t k => XS.icmpYes X0.here hx rfl (pc0 := 23) (pc' := 28) rfl (hb hby d14_23) rfl (tlt hc30).2.2.1 (by decide) (by decide) k) ?_
          refine own_go (b := s₁.setTop (mkF m 29 #[iv cc] [(.int cc)])) (fun t k => XS.iloadN X0.here hx rfl (hb hby d14_28) rfl  k) ?_
          refine own_go (b := s₁.setTop (mkF m 31 #[iv cc] [(.int 48), (.int cc)])) (fun t k => XS.bipush X0.here hx rfl (hb hby d14_29) k) ?_
          by_cases hc31 : cc < (48 : Int32)
          · refine own_go (b := s₁.setTop (mkF m 42 #[iv cc] [])) (fun t k => XS.icmpYes X0.here hx rfl (pc0 := 31) (pc' := 42) rfl (hb hby d14_31) rfl (tlt hc31).1 (by decide) (by decide) k) ?_
            refine own_go (b := s₁.setTop (mkF m 43 #[iv cc] [(.int cc)])) (fun t k => XS.iloadN X0.here hx rfl (hb hby d14_42) rfl  k) ?_
            refine own_go (b := s₁.setTop (mkF m 45 #[iv cc] [(.int 46), (.int cc)])) (fun t k => XS.bipush X0.here hx rfl (hb hby d14_43) k) ?_
            by_cases hc32 : cc = (46 : Int32)
            · refine own_go (b := s₁.setTop (mkF m 60 #[iv cc] [])) (fun t k => XS.icmpYes X0.here hx rfl (pc0 := 45) (pc' := 60) rfl (hb hby d14_45) rfl (teq hc32).1 (by decide) (by decide) k) ?_
              refine own_go (b := s₁.setTop (mkF m 61 #[iv cc] [(.int 1)])) (fun t k => XS.iconst X0.here hx rfl (hb hby d14_60) k) ?_
              refine own_go (b := s₁.setTop (mkF m 65 #[iv cc] [(.int 1)])) (fun t k => XS.goto X0.here hx rfl (pc0 := 61) (pc' := 65) rfl (hb hby d14_61) (by decide) (by decide) k) ?_
              exact own_retN X0 hx hlk (t := .boolean) hrt (by simp) (hb hby d14_65) (Nat.le_of_ble_eq_true rfl) (Nat.le_of_ble_eq_true rfl) (⟨by rw [own_ok01, if_pos (by simp [own_okP, eq_false hc1, eq_true hc20, eq_false hc21, eq_true hc30, eq_true hc31, eq_true hc32])]; rfl, N0, e0⟩)
            · refine own_go (b := s₁.setTop (mkF m 48 #[iv cc] [])) (fun t k => XS.icmpNo X0.here hx rfl (hb hby d14_45) rfl (feq hc32).1 k) ?_
              refine own_go (b := s₁.setTop (mkF m 49 #[iv cc] [(.int cc)])) (fun t k => XS.iloadN X0.here hx rfl (hb hby d14_48) rfl  k) ?_
              refine own_go (b := s₁.setTop (mkF m 51 #[iv cc] [(.int 95), (.int cc)])) (fun t k => XS.bipush X0.here hx rfl (hb hby d14_49) k) ?_
              by_cases hc33 : cc = (95 : Int32)
              · refine own_go (b := s₁.setTop (mkF m 60 #[iv cc] [])) (fun t k => XS.icmpYes X0.here hx rfl (pc0 := 51) (pc' := 60) rfl (hb hby d14_51) rfl (teq hc33).1 (by decide) (by decide) k) ?_
                refine own_go (b := s₁.setTop (mkF m 61 #[iv cc] [(.int 1)])) (fun t k => XS.iconst X0.here hx rfl (hb hby d14_60) k) ?_
                refine own_go (b := s₁.setTop (mkF m 65 #[iv cc] [(.int 1)])) (fun t k => XS.goto X0.here hx rfl (pc0 := 61) (pc' := 65) rfl (hb hby d14_61) (by decide) (by decide) k) ?_
                exact own_retN X0 hx hlk (t := .boolean) hrt (by simp) (hb hby d14_65) (Nat.le_of_ble_eq_true rfl) (Nat.le_of_ble_eq_true rfl) (⟨by rw [own_ok01, if_pos (by simp [own_okP, eq_false hc1, eq_true hc20, eq_false hc21, eq_true hc30, eq_true hc31, eq_false hc32, eq_true hc33])]; rfl, N0, e0⟩)
              · refine own_go (b := s₁.setTop (mkF m 54 #[iv cc] [])) (fun t k => XS.icmpNo X0.here hx rfl (hb hby d14_51) rfl (feq hc33).1 k) ?_
                refine own_go (b := s₁.setTop (mkF m 55 #[iv cc] [(.int cc)])) (fun t k => XS.iloadN X0.here hx rfl (hb hby d14_54) rfl  k) ?_
                refine own_go (b := s₁.setTop (mkF m 57 #[iv cc] [(.int 45), (.int cc)])) (fun t k => XS.bipush X0.here hx rfl (hb hby d14_55) k) ?_
                by_cases hc34 : cc = (45 : Int32)
                · refine own_go (b := s₁.setTop (mkF m 60 #[iv cc] [])) (fun t k => XS.icmpNo X0.here hx rfl (hb hby d14_57) rfl (teq hc34).2 k) ?_
                  refine own_go (b := s₁.setTop (mkF m 61 #[iv cc] [(.int 1)])) (fun t k => XS.iconst X0.here hx rfl (hb hby d14_60) k) ?_
                  refine own_go (b := s₁.setTop (mkF m 65 #[iv cc] [(.int 1)])) (fun t k => XS.goto X0.here hx rfl (pc0 := 61) (pc' := 65) rfl (hb hby d14_61) (by decide) (by decide) k) ?_
                  exact own_retN X0 hx hlk (t := .boolean) hrt (by simp) (hb hby d14_65) (Nat.le_of_ble_eq_true rfl) (Nat.le_of_ble_eq_true rfl) (⟨by rw [own_ok01, if_pos (by simp [own_okP, eq_false hc1, eq_true hc20, eq_false hc21, eq_true hc30, eq_true hc31, eq_false hc32, eq_false hc33, eq_true hc34])]; rfl, N0, e0⟩)
                · refine own_go (b := s₁.setTop (mkF m 64 #[iv cc] [])) (fun t k => XS.icmpYes X0.here hx rfl (pc0 := 57) (pc' := 64) rfl (hb hby d14_57) rfl (feq hc34).2 (by decide) (by decide) k) ?_
                  refine own_go (b := s₁.setTop (mkF m 65 #[iv cc] [(.int 0)])) (fun t k => XS.iconst X0.here hx rfl (hb hby d14_64) k) ?_
                  exact own_retN X0 hx hlk (t := .boolean) hrt (by simp) (hb hby d14_65) (Nat.le_of_ble_eq_true rfl) (Nat.le_of_ble_eq_true rfl) (⟨by rw [own_ok01, if_neg (by simp [own_okP, eq_false hc1, eq_true hc20, eq_false hc21, eq_true hc30, eq_true hc31, eq_false hc32, eq_false hc33, eq_false hc34])]; rfl, N0, e0⟩)
          · refine own_go (b := s₁.setTop (mkF m 34 #[iv cc] [])) (fun t k => XS.icmpNo X0.here hx rfl (hb hby d14_31) rfl (flt hc31).1 k) ?_
            refine own_go (b := s₁.setTop (mkF m 35 #[iv cc] [(.int cc)])) (fun t k => XS.iloadN X0.here hx rfl (hb hby d14_34) rfl  k) ?_
            refine own_go (b := s₁.setTop (mkF m 37 #[iv cc] [(.int 57), (.int cc)])) (fun t k => XS.bipush X0.here hx rfl (hb hby d14_35) k) ?_
            by_cases hc35 : (57 : Int32) < cc
            · refine own_go (b := s₁.setTop (mkF m 42 #[iv cc] [])) (fun t k => XS.icmpYes X0.here hx rfl (pc0 := 37) (pc' := 42) rfl (hb hby d14_37) rfl (tlt hc35).2.2.1 (by decide) (by decide) k) ?_
              refine own_go (b := s₁.setTop (mkF m 43 #[iv cc] [(.int cc)])) (fun t k => XS.iloadN X0.here hx rfl (hb hby d14_42) rfl  k) ?_
              refine own_go (b := s₁.setTop (mkF m 45 #[iv cc] [(.int 46), (.int cc)])) (fun t k => XS.bipush X0.here hx rfl (hb hby d14_43) k) ?_
              by_cases hc36 : cc = (46 : Int32)
              · refine own_go (b := s₁.setTop (mkF m 60 #[iv cc] [])) (fun t k => XS.icmpYes X0.here hx rfl (pc0 := 45) (pc' := 60) rfl (hb hby d14_45) rfl (teq hc36).1 (by decide) (by decide) k) ?_
                refine own_go (b := s₁.setTop (mkF m 61 #[iv cc] [(.int 1)])) (fun t k => XS.iconst X0.here hx rfl (hb hby d14_60) k) ?_
                refine own_go (b := s₁.setTop (mkF m 65 #[iv cc] [(.int 1)])) (fun t k => XS.goto X0.here hx rfl (pc0 := 61) (pc' := 65) rfl (hb hby d14_61) (by decide) (by decide) k) ?_
                exact own_retN X0 hx hlk (t := .boolean) hrt (by simp) (hb hby d14_65) (Nat.le_of_ble_eq_true rfl) (Nat.le_of_ble_eq_true rfl) (⟨by rw [own_ok01, if_pos (by simp [own_okP, eq_false hc1, eq_true hc20, eq_false hc21, eq_true hc30, eq_false hc31, eq_true hc35, eq_true hc36])]; rfl, N0, e0⟩)
              · refine own_go (b := s₁.setTop (mkF m 48 #[iv cc] [])) (fun t k => XS.icmpNo X0.here hx rfl (hb hby d14_45) rfl (feq hc36).1 k) ?_
                refine own_go (b := s₁.setTop (mkF m 49 #[iv cc] [(.int cc)])) (fun t k => XS.iloadN X0.here hx rfl (hb hby d14_48) rfl  k) ?_
                refine own_go (b := s₁.setTop (mkF m 51 #[iv cc] [(.int 95), (.int cc)])) (fun t k => XS.bipush X0.here hx rfl (hb hby d14_49) k) ?_
                by_cases hc37 : cc = (95 : Int32)
                · refine own_go (b := s₁.setTop (mkF m 60 #[iv cc] [])) (fun t k => XS.icmpYes X0.here hx rfl (pc0 := 51) (pc' := 60) rfl (hb hby d14_51) rfl (teq hc37).1 (by decide) (by decide) k) ?_
                  refine own_go (b := s₁.setTop (mkF m 61 #[iv cc] [(.int 1)])) (fun t k => XS.iconst X0.here hx rfl (hb hby d14_60) k) ?_
                  refine own_go (b := s₁.setTop (mkF m 65 #[iv cc] [(.int 1)])) (fun t k => XS.goto X0.here hx rfl (pc0 := 61) (pc' := 65) rfl (hb hby d14_61) (by decide) (by decide) k) ?_
                  exact own_retN X0 hx hlk (t := .boolean) hrt (by simp) (hb hby d14_65) (Nat.le_of_ble_eq_true rfl) (Nat.le_of_ble_eq_true rfl) (⟨by rw [own_ok01, if_pos (by simp [own_okP, eq_false hc1, eq_true hc20, eq_false hc21, eq_true hc30, eq_false hc31, eq_true hc35, eq_false hc36, eq_true hc37])]; rfl, N0, e0⟩)
                · refine own_go (b := s₁.setTop (mkF m 54 #[iv cc] [])) (fun t k => XS.icmpNo X0.here hx rfl (hb hby d14_51) rfl (feq hc37).1 k) ?_
                  refine own_go (b := s₁.setTop (mkF m 55 #[iv cc] [(.int cc)])) (fun t k => XS.iloadN X0.here hx rfl (hb hby d14_54) rfl  k) ?_
                  refine own_go (b := s₁.setTop (mkF m 57 #[iv cc] [(.int 45), (.int cc)])) (fun t k => XS.bipush X0.here hx rfl (hb hby d14_55) k) ?_
                  by_cases hc38 : cc = (45 : Int32)
                  · refine own_go (b := s₁.setTop (mkF m 60 #[iv cc] [])) (fun t k => XS.icmpNo X0.here hx rfl (hb hby d14_57) rfl (teq hc38).2 k) ?_
                    refine own_go (b := s₁.setTop (mkF m 61 #[iv cc] [(.int 1)])) (fun t k => XS.iconst X0.here hx rfl (hb hby d14_60) k) ?_
                    refine own_go (b := s₁.setTop (mkF m 65 #[iv cc] [(.int 1)])) (fun t k => XS.goto X0.here hx rfl (pc0 := 61) (pc' := 65) rfl (hb hby d14_61) (by decide) (by decide) k) ?_
                    exact own_retN X0 hx hlk (t := .boolean) hrt (by simp) (hb hby d14_65) (Nat.le_of_ble_eq_true rfl) (Nat.le_of_ble_eq_true rfl) (⟨by rw [own_ok01, if_pos (by simp [own_okP, eq_false hc1, eq_true hc20, eq_false hc21, eq_true hc30, eq_false hc31, eq_true hc35, eq_false hc36, eq_false hc37, eq_true hc38])]; rfl, N0, e0⟩)
                  · refine own_go (b := s₁.setTop (mkF m 64 #[iv cc] [])) (fun t k => XS.icmpYes X0.here hx rfl (pc0 := 57) (pc' := 64) rfl (hb hby d14_57) rfl (feq hc38).2 (by decide) (by decide) k) ?_
                    refine own_go (b := s₁.setTop (mkF m 65 #[iv cc] [(.int 0)])) (fun t k => XS.iconst X0.here hx rfl (hb hby d14_64) k) ?_
                    exact own_retN X0 hx hlk (t := .boolean) hrt (by simp) (hb hby d14_65) (Nat.le_of_ble_eq_true rfl) (Nat.le_of_ble_eq_true rfl) (⟨by rw [own_ok01, if_neg (by simp [own_okP, eq_false hc1, eq_true hc20, eq_false hc21, eq_true hc30, eq_false hc31, eq_true hc35, eq_false hc36, eq_false hc37, eq_false hc38])]; rfl, N0, e0⟩)
            · refine own_go (b := s₁.setTop (mkF m 40 #[iv cc] [])) (fun t k => XS.icmpNo X0.here hx rfl (hb hby d14_37) rfl (flt hc35).2.2.1 k) ?_
              refine own_go (b := s₁.setTop (mkF m 41 #[iv cc] [(.int 1)])) (fun t k => XS.iconst X0.here hx rfl (hb hby d14_40) k) ?_
              exact own_retN X0 hx hlk (t := .boolean) hrt (by simp) (hb hby d14_41) (Nat.le_of_ble_eq_true rfl) (Nat.le_of_ble_eq_true rfl) (⟨by rw [own_ok01, if_pos (by simp [own_okP, eq_false hc1, eq_true hc20, eq_false hc21, eq_true hc30, eq_false hc31, eq_false hc35])]; rfl, N0, e0⟩)
        · refine own_go (b := s₁.setTop (mkF m 26 #[iv cc] [])) (fun t k => XS.icmpNo X0.here hx rfl (hb hby d14_23) rfl (flt hc30).2.2.1 k) ?_
          refine own_go (b := s₁.setTop (mkF m 27 #[iv cc] [(.int 1)])) (fun t k => XS.iconst X0.here hx rfl (hb hby d14_26) k) ?_
          exact own_retN X0 hx hlk (t := .boolean) hrt (by simp) (hb hby d14_27) (Nat.le_of_ble_eq_true rfl) (Nat.le_of_ble_eq_true rfl) (⟨by rw [own_ok01, if_pos (by simp [own_okP, eq_false hc1, eq_true hc20, eq_false hc21, eq_false hc30])]; rfl, N0, e0⟩)
    · refine own_go (b := s₁.setTop (mkF m 12 #[iv cc] [])) (fun t k => XS.icmpNo X0.here hx rfl (hb hby d14_9) rfl (flt hc20).2.2.1 k) ?_
      refine own_go (b := s₁.setTop (mkF m 13 #[iv cc] [(.int 1)])) (fun t k => XS.iconst X0.here hx rfl (hb hby d14_12) k) ?_
      exact own_retN X0 hx hlk (t := .boolean) hrt (by simp) (hb hby d14_13) (Nat.le_of_ble_eq_true rfl) (Nat.le_of_ble_eq_true rfl) (⟨by rw [own_ok01, if_pos (by simp [own_okP, eq_false hc1, eq_false hc20])]; rfl, N0, e0⟩)
theorem own_r8 (k : Int32) : ∃ j : Nat, j < 8 ∧ (k &&& 2147483647) % 8 = j.toInt32 := by
  have h1 := c_mask k 2147483647 31 (by decide) (by decide)
  have h2 := (c_irem (k &&& 2147483647) 8 8 (by decide)).1 (by omega)
  refine ⟨((k &&& 2147483647) % 8).toInt.toNat, by omega, ?_⟩
  rw [← Int32.toInt_inj, len_toInt (by omega)]
  omega
def own_l0 : List Int32 := [48, 49, 50, 51, 52, 53, 54, 55, 56, 57, 97, 98, 99, 100, 101, 102, 48, 49, 50, 51, 52, 53, 54, 55, 56, 57, 97, 98, 99, 100, 101, 102, 48, 49, 50, 51, 52, 53, 54, 55, 56, 57, 97, 98, 99, 100, 101, 102, 48, 49, 50, 51, 52, 53, 54, 55, 56, 57, 97, 98, 99, 100, 101, 102, 48, 49, 50, 51, 52, 53, 54, 55, 56, 57, 97, 98, 99, 100, 101, 102, 48, 49, 50, 51, 52, 53, 54, 55, 56, 57, 97, 98, 99, 100, 101, 102, 48, 49, 50, 51, 52, 53, 54, 55, 56, 57, 97, 98, 99, 100, 101, 102, 48, 49, 50, 51, 52, 53, 54, 55, 56, 57, 97, 98, 99, 100, 101, 102]
theorem own_l0_len : own_l0.length = 128 := by decide +kernel
def own_l1 : List Int32 := [65, 66, 67, 68, 69, 70, 71, 72, 73, 74, 46, 75, 76, 77, 78, 95, 65, 66, 67, 68, 69, 70, 71, 72, 73, 74, 46, 75, 76, 77, 78, 95, 65, 66, 67, 68, 69, 70, 71, 72, 73, 74, 46, 75, 76, 77, 78, 95, 65, 66, 67, 68, 69, 70, 71, 72, 73, 74, 46, 75, 76, 77, 78, 95, 65, 66, 67, 68, 69, 70, 71, 72, 73, 74, 46, 75, 76, 77, 78, 95, 65, 66, 67, 68, 69, 70, 71, 72, 73, 74, 46, 75, 76, 77, 78, 95, 65, 66, 67, 68, 69, 70, 71, 72, 73, 74, 46, 75, 76, 77, 78, 95, 65, 66, 67, 68, 69, 70, 71, 72, 73, 74, 46, 75, 76, 77, 78, 95, 45]
theorem own_l1_len : own_l1.length = 129 := by decide +kernel
theorem own_l0_wf : own_wf own_l0 := by decide +kernel
theorem own_l1_wf : ¬ own_wf own_l1 := fun q => absurd q.2.1 (by rw [own_l1_len]; decide)
theorem pd_22 : parseMethodDescriptor "(Ljava/lang/String;)Ljava/util/Optional;" = some ⟨[(.object "java/lang/String")], some (.object "java/util/Optional")⟩ := by decide +kernel
theorem pd_23 : parseMethodDescriptor "()Ljava/lang/Object;" = some ⟨[], some (.object "java/lang/Object")⟩ := by decide +kernel
theorem pd_24 : parseMethodDescriptor "()Ljava/lang/String;" = some ⟨[], some (.object "java/lang/String")⟩ := by decide +kernel
theorem pd_25 : parseMethodDescriptor "(Ljava/lang/Object;)Z" = some ⟨[(.object "java/lang/Object")], some .boolean⟩ := by decide +kernel
theorem pd_26 : parseMethodDescriptor "([C)V" = some ⟨[(.array .char)], none⟩ := by decide +kernel
theorem pd_27 : parseMethodDescriptor "(C)Z" = some ⟨[.char], some .boolean⟩ := by decide +kernel
theorem ef_0 (m : MethodId) (qa : Int32) (qb : Int32) (qc : Int32) (qd : Int32) (qs : Int32) : entryFrame m #[(.int qa), (.int qb), (.int qc), (.int qd), (.int qs)] maxLocals = mkF m 0 #[iv qa, iv qb, iv qc, iv qd, iv qs, .unset, .unset, .unset, .unset, .unset, .unset, .unset, .unset] [] := by first | (simp [entryFrame, mkF, argsToLocals, Value.category, maxLocals]; done) | rfl
def Q0 (Z : State) (qa : Int32) (qb : Int32) (qc : Int32) (qd : Int32) (qs : Int32) (G1 : Int32) (fm : Value) (al : Addr) (cA : Cell) (em : Addr) (h0 : Heap) (n0 : Nat) (v : Option Value) (h : Heap) (L : List Loc) : Prop := v = some (.int 1) ∧ Fr n0 L
set_option maxRecDepth 65536 in
set_option maxHeartbeats 40000000 in
theorem rm0 (l : Launch) (Z : State) (a0 : Array Value) (hw : ∀ d ∈ tables_1, d.before a0 Z = true) (ws : List Jvm.Cond) (qa : Int32) (qb : Int32) (qc : Int32) (qd : Int32) (qs : Int32) (G1 : Int32) (fm : Value) (al : Addr) (cA : Cell) (em : Addr) (h0 : Heap) (n0 : Nat) (Z0 : n0 ≤ h0.size) (Od : Old Z n0 h0) (Hc : ∀ q ∈ consts_1, Jvm.Lit.constHeld Z q.1 q.2) (hcw : Jvm.Lit.compactW.before a0 Z = true) (O2 : Sta Z Z.heap "java/lang/String" "COMPACT_STRINGS" "Z" (.int G1)) (P5 : ¬ (G1 = (0 : Int32))) (Sf : Sta Z Z.heap "jdk/internal/util/Preconditions" "SIOOBE_FORMATTER" "Ljava/util/function/BiFunction;" fm) (rf : fm.isRef = true) (Sad : Sta Z Z.heap "java/lang/StringUTF16" "$assertionsDisabled" "Z" (.int 1)) (Shi : Sta Z Z.heap "java/lang/StringUTF16" "HI_BYTE_SHIFT" "I" (.int 0)) (Slo : Sta Z Z.heap "java/lang/StringUTF16" "LO_BYTE_SHIFT" "I" (.int 8)) (Sal : Sta Z Z.heap "com/example/fault/fault/TraceId" "ALLOWED" "[Z" (.ref al)) (Aal : Jvm.RoadKit.Arr Z Z.heap al cA .boolean) (Szl : cA.slots.size = 128) (Tbl : ∀ k, k < 128 → cA.slots[k]? = some (.int (own_ok01 k.toInt32))) (Sm : Sta Z Z.heap "java/util/Optional" "EMPTY" "Ljava/util/Optional;" (.ref em)) (Em : Exa Z Z.heap em "java/util/Optional") (Fm : Fld Z Z.heap em "java/util/Optional" "value" "Ljava/lang/Object;" .null) :
    MetFree l x (head1 (Jvm.Cond.code x code maxLocals ret :: ws) room_1) (fun a U => a = #[(.int qa), (.int qb), (.int qc), (.int qd), (.int qs)] ∧ Z.Warmed39 U.vm ∧ U.heap = h0 ∧ IB Z U.vm ([] : List String)) (fun _ _ _ _ _ => True) (fun _ U o U' => ∃ v L, o = .returned v ∧ Q0 Z qa qb qc qd qs G1 fm al cA em h0 n0 v U'.heap L ∧ IB Z U'.vm ["", "0123456789abcdef0123456789abcdef0123456789abcdef0123456789abcdef0123456789abcdef0123456789abcdef0123456789abcdef0123456789abcdef", "ABCDEFGHIJ.KLMN_ABCDEFGHIJ.KLMN_ABCDEFGHIJ.KLMN_ABCDEFGHIJ.KLMN_ABCDEFGHIJ.KLMN_ABCDEFGHIJ.KLMN_ABCDEFGHIJ.KLMN_ABCDEFGHIJ.KLMN_-"] ∧ ReturnedEndW U o U' L room_1.cells room_1.slots) := by
  refine MetFree.of_bodySF (plainFor_of_name pn_7) hisR ?_
  intro p e s m args below meth c s₁ Bd hml0 hP hK
  obtain ⟨rfl, hZ, hh, I0⟩ := hP
  have hx := Bd.exec
  have hby := Bd.bytes
  have hml : c.maxLocals = 13 := hml0
  have hown : s.vm.findClass "com/example/fault/fault/TraceIdParsePinLaw" = some m.cls := findClass_of_methodNamed Bd.named
  have hnm := (name_of_methodNamed Bd.named Bd.method).1
  have hlk : meth.locks = false := Bd.notSynchronized
  have hrt := Bd.returns
  have X0 : Stand p l e room_1 s m #[(.int qa), (.int qb), (.int qc), (.int qd), (.int qs)] below meth c s₁ [] 0 0 := Stand.of_body Bd
  have e0 : s₁.heap = h0 := by rw [← hh, Bd.state]; rfl
  have N0 := Fr.nil n0
  replace X0 : Stand p l e room_1 (s.setVm s.vm) m #[(.int qa), (.int qb), (.int qc), (.int qd), (.int qs)] below meth c s₁ [] 0 0 := X0
  replace hZ : Z.Warmed39 (s.setVm s.vm).vm := hZ
  replace hown : (s.setVm s.vm).vm.findClass "com/example/fault/fault/TraceIdParsePinLaw" = some m.cls := hown
  have hS0 := own_since s
  have Le0 : own_Le s.heap.size h0 := Nat.le_of_eq (congrArg Array.size hh)
  show own_Endz p.tables e below (own_EndW Z s ["", "0123456789abcdef0123456789abcdef0123456789abcdef0123456789abcdef0123456789abcdef0123456789abcdef0123456789abcdef0123456789abcdef", "ABCDEFGHIJ.KLMN_ABCDEFGHIJ.KLMN_ABCDEFGHIJ.KLMN_ABCDEFGHIJ.KLMN_ABCDEFGHIJ.KLMN_ABCDEFGHIJ.KLMN_ABCDEFGHIJ.KLMN_ABCDEFGHIJ.KLMN_-"] room_1.cells room_1.slots (Q0 Z qa qb qc qd qs G1 fm al cA em h0 n0)) (s₁.setTop (entryFrame m #[(.int qa), (.int qb), (.int qc), (.int qd), (.int qs)] maxLocals))
  refine own_cast (ef_0 m qa qb qc qd qs) ?_
  have hws : ∀ d ∈ StrChars.Road.words, d.before a0 Z = true := fun d hd => hw d (own_wB d hd)
  have hkeep : ∀ (b : Addr) (cl : Cell), Z.heap[b]? = some cl → s.heap[b]? = some cl := fun b cl q => by rw [hh]; exact Od.2.2 b cl q
  have J325 : ∀ (TJ : State) (hJ : Heap) (lJ : List Loc) (vJ : Vm) (kJ : Nat) (kJ5 ya yb yc yd exJ : Int32) (xJ : Addr) (cs : List Int32) (s12 : Slot) (XJ : Stand p l e room_1 (s.setVm vJ) m #[(.int qa), (.int qb), (.int qc), (.int qd), (.int qs)] below meth c TJ lJ 4 520) (eJ : TJ.heap = hJ) (NJ : Fr n0 lJ) (ZJ : n0 ≤ hJ.size) (OJ : Old Z n0 hJ) (SnJ : s.Since vJ kJ) (LeJ : own_Le kJ hJ) (hZ : Z.Warmed39 (s.setVm vJ).vm) (hown : (s.setVm vJ).vm.findClass "com/example/fault/fault/TraceIdParsePinLaw" = some m.cls) (IJ : IB Z vJ ["", "0123456789abcdef0123456789abcdef0123456789abcdef0123456789abcdef0123456789abcdef0123456789abcdef0123456789abcdef0123456789abcdef", "ABCDEFGHIJ.KLMN_ABCDEFGHIJ.KLMN_ABCDEFGHIJ.KLMN_ABCDEFGHIJ.KLMN_ABCDEFGHIJ.KLMN_ABCDEFGHIJ.KLMN_ABCDEFGHIJ.KLMN_ABCDEFGHIJ.KLMN_-"]) (SxJ : own_Sx Z hJ xJ cs) (hex : exJ = if own_wf cs then 1 else 0) (o12 : One s12), own_Endz p.tables e below (own_EndW Z s ["", "0123456789abcdef0123456789abcdef0123456789abcdef0123456789abcdef0123456789abcdef0123456789abcdef0123456789abcdef0123456789abcdef", "ABCDEFGHIJ.KLMN_ABCDEFGHIJ.KLMN_ABCDEFGHIJ.KLMN_ABCDEFGHIJ.KLMN_ABCDEFGHIJ.KLMN_ABCDEFGHIJ.KLMN_ABCDEFGHIJ.KLMN_ABCDEFGHIJ.KLMN_-"] room_1.cells room_1.slots (Q0 Z qa qb qc qd qs G1 fm al cA em h0 n0)) (TJ.setTop (mkF m 325 #[iv qa, iv qb, iv qc, iv qd, iv qs, iv kJ5, iv ya, iv yb, iv yc, iv yd, rv xJ, iv exJ, s12] [])) := by
    intro TJ hJ lJ vJ kJ kJ5 ya yb yc yd exJ xJ cs s12 XJ eJ NJ ZJ OJ SnJ LeJ hZ hown IJ SxJ hex o12
    by_cases hc1 : own_wf cs
    · rw [if_pos hc1] at hex
      subst hex
      show own_Endz p.tables e below (own_EndW Z s ["", "0123456789abcdef0123456789abcdef0123456789abcdef0123456789abcdef0123456789abcdef0123456789abcdef0123456789abcdef0123456789abcdef", "ABCDEFGHIJ.KLMN_ABCDEFGHIJ.KLMN_ABCDEFGHIJ.KLMN_ABCDEFGHIJ.KLMN_ABCDEFGHIJ.KLMN_ABCDEFGHIJ.KLMN_ABCDEFGHIJ.KLMN_ABCDEFGHIJ.KLMN_-"] room_1.cells room_1.slots (Q0 Z qa qb qc qd qs G1 fm al cA em h0 n0)) (TJ.setTop (mkF m 325 #[iv qa, iv qb, iv qc, iv qd, iv qs, iv kJ5, iv ya, iv yb, iv yc, iv yd, rv xJ, iv 1, s12] []))
      refine own_go (b := TJ.setTop (mkF m 327 #[iv qa, iv qb, iv qc, iv qd, iv qs, iv kJ5, iv ya, iv yb, iv yc, iv yd, rv xJ, iv 1, s12] [(.ref xJ)])) (fun t k => XS.aload XJ.here hx rfl (hb hby at_325) rfl rfl k) ?_
      obtain ⟨_, _, ⟨T2, L2, k2, n2⟩, -, X2, ⟨Lc2, hQ2, l2, y2, z2⟩, st2⟩ := Jvm.LawKit.callS XJ hx (y := (⟨"com/example/fault/fault/TraceId", "parse", "(Ljava/lang/String;)Ljava/util/Optional;"⟩ : MethodName)) hown (mvT hZ (hw _ (List.mem_of_getElem? (i := 24) rfl))) (mvT hZ (hw _ (List.mem_of_getElem? (i := 25) rfl))) (mvT hZ (hw _ (List.mem_of_getElem? (i := 26) rfl))) (mvT hZ (hw _ (List.mem_of_getElem? (i := 27) rfl))) (by decide) (backOf (W := 0) (rm4y l Z a0 hw [] xJ cs G1 fm al cA hJ n0 ZJ OJ hc1 SxJ O2 P5 Sf rf Sad Shi Slo Sal Aal Szl Tbl) hZ (hw _ (List.mem_of_getElem? (i := 27) rfl)) (hw _ (List.mem_of_getElem? (i := 26) rfl)) (by decide) (by decide)) (g := (mkF m 327 #[iv qa, iv qb, iv qc, iv qd, iv qs, iv kJ5, iv ya, iv yb, iv yc, iv yd, rv xJ, iv 1, s12] [(.ref xJ)])) rfl (by rw [hml]; rfl) (argsL := [(.ref xJ)]) (rest := []) (lenOf pd_22 rfl) rfl (by show 2 * 0 + _ ≤ _; exact Nat.le_of_eq rfl) (hb hby at_327) (fun _ _ => ⟨rfl, eJ, (by decide : 4 + 2 ≤ _), (by decide : 520 + 2 ≤ _)⟩)
      dsimp only [Pt.U, Pt.locs, Pt.cells, Pt.slots] at X2 l2 y2 z2 st2 hQ2
      subst l2 y2 z2
      obtain ⟨ro2, tr2, rfl, N2q, K2, Er2, Fo2, Et2, Ft2⟩ := hQ2
      have Zs2 : n0 ≤ T2.heap.size := Nat.le_trans ZJ K2.1
      have N2 := Fr.app NJ N2q
      have Ol2 := OJ.keep K2 all0
      obtain ⟨lq2, X2, N2⟩ : ∃ lq, Stand p l e room_1 (s.setVm vJ) m #[(.int qa), (.int qb), (.int qc), (.int qd), (.int qs)] below meth c T2 lq 6 522 ∧ Fr n0 lq := ⟨_, X2, N2⟩
      refine own_go (b := T2.setTop (mkF m 330 #[iv qa, iv qb, iv qc, iv qd, iv qs, iv kJ5, iv ya, iv yb, iv yc, iv yd, rv xJ, iv 1, s12] [(.ref ro2)])) st2 ?_
      refine own_go (b := T2.setTop (mkF m 332 #[iv qa, iv qb, iv qc, iv qd, iv qs, iv kJ5, iv ya, iv yb, iv yc, iv yd, rv xJ, iv 1, rv ro2] [])) (fun t k => XS.astore X2.here hx rfl (hb hby at_330) rfl rfl (l' := #[iv qa, iv qb, iv qc, iv qd, iv qs, iv kJ5, iv ya, iv yb, iv yc, iv yd, rv xJ, iv 1, rv ro2]) (XS.store1 (o := s12) rfl o12 rfl) k) ?_
      refine own_go (b := T2.setTop (mkF m 334 #[iv qa, iv qb, iv qc, iv qd, iv qs, iv kJ5, iv ya, iv yb, iv yc, iv yd, rv xJ, iv 1, rv ro2] [(.int 1)])) (fun t k => XS.iload X2.here hx rfl (hb hby at_332) rfl  k) ?_
      refine own_go (b := T2.setTop (mkF m 351 #[iv qa, iv qb, iv qc, iv qd, iv qs, iv kJ5, iv ya, iv yb, iv yc, iv yd, rv xJ, iv 1, rv ro2] [])) (fun t k => XS.ifYes X2.here hx rfl (pc0 := 334) (pc' := 351) rfl (hb hby at_334) rfl ((if0 _ _).trans (feq (by decide : ¬ ((1 : Int32) = (0 : Int32)))).2) (by decide) (by decide) k) ?_
      refine own_go (b := T2.setTop (mkF m 353 #[iv qa, iv qb, iv qc, iv qd, iv qs, iv kJ5, iv ya, iv yb, iv yc, iv yd, rv xJ, iv 1, rv ro2] [(.ref ro2)])) (fun t k => XS.aload X2.here hx rfl (hb hby at_351) rfl rfl k) ?_
      obtain ⟨cq3, kq3, q3a, q3b, q3c⟩ := isOf hZ rfl Er2
      obtain ⟨_, _, ⟨T3, L3, k3, n3⟩, -, X3, ⟨Lc3, hQ3, l3, y3, z3⟩, st3⟩ := X2.virtualBack hx (y := (⟨"java/util/Optional", "isPresent", "()Z"⟩ : MethodName)) (z := (⟨"java/util/Optional", "isPresent", "()Z"⟩ : MethodName)) hown (mvT hZ (hw _ (List.mem_of_getElem? (i := 41) rfl))) (mvT hZ (hw _ (List.mem_of_getElem? (i := 42) rfl))) (notFace_of_selects (args := #[]) (mvT hZ (hw _ (List.mem_of_getElem? (i := 44) rfl)))) (mvT hZ (hw _ (List.mem_of_getElem? (i := 44) rfl))) (mvT hZ (hw _ (List.mem_of_getElem? (i := 43) rfl))) (by decide) (backOf (W := 0) (rm8v l Z a0 hw [] ro2 tr2 T2.heap n0 Zs2 Fo2) hZ (hw _ (List.mem_of_getElem? (i := 45) rfl)) (hw _ (List.mem_of_getElem? (i := 38) rfl)) (by decide) (by decide)) q3a q3c (g := (mkF m 353 #[iv qa, iv qb, iv qc, iv qd, iv qs, iv kJ5, iv ya, iv yb, iv yc, iv yd, rv xJ, iv 1, rv ro2] [(.ref ro2)])) rfl (by rw [hml]; rfl) (Steps.refl _) (argsL := []) (rest := []) (lenOf pd_5 rfl) rfl (by show 2 * 0 + _ ≤ _; exact Nat.le_of_eq rfl) (hb hby at_353) (fun _ _ => ⟨rfl, rfl, (by decide : 6 + 0 ≤ _), (by decide : 522 + 0 ≤ _)⟩)
      dsimp only [Pt.U, Pt.locs, Pt.cells, Pt.slots] at X3 l3 y3 z3 st3 hQ3
      subst l3 y3 z3
      obtain ⟨rfl, N3q, e3⟩ := hQ3
      have N3 := Fr.app N2 N3q
      obtain ⟨lq3, X3, N3⟩ : ∃ lq, Stand p l e room_1 (s.setVm vJ) m #[(.int qa), (.int qb), (.int qc), (.int qd), (.int qs)] below meth c T3 lq 6 522 ∧ Fr n0 lq := ⟨_, X3, N3⟩
      refine own_tr (b := T3.setTop (mkF m 356 #[iv qa, iv qb, iv qc, iv qd, iv qs, iv kJ5, iv ya, iv yb, iv yc, iv yd, rv xJ, iv 1, rv ro2] [(.int 1)])) st3 ?_
      refine own_go (b := T3.setTop (mkF m 359 #[iv qa, iv qb, iv qc, iv qd, iv qs, iv kJ5, iv ya, iv yb, iv yc, iv yd, rv xJ, iv 1, rv ro2] [])) (fun t k => XS.ifNo X3.here hx rfl (hb hby at_356) rfl ((if0 _ _).trans (feq (by decide : ¬ ((1 : Int32) = (0 : Int32)))).1) k) ?_
      refine own_go (b := T3.setTop (mkF m 361 #[iv qa, iv qb, iv qc, iv qd, iv qs, iv kJ5, iv ya, iv yb, iv yc, iv yd, rv xJ, iv 1, rv ro2] [(.ref ro2)])) (fun t k => XS.aload X3.here hx rfl (hb hby at_359) rfl rfl k) ?_
      obtain ⟨cq4, kq4, q4a, q4b, q4c⟩ := isOf hZ e3 Er2
      obtain ⟨_, _, ⟨T4, L4, k4, n4⟩, -, X4, ⟨Lc4, hQ4, l4, y4, z4⟩, st4⟩ := X3.virtualBack hx (y := (⟨"java/util/Optional", "get", "()Ljava/lang/Object;"⟩ : MethodName)) (z := (⟨"java/util/Optional", "get", "()Ljava/lang/Object;"⟩ : MethodName)) hown (mvT hZ (hw _ (List.mem_of_getElem? (i := 156) rfl))) (mvT hZ (hw _ (List.mem_of_getElem? (i := 157) rfl))) (notFace_of_selects (args := #[]) (mvT hZ (hw _ (List.mem_of_getElem? (i := 159) rfl)))) (mvT hZ (hw _ (List.mem_of_getElem? (i := 159) rfl))) (mvT hZ (hw _ (List.mem_of_getElem? (i := 158) rfl))) (by decide) (backOf (W := 0) (rm33 l Z a0 hw [] ro2 tr2 T2.heap n0 Zs2 Fo2) hZ (hw _ (List.mem_of_getElem? (i := 160) rfl)) (hw _ (List.mem_of_getElem? (i := 38) rfl)) (by decide) (by decide)) q4a q4c (g := (mkF m 361 #[iv qa, iv qb, iv qc, iv qd, iv qs, iv kJ5, iv ya, iv yb, iv yc, iv yd, rv xJ, iv 1, rv ro2] [(.ref ro2)])) rfl (by rw [hml]; rfl) (Steps.refl _) (argsL := []) (rest := []) (lenOf pd_23 rfl) rfl (by show 2 * 0 + _ ≤ _; exact Nat.le_of_eq rfl) (hb hby at_361) (fun _ _ => ⟨rfl, e3, (by decide : 6 + 0 ≤ _), (by decide : 522 + 0 ≤ _)⟩)
      dsimp only [Pt.U, Pt.locs, Pt.cells, Pt.slots] at X4 l4 y4 z4 st4 hQ4
      subst l4 y4 z4
      obtain ⟨rfl, N4q, e4⟩ := hQ4
      have N4 := Fr.app N3 N4q
      obtain ⟨lq4, X4, N4⟩ : ∃ lq, Stand p l e room_1 (s.setVm vJ) m #[(.int qa), (.int qb), (.int qc), (.int qd), (.int qs)] below meth c T4 lq 6 522 ∧ Fr n0 lq := ⟨_, X4, N4⟩
      refine own_tr (b := T4.setTop (mkF m 364 #[iv qa, iv qb, iv qc, iv qd, iv qs, iv kJ5, iv ya, iv yb, iv yc, iv yd, rv xJ, iv 1, rv ro2] [(.ref tr2)])) st4 ?_
      obtain ⟨T5, X5, e5, st5⟩ := castY X4 hx hZ hown (hw _ (List.mem_of_getElem? (i := 161) rfl)) e4 (Ins.self Et2) (g := (mkF m 364 #[iv qa, iv qb, iv qc, iv qd, iv qs, iv kJ5, iv ya, iv yb, iv yc, iv yd, rv xJ, iv 1, rv ro2] [(.ref tr2)])) rfl rfl (hb hby at_364)
      refine own_go (b := T5.setTop (mkF m 367 #[iv qa, iv qb, iv qc, iv qd, iv qs, iv kJ5, iv ya, iv yb, iv yc, iv yd, rv xJ, iv 1, rv ro2] [(.ref tr2)])) st5 ?_
      obtain ⟨cq6, kq6, q6a, q6b, q6c⟩ := isOf hZ e5 Et2
      obtain ⟨_, _, ⟨T6, L6, k6, n6⟩, -, X6, ⟨Lc6, hQ6, l6, y6, z6⟩, st6⟩ := X5.virtualBack hx (y := (⟨"com/example/fault/fault/TraceId", "value", "()Ljava/lang/String;"⟩ : MethodName)) (z := (⟨"com/example/fault/fault/TraceId", "value", "()Ljava/lang/String;"⟩ : MethodName)) hown (mvT hZ (hw _ (List.mem_of_getElem? (i := 163) rfl))) (mvT hZ (hw _ (List.mem_of_getElem? (i := 164) rfl))) (notFace_of_selects (args := #[]) (mvT hZ (hw _ (List.mem_of_getElem? (i := 166) rfl)))) (mvT hZ (hw _ (List.mem_of_getElem? (i := 166) rfl))) (mvT hZ (hw _ (List.mem_of_getElem? (i := 165) rfl))) (by decide) (backOf (W := 0) (rm34 l Z a0 hw [] tr2 xJ T2.heap n0 Zs2 Ft2) hZ (hw _ (List.mem_of_getElem? (i := 167) rfl)) (hw _ (List.mem_of_getElem? (i := 26) rfl)) (by decide) (by decide)) q6a q6c (g := (mkF m 367 #[iv qa, iv qb, iv qc, iv qd, iv qs, iv kJ5, iv ya, iv yb, iv yc, iv yd, rv xJ, iv 1, rv ro2] [(.ref tr2)])) rfl (by rw [hml]; rfl) (Steps.refl _) (argsL := []) (rest := []) (lenOf pd_24 rfl) rfl (by show 2 * 0 + _ ≤ _; exact Nat.le_of_eq rfl) (hb hby at_367) (fun _ _ => ⟨rfl, e5, (by decide : 6 + 0 ≤ _), (by decide : 522 + 0 ≤ _)⟩)
      dsimp only [Pt.U, Pt.locs, Pt.cells, Pt.slots] at X6 l6 y6 z6 st6 hQ6
      subst l6 y6 z6
      obtain ⟨rfl, N6q, e6⟩ := hQ6
      have N6 := Fr.app N4 N6q
      obtain ⟨lq6, X6, N6⟩ : ∃ lq, Stand p l e room_1 (s.setVm vJ) m #[(.int qa), (.int qb), (.int qc), (.int qd), (.int qs)] below meth c T6 lq 6 522 ∧ Fr n0 lq := ⟨_, X6, N6⟩
      refine own_tr (b := T6.setTop (mkF m 370 #[iv qa, iv qb, iv qc, iv qd, iv qs, iv kJ5, iv ya, iv yb, iv yc, iv yd, rv xJ, iv 1, rv ro2] [(.ref xJ)])) st6 ?_
      refine own_go (b := T6.setTop (mkF m 372 #[iv qa, iv qb, iv qc, iv qd, iv qs, iv kJ5, iv ya, iv yb, iv yc, iv yd, rv xJ, iv 1, rv ro2] [(.ref xJ), (.ref xJ)])) (fun t k => XS.aload X6.here hx rfl (hb hby at_370) rfl rfl k) ?_
      obtain ⟨cq7, kq7, q7a, q7b, q7c⟩ := isOf hZ e6 (own_Sx.exa (SxJ.keep K2 nin0))
      obtain ⟨_, _, ⟨T7, L7, k7, n7⟩, -, X7, ⟨Lc7, hQ7, l7, y7, z7⟩, st7⟩ := X6.virtualBack hx (y := (⟨"java/lang/String", "equals", "(Ljava/lang/Object;)Z"⟩ : MethodName)) (z := (⟨"java/lang/String", "equals", "(Ljava/lang/Object;)Z"⟩ : MethodName)) hown (mvT hZ (hw _ (List.mem_of_getElem? (i := 168) rfl))) (mvT hZ (hw _ (List.mem_of_getElem? (i := 169) rfl))) (notFace_of_selects (args := #[]) (mvT hZ (hw _ (List.mem_of_getElem? (i := 171) rfl)))) (mvT hZ (hw _ (List.mem_of_getElem? (i := 171) rfl))) (mvT hZ (hw _ (List.mem_of_getElem? (i := 170) rfl))) (by decide) (backOf (W := 0) (rm35 l Z a0 hw [] xJ xJ  T2.heap n0 Zs2 rfl) hZ (hw _ (List.mem_of_getElem? (i := 172) rfl)) (hw _ (List.mem_of_getElem? (i := 5) rfl)) (by decide) (by decide)) q7a q7c (g := (mkF m 372 #[iv qa, iv qb, iv qc, iv qd, iv qs, iv kJ5, iv ya, iv yb, iv yc, iv yd, rv xJ, iv 1, rv ro2] [(.ref xJ), (.ref xJ)])) rfl (by rw [hml]; rfl) (Steps.refl _) (argsL := [(.ref xJ)]) (rest := []) (lenOf pd_25 rfl) rfl (by show 2 * 0 + _ ≤ _; exact Nat.le_of_eq rfl) (hb hby at_372) (fun _ _ => ⟨rfl, e6, (by decide : 6 + 0 ≤ _), (by decide : 522 + 0 ≤ _)⟩)
      dsimp only [Pt.U, Pt.locs, Pt.cells, Pt.slots] at X7 l7 y7 z7 st7 hQ7
      subst l7 y7 z7
      obtain ⟨rfl, N7q, e7⟩ := hQ7
      have N7 := Fr.app N6 N7q
      obtain ⟨lq7, X7, N7⟩ : ∃ lq, Stand p l e room_1 (s.setVm vJ) m #[(.int qa), (.int qb), (.int qc), (.int qd), (.int qs)] below meth c T7 lq 6 522 ∧ Fr n0 lq := ⟨_, X7, N7⟩
      refine own_tr (b := T7.setTop (mkF m 375 #[iv qa, iv qb, iv qc, iv qd, iv qs, iv kJ5, iv ya, iv yb, iv yc, iv yd, rv xJ, iv 1, rv ro2] [(.int 1)])) st7 ?_
      refine own_go (b := T7.setTop (mkF m 378 #[iv qa, iv qb, iv qc, iv qd, iv qs, iv kJ5, iv ya, iv yb, iv yc, iv yd, rv xJ, iv 1, rv ro2] [])) (fun t k => XS.ifNo X7.here hx rfl (hb hby at_375) rfl ((if0 _ _).trans (feq (by decide : ¬ ((1 : Int32) = (0 : Int32)))).1) k) ?_
      refine own_go (b := T7.setTop (mkF m 379 #[iv qa, iv qb, iv qc, iv qd, iv qs, iv kJ5, iv ya, iv yb, iv yc, iv yd, rv xJ, iv 1, rv ro2] [(.int 1)])) (fun t k => XS.iconst X7.here hx rfl (hb hby at_378) k) ?_
      refine own_go (b := T7.setTop (mkF m 383 #[iv qa, iv qb, iv qc, iv qd, iv qs, iv kJ5, iv ya, iv yb, iv yc, iv yd, rv xJ, iv 1, rv ro2] [(.int 1)])) (fun t k => XS.goto X7.here hx rfl (pc0 := 379) (pc' := 383) rfl (hb hby at_379) (by decide) (by decide) k) ?_
      exact own_retNW X7 hx hlk SnJ (own_LeT (LeJ.keep K2) e7) IJ (by simp) (t := .boolean) hrt (by simp) (hb hby at_383) (Nat.le_of_ble_eq_true rfl) (Nat.le_of_ble_eq_true rfl) (⟨rfl, N7⟩)
    · rw [if_neg hc1] at hex
      subst hex
      show own_Endz p.tables e below (own_EndW Z s ["", "0123456789abcdef0123456789abcdef0123456789abcdef0123456789abcdef0123456789abcdef0123456789abcdef0123456789abcdef0123456789abcdef", "ABCDEFGHIJ.KLMN_ABCDEFGHIJ.KLMN_ABCDEFGHIJ.KLMN_ABCDEFGHIJ.KLMN_ABCDEFGHIJ.KLMN_ABCDEFGHIJ.KLMN_ABCDEFGHIJ.KLMN_ABCDEFGHIJ.KLMN_-"] room_1.cells room_1.slots (Q0 Z qa qb qc qd qs G1 fm al cA em h0 n0)) (TJ.setTop (mkF m 325 #[iv qa, iv qb, iv qc, iv qd, iv qs, iv kJ5, iv ya, iv yb, iv yc, iv yd, rv xJ, iv 0, s12] []))
      refine own_go (b := TJ.setTop (mkF m 327 #[iv qa, iv qb, iv qc, iv qd, iv qs, iv kJ5, iv ya, iv yb, iv yc, iv yd, rv xJ, iv 0, s12] [(.ref xJ)])) (fun t k => XS.aload XJ.here hx rfl (hb hby at_325) rfl rfl k) ?_
      obtain ⟨_, _, ⟨T8, L8, k8, n8⟩, -, X8, ⟨Lc8, hQ8, l8, y8, z8⟩, st8⟩ := Jvm.LawKit.callS XJ hx (y := (⟨"com/example/fault/fault/TraceId", "parse", "(Ljava/lang/String;)Ljava/util/Optional;"⟩ : MethodName)) hown (mvT hZ (hw _ (List.mem_of_getElem? (i := 24) rfl))) (mvT hZ (hw _ (List.mem_of_getElem? (i := 25) rfl))) (mvT hZ (hw _ (List.mem_of_getElem? (i := 26) rfl))) (mvT hZ (hw _ (List.mem_of_getElem? (i := 27) rfl))) (by decide) (backOf (W := 0) (rm4n l Z a0 hw [] xJ cs G1 fm al cA em hJ n0 ZJ OJ hc1 SxJ O2 P5 Sf rf Sad Shi Slo Sal Aal Szl Tbl Sm) hZ (hw _ (List.mem_of_getElem? (i := 27) rfl)) (hw _ (List.mem_of_getElem? (i := 26) rfl)) (by decide) (by decide)) (g := (mkF m 327 #[iv qa, iv qb, iv qc, iv qd, iv qs, iv kJ5, iv ya, iv yb, iv yc, iv yd, rv xJ, iv 0, s12] [(.ref xJ)])) rfl (by rw [hml]; rfl) (argsL := [(.ref xJ)]) (rest := []) (lenOf pd_22 rfl) rfl (by show 2 * 0 + _ ≤ _; exact Nat.le_of_eq rfl) (hb hby at_327) (fun _ _ => ⟨rfl, eJ, (by decide : 4 + 2 ≤ _), (by decide : 520 + 2 ≤ _)⟩)
      dsimp only [Pt.U, Pt.locs, Pt.cells, Pt.slots] at X8 l8 y8 z8 st8 hQ8
      subst l8 y8 z8
      obtain ⟨rfl, N8q, e8⟩ := hQ8
      have N8 := Fr.app NJ N8q
      obtain ⟨lq8, X8, N8⟩ : ∃ lq, Stand p l e room_1 (s.setVm vJ) m #[(.int qa), (.int qb), (.int qc), (.int qd), (.int qs)] below meth c T8 lq 6 522 ∧ Fr n0 lq := ⟨_, X8, N8⟩
      refine own_go (b := T8.setTop (mkF m 330 #[iv qa, iv qb, iv qc, iv qd, iv qs, iv kJ5, iv ya, iv yb, iv yc, iv yd, rv xJ, iv 0, s12] [(.ref em)])) st8 ?_
      refine own_go (b := T8.setTop (mkF m 332 #[iv qa, iv qb, iv qc, iv qd, iv qs, iv kJ5, iv ya, iv yb, iv yc, iv yd, rv xJ, iv 0, rv em] [])) (fun t k => XS.astore X8.here hx rfl (hb hby at_330) rfl rfl (l' := #[iv qa, iv qb, iv qc, iv qd, iv qs, iv kJ5, iv ya, iv yb, iv yc, iv yd, rv xJ, iv 0, rv em]) (XS.store1 (o := s12) rfl o12 rfl) k) ?_
      refine own_go (b := T8.setTop (mkF m 334 #[iv qa, iv qb, iv qc, iv qd, iv qs, iv kJ5, iv ya, iv yb, iv yc, iv yd, rv xJ, iv 0, rv em] [(.int 0)])) (fun t k => XS.iload X8.here hx rfl (hb hby at_332) rfl  k) ?_
      refine own_go (b := T8.setTop (mkF m 337 #[iv qa, iv qb, iv qc, iv qd, iv qs, iv kJ5, iv ya, iv yb, iv yc, iv yd, rv xJ, iv 0, rv em] [])) (fun t k => XS.ifNo X8.here hx rfl (hb hby at_334) rfl ((if0 _ _).trans (teq (rfl : (0 : Int32) = (0 : Int32))).2) k) ?_
      refine own_go (b := T8.setTop (mkF m 339 #[iv qa, iv qb, iv qc, iv qd, iv qs, iv kJ5, iv ya, iv yb, iv yc, iv yd, rv xJ, iv 0, rv em] [(.ref em)])) (fun t k => XS.aload X8.here hx rfl (hb hby at_337) rfl rfl k) ?_
      obtain ⟨cq9, kq9, q9a, q9b, q9c⟩ := isOf hZ e8 (Em.ext OJ.2)
      obtain ⟨_, _, ⟨T9, L9, k9, n9⟩, -, X9, ⟨Lc9, hQ9, l9, y9, z9⟩, st9⟩ := X8.virtualBack hx (y := (⟨"java/util/Optional", "isPresent", "()Z"⟩ : MethodName)) (z := (⟨"java/util/Optional", "isPresent", "()Z"⟩ : MethodName)) hown (mvT hZ (hw _ (List.mem_of_getElem? (i := 41) rfl))) (mvT hZ (hw _ (List.mem_of_getElem? (i := 42) rfl))) (notFace_of_selects (args := #[]) (mvT hZ (hw _ (List.mem_of_getElem? (i := 44) rfl)))) (mvT hZ (hw _ (List.mem_of_getElem? (i := 44) rfl))) (mvT hZ (hw _ (List.mem_of_getElem? (i := 43) rfl))) (by decide) (backOf (W := 0) (rm8n l Z a0 hw [] em  hJ n0 ZJ (Fm.ext OJ.2)) hZ (hw _ (List.mem_of_getElem? (i := 45) rfl)) (hw _ (List.mem_of_getElem? (i := 38) rfl)) (by decide) (by decide)) q9a q9c (g := (mkF m 339 #[iv qa, iv qb, iv qc, iv qd, iv qs, iv kJ5, iv ya, iv yb, iv yc, iv yd, rv xJ, iv 0, rv em] [(.ref em)])) rfl (by rw [hml]; rfl) (Steps.refl _) (argsL := []) (rest := []) (lenOf pd_5 rfl) rfl (by show 2 * 0 + _ ≤ _; exact Nat.le_of_eq rfl) (hb hby at_339) (fun _ _ => ⟨rfl, e8, (by decide : 6 + 0 ≤ _), (by decide : 522 + 0 ≤ _)⟩)
      dsimp only [Pt.U, Pt.locs, Pt.cells, Pt.slots] at X9 l9 y9 z9 st9 hQ9
      subst l9 y9 z9
      obtain ⟨rfl, N9q, e9⟩ := hQ9
      have N9 := Fr.app N8 N9q
      obtain ⟨lq9, X9, N9⟩ : ∃ lq, Stand p l e room_1 (s.setVm vJ) m #[(.int qa), (.int qb), (.int qc), (.int qd), (.int qs)] below meth c T9 lq 6 522 ∧ Fr n0 lq := ⟨_, X9, N9⟩
      refine own_tr (b := T9.setTop (mkF m 342 #[iv qa, iv qb, iv qc, iv qd, iv qs, iv kJ5, iv ya, iv yb, iv yc, iv yd, rv xJ, iv 0, rv em] [(.int 0)])) st9 ?_
      refine own_go (b := T9.setTop (mkF m 345 #[iv qa, iv qb, iv qc, iv qd, iv qs, iv kJ5, iv ya, iv yb, iv yc, iv yd, rv xJ, iv 0, rv em] [])) (fun t k => XS.ifNo X9.here hx rfl (hb hby at_342) rfl ((if0 _ _).trans (teq (rfl : (0 : Int32) = (0 : Int32))).2) k) ?_
      refine own_go (b := T9.setTop (mkF m 346 #[iv qa, iv qb, iv qc, iv qd, iv qs, iv kJ5, iv ya, iv yb, iv yc, iv yd, rv xJ, iv 0, rv em] [(.int 1)])) (fun t k => XS.iconst X9.here hx rfl (hb hby at_345) k) ?_
      refine own_go (b := T9.setTop (mkF m 350 #[iv qa, iv qb, iv qc, iv qd, iv qs, iv kJ5, iv ya, iv yb, iv yc, iv yd, rv xJ, iv 0, rv em] [(.int 1)])) (fun t k => XS.goto X9.here hx rfl (pc0 := 346) (pc' := 350) rfl (hb hby at_346) (by decide) (by decide) k) ?_
      exact own_retNW X9 hx hlk SnJ (own_LeT LeJ e9) IJ (by simp) (t := .boolean) hrt (by simp) (hb hby at_350) (Nat.le_of_ble_eq_true rfl) (Nat.le_of_ble_eq_true rfl) (⟨rfl, N9⟩)
  refine own_go (b := s₁.setTop (mkF m 2 #[iv qa, iv qb, iv qc, iv qd, iv qs, .unset, .unset, .unset, .unset, .unset, .unset, .unset, .unset] [(.int qs)])) (fun t k => XS.iload X0.here hx rfl (hb hby at_0) rfl  k) ?_
  refine own_go (b := s₁.setTop (mkF m 4 #[iv qa, iv qb, iv qc, iv qd, iv qs, .unset, .unset, .unset, .unset, .unset, .unset, .unset, .unset] [(.int 2147483647), (.int qs)])) (fun t k => X0.ldcInt hx hown (mvT hZ (hw _ (List.mem_of_getElem? (i := 0) rfl))) (g := (mkF m 2 #[iv qa, iv qb, iv qc, iv qd, iv qs, .unset, .unset, .unset, .unset, .unset, .unset, .unset, .unset] [(.int qs)])) rfl (hb hby at_2) t k) ?_
  refine own_go (b := s₁.setTop (mkF m 5 #[iv qa, iv qb, iv qc, iv qd, iv qs, .unset, .unset, .unset, .unset, .unset, .unset, .unset, .unset] [(.int (qs &&& (2147483647 : Int32)))])) (fun t k => XS.iand X0.here hx rfl (hb hby at_4) rfl k) ?_
  refine own_go (b := s₁.setTop (mkF m 7 #[iv qa, iv qb, iv qc, iv qd, iv qs, .unset, .unset, .unset, .unset, .unset, .unset, .unset, .unset] [(.int 8), (.int (qs &&& (2147483647 : Int32)))])) (fun t k => XS.bipush X0.here hx rfl (hb hby at_5) k) ?_
  refine own_go (b := s₁.setTop (mkF m 8 #[iv qa, iv qb, iv qc, iv qd, iv qs, .unset, .unset, .unset, .unset, .unset, .unset, .unset, .unset] [(.int ((qs &&& (2147483647 : Int32)) % (8 : Int32)))])) (fun t k => iremM X0 hx rfl (hb hby at_7) rfl (by decide) k) ?_
  refine own_go (b := s₁.setTop (mkF m 10 #[iv qa, iv qb, iv qc, iv qd, iv qs, iv ((qs &&& (2147483647 : Int32)) % (8 : Int32)), .unset, .unset, .unset, .unset, .unset, .unset, .unset] [])) (fun t k => XS.istore X0.here hx rfl (hb hby at_8) rfl (l' := #[iv qa, iv qb, iv qc, iv qd, iv qs, iv ((qs &&& (2147483647 : Int32)) % (8 : Int32)), .unset, .unset, .unset, .unset, .unset, .unset, .unset]) rfl k) ?_
  refine own_go (b := s₁.setTop (mkF m 11 #[iv qa, iv qb, iv qc, iv qd, iv qs, iv ((qs &&& (2147483647 : Int32)) % (8 : Int32)), .unset, .unset, .unset, .unset, .unset, .unset, .unset] [(.int qa)])) (fun t k => XS.iloadN X0.here hx rfl (hb hby at_10) rfl  k) ?_
  refine own_go (b := s₁.setTop (mkF m 13 #[iv qa, iv qb, iv qc, iv qd, iv qs, iv ((qs &&& (2147483647 : Int32)) % (8 : Int32)), .unset, .unset, .unset, .unset, .unset, .unset, .unset] [(.int 65535), (.int qa)])) (fun t k => X0.ldcInt hx hown (mvT hZ (hw _ (List.mem_of_getElem? (i := 1) rfl))) (g := (mkF m 11 #[iv qa, iv qb, iv qc, iv qd, iv qs, iv ((qs &&& (2147483647 : Int32)) % (8 : Int32)), .unset, .unset, .unset, .unset, .unset, .unset, .unset] [(.int qa)])) rfl (hb hby at_11) t k) ?_
  refine own_go (b := s₁.setTop (mkF m 14 #[iv qa, iv qb, iv qc, iv qd, iv qs, iv ((qs &&& (2147483647 : Int32)) % (8 : Int32)), .unset, .unset, .unset, .unset, .unset, .unset, .unset] [(.int (qa &&& (65535 : Int32)))])) (fun t k => XS.iand X0.here hx rfl (hb hby at_13) rfl k) ?_
  refine own_go (b := s₁.setTop (mkF m 15 #[iv qa, iv qb, iv qc, iv qd, iv qs, iv ((qs &&& (2147483647 : Int32)) % (8 : Int32)), .unset, .unset, .unset, .unset, .unset, .unset, .unset] [(.int ((qa &&& (65535 : Int32)).toUInt32.toUInt16.toUInt32.toInt32))])) (fun t k => XS.i2c X0.here hx rfl (hb hby at_14) rfl k) ?_
  refine own_go (b := s₁.setTop (mkF m 17 #[iv qa, iv qb, iv qc, iv qd, iv qs, iv ((qs &&& (2147483647 : Int32)) % (8 : Int32)), iv ((qa &&& (65535 : Int32)).toUInt32.toUInt16.toUInt32.toInt32), .unset, .unset, .unset, .unset, .unset, .unset] [])) (fun t k => XS.istore X0.here hx rfl (hb hby at_15) rfl (l' := #[iv qa, iv qb, iv qc, iv qd, iv qs, iv ((qs &&& (2147483647 : Int32)) % (8 : Int32)), iv ((qa &&& (65535 : Int32)).toUInt32.toUInt16.toUInt32.toInt32), .unset, .unset, .unset, .unset, .unset, .unset]) rfl k) ?_
  refine own_go (b := s₁.setTop (mkF m 18 #[iv qa, iv qb, iv qc, iv qd, iv qs, iv ((qs &&& (2147483647 : Int32)) % (8 : Int32)), iv ((qa &&& (65535 : Int32)).toUInt32.toUInt16.toUInt32.toInt32), .unset, .unset, .unset, .unset, .unset, .unset] [(.int qb)])) (fun t k => XS.iloadN X0.here hx rfl (hb hby at_17) rfl  k) ?_
  refine own_go (b := s₁.setTop (mkF m 20 #[iv qa, iv qb, iv qc, iv qd, iv qs, iv ((qs &&& (2147483647 : Int32)) % (8 : Int32)), iv ((qa &&& (65535 : Int32)).toUInt32.toUInt16.toUInt32.toInt32), .unset, .unset, .unset, .unset, .unset, .unset] [(.int 65535), (.int qb)])) (fun t k => X0.ldcInt hx hown (mvT hZ (hw _ (List.mem_of_getElem? (i := 1) rfl))) (g := (mkF m 18 #[iv qa, iv qb, iv qc, iv qd, iv qs, iv ((qs &&& (2147483647 : Int32)) % (8 : Int32)), iv ((qa &&& (65535 : Int32)).toUInt32.toUInt16.toUInt32.toInt32), .unset, .unset, .unset, .unset, .unset, .unset] [(.int qb)])) rfl (hb hby at_18) t k) ?_
  refine own_go (b := s₁.setTop (mkF m 21 #[iv qa, iv qb, iv qc, iv qd, iv qs, iv ((qs &&& (2147483647 : Int32)) % (8 : Int32)), iv ((qa &&& (65535 : Int32)).toUInt32.toUInt16.toUInt32.toInt32), .unset, .unset, .unset, .unset, .unset, .unset] [(.int (qb &&& (65535 : Int32)))])) (fun t k => XS.iand X0.here hx rfl (hb hby at_20) rfl k) ?_
  refine own_go (b := s₁.setTop (mkF m 22 #[iv qa, iv qb, iv qc, iv qd, iv qs, iv ((qs &&& (2147483647 : Int32)) % (8 : Int32)), iv ((qa &&& (65535 : Int32)).toUInt32.toUInt16.toUInt32.toInt32), .unset, .unset, .unset, .unset, .unset, .unset] [(.int ((qb &&& (65535 : Int32)).toUInt32.toUInt16.toUInt32.toInt32))])) (fun t k => XS.i2c X0.here hx rfl (hb hby at_21) rfl k) ?_
  refine own_go (b := s₁.setTop (mkF m 24 #[iv qa, iv qb, iv qc, iv qd, iv qs, iv ((qs &&& (2147483647 : Int32)) % (8 : Int32)), iv ((qa &&& (65535 : Int32)).toUInt32.toUInt16.toUInt32.toInt32), iv ((qb &&& (65535 : Int32)).toUInt32.toUInt16.toUInt32.toInt32), .unset, .unset, .unset, .unset, .unset] [])) (fun t k => XS.istore X0.here hx rfl (hb hby at_22) rfl (l' := #[iv qa, iv qb, iv qc, iv qd, iv qs, iv ((qs &&& (2147483647 : Int32)) % (8 : Int32)), iv ((qa &&& (65535 : Int32)).toUInt32.toUInt16.toUInt32.toInt32), iv ((qb &&& (65535 : Int32)).toUInt32.toUInt16.toUInt32.toInt32), .unset, .unset, .unset, .unset, .unset]) rfl k) ?_
  refine own_go (b := s₁.setTop (mkF m 25 #[iv qa, iv qb, iv qc, iv qd, iv qs, iv ((qs &&& (2147483647 : Int32)) % (8 : Int32)), iv ((qa &&& (65535 : Int32)).toUInt32.toUInt16.toUInt32.toInt32), iv ((qb &&& (65535 : Int32)).toUInt32.toUInt16.toUInt32.toInt32), .unset, .unset, .unset, .unset, .unset] [(.int qc)])) (fun t k => XS.iloadN X0.here hx rfl (hb hby at_24) rfl  k) ?_
  refine own_go (b := s₁.setTop (mkF m 27 #[iv qa, iv qb, iv qc, iv qd, iv qs, iv ((qs &&& (2147483647 : Int32)) % (8 : Int32)), iv ((qa &&& (65535 : Int32)).toUInt32.toUInt16.toUInt32.toInt32), iv ((qb &&& (65535 : Int32)).toUInt32.toUInt16.toUInt32.toInt32), .unset, .unset, .unset, .unset, .unset] [(.int 65535), (.int qc)])) (fun t k => X0.ldcInt hx hown (mvT hZ (hw _ (List.mem_of_getElem? (i := 1) rfl))) (g := (mkF m 25 #[iv qa, iv qb, iv qc, iv qd, iv qs, iv ((qs &&& (2147483647 : Int32)) % (8 : Int32)), iv ((qa &&& (65535 : Int32)).toUInt32.toUInt16.toUInt32.toInt32), iv ((qb &&& (65535 : Int32)).toUInt32.toUInt16.toUInt32.toInt32), .unset, .unset, .unset, .unset, .unset] [(.int qc)])) rfl (hb hby at_25) t k) ?_
  refine own_go (b := s₁.setTop (mkF m 28 #[iv qa, iv qb, iv qc, iv qd, iv qs, iv ((qs &&& (2147483647 : Int32)) % (8 : Int32)), iv ((qa &&& (65535 : Int32)).toUInt32.toUInt16.toUInt32.toInt32), iv ((qb &&& (65535 : Int32)).toUInt32.toUInt16.toUInt32.toInt32), .unset, .unset, .unset, .unset, .unset] [(.int (qc &&& (65535 : Int32)))])) (fun t k => XS.iand X0.here hx rfl (hb hby at_27) rfl k) ?_
  refine own_go (b := s₁.setTop (mkF m 29 #[iv qa, iv qb, iv qc, iv qd, iv qs, iv ((qs &&& (2147483647 : Int32)) % (8 : Int32)), iv ((qa &&& (65535 : Int32)).toUInt32.toUInt16.toUInt32.toInt32), iv ((qb &&& (65535 : Int32)).toUInt32.toUInt16.toUInt32.toInt32), .unset, .unset, .unset, .unset, .unset] [(.int ((qc &&& (65535 : Int32)).toUInt32.toUInt16.toUInt32.toInt32))])) (fun t k => XS.i2c X0.here hx rfl (hb hby at_28) rfl k) ?_
  refine own_go (b := s₁.setTop (mkF m 31 #[iv qa, iv qb, iv qc, iv qd, iv qs, iv ((qs &&& (2147483647 : Int32)) % (8 : Int32)), iv ((qa &&& (65535 : Int32)).toUInt32.toUInt16.toUInt32.toInt32), iv ((qb &&& (65535 : Int32)).toUInt32.toUInt16.toUInt32.toInt32), iv ((qc &&& (65535 : Int32)).toUInt32.toUInt16.toUInt32.toInt32), .unset, .unset, .unset, .unset] [])) (fun t k => XS.istore X0.here hx rfl (hb hby at_29) rfl (l' := #[iv qa, iv qb, iv qc, iv qd, iv qs, iv ((qs &&& (2147483647 : Int32)) % (8 : Int32)), iv ((qa &&& (65535 : Int32)).toUInt32.toUInt16.toUInt32.toInt32), iv ((qb &&& (65535 : Int32)).toUInt32.toUInt16.toUInt32.toInt32), iv ((qc &&& (65535 : Int32)).toUInt32.toUInt16.toUInt32.toInt32), .unset, .unset, .unset, .unset]) rfl k) ?_
  refine own_go (b := s₁.setTop (mkF m 32 #[iv qa, iv qb, iv qc, iv qd, iv qs, iv ((qs &&& (2147483647 : Int32)) % (8 : Int32)), iv ((qa &&& (65535 : Int32)).toUInt32.toUInt16.toUInt32.toInt32), iv ((qb &&& (65535 : Int32)).toUInt32.toUInt16.toUInt32.toInt32), iv ((qc &&& (65535 : Int32)).toUInt32.toUInt16.toUInt32.toInt32), .unset, .unset, .unset, .unset] [(.int qd)])) (fun t k => XS.iloadN X0.here hx rfl (hb hby at_31) rfl  k) ?_
  refine own_go (b := s₁.setTop (mkF m 34 #[iv qa, iv qb, iv qc, iv qd, iv qs, iv ((qs &&& (2147483647 : Int32)) % (8 : Int32)), iv ((qa &&& (65535 : Int32)).toUInt32.toUInt16.toUInt32.toInt32), iv ((qb &&& (65535 : Int32)).toUInt32.toUInt16.toUInt32.toInt32), iv ((qc &&& (65535 : Int32)).toUInt32.toUInt16.toUInt32.toInt32), .unset, .unset, .unset, .unset] [(.int 65535), (.int qd)])) (fun t k => X0.ldcInt hx hown (mvT hZ (hw _ (List.mem_of_getElem? (i := 1) rfl))) (g := (mkF m 32 #[iv qa, iv qb, iv qc, iv qd, iv qs, iv ((qs &&& (2147483647 : Int32)) % (8 : Int32)), iv ((qa &&& (65535 : Int32)).toUInt32.toUInt16.toUInt32.toInt32), iv ((qb &&& (65535 : Int32)).toUInt32.toUInt16.toUInt32.toInt32), iv ((qc &&& (65535 : Int32)).toUInt32.toUInt16.toUInt32.toInt32), .unset, .unset, .unset, .unset] [(.int qd)])) rfl (hb hby at_32) t k) ?_
  refine own_go (b := s₁.setTop (mkF m 35 #[iv qa, iv qb, iv qc, iv qd, iv qs, iv ((qs &&& (2147483647 : Int32)) % (8 : Int32)), iv ((qa &&& (65535 : Int32)).toUInt32.toUInt16.toUInt32.toInt32), iv ((qb &&& (65535 : Int32)).toUInt32.toUInt16.toUInt32.toInt32), iv ((qc &&& (65535 : Int32)).toUInt32.toUInt16.toUInt32.toInt32), .unset, .unset, .unset, .unset] [(.int (qd &&& (65535 : Int32)))])) (fun t k => XS.iand X0.here hx rfl (hb hby at_34) rfl k) ?_
  refine own_go (b := s₁.setTop (mkF m 36 #[iv qa, iv qb, iv qc, iv qd, iv qs, iv ((qs &&& (2147483647 : Int32)) % (8 : Int32)), iv ((qa &&& (65535 : Int32)).toUInt32.toUInt16.toUInt32.toInt32), iv ((qb &&& (65535 : Int32)).toUInt32.toUInt16.toUInt32.toInt32), iv ((qc &&& (65535 : Int32)).toUInt32.toUInt16.toUInt32.toInt32), .unset, .unset, .unset, .unset] [(.int ((qd &&& (65535 : Int32)).toUInt32.toUInt16.toUInt32.toInt32))])) (fun t k => XS.i2c X0.here hx rfl (hb hby at_35) rfl k) ?_
  refine own_go (b := s₁.setTop (mkF m 38 #[iv qa, iv qb, iv qc, iv qd, iv qs, iv ((qs &&& (2147483647 : Int32)) % (8 : Int32)), iv ((qa &&& (65535 : Int32)).toUInt32.toUInt16.toUInt32.toInt32), iv ((qb &&& (65535 : Int32)).toUInt32.toUInt16.toUInt32.toInt32), iv ((qc &&& (65535 : Int32)).toUInt32.toUInt16.toUInt32.toInt32), iv ((qd &&& (65535 : Int32)).toUInt32.toUInt16.toUInt32.toInt32), .unset, .unset, .unset] [])) (fun t k => XS.istore X0.here hx rfl (hb hby at_36) rfl (l' := #[iv qa, iv qb, iv qc, iv qd, iv qs, iv ((qs &&& (2147483647 : Int32)) % (8 : Int32)), iv ((qa &&& (65535 : Int32)).toUInt32.toUInt16.toUInt32.toInt32), iv ((qb &&& (65535 : Int32)).toUInt32.toUInt16.toUInt32.toInt32), iv ((qc &&& (65535 : Int32)).toUInt32.toUInt16.toUInt32.toInt32), iv ((qd &&& (65535 : Int32)).toUInt32.toUInt16.toUInt32.toInt32), .unset, .unset, .unset]) rfl k) ?_
  obtain ⟨ya, hya⟩ : ∃ y, y = ((qa &&& (65535 : Int32)).toUInt32.toUInt16.toUInt32.toInt32) := ⟨_, rfl⟩
  rw [← hya]
  have rya : ¬ ya < 0 ∧ ¬ (65535 : Int32) < ya := by rw [hya]; exact own_rngc (qa &&& (65535 : Int32))
  have cya : nar .char ya = ya := own_nc rya.1 rya.2
  obtain ⟨yb, hyb⟩ : ∃ y, y = ((qb &&& (65535 : Int32)).toUInt32.toUInt16.toUInt32.toInt32) := ⟨_, rfl⟩
  rw [← hyb]
  have ryb : ¬ yb < 0 ∧ ¬ (65535 : Int32) < yb := by rw [hyb]; exact own_rngc (qb &&& (65535 : Int32))
  have cyb : nar .char yb = yb := own_nc ryb.1 ryb.2
  obtain ⟨yc, hyc⟩ : ∃ y, y = ((qc &&& (65535 : Int32)).toUInt32.toUInt16.toUInt32.toInt32) := ⟨_, rfl⟩
  rw [← hyc]
  have ryc : ¬ yc < 0 ∧ ¬ (65535 : Int32) < yc := by rw [hyc]; exact own_rngc (qc &&& (65535 : Int32))
  have cyc : nar .char yc = yc := own_nc ryc.1 ryc.2
  obtain ⟨yd, hyd⟩ : ∃ y, y = ((qd &&& (65535 : Int32)).toUInt32.toUInt16.toUInt32.toInt32) := ⟨_, rfl⟩
  rw [← hyd]
  have ryd : ¬ yd < 0 ∧ ¬ (65535 : Int32) < yd := by rw [hyd]; exact own_rngc (qd &&& (65535 : Int32))
  have cyd : nar .char yd = yd := own_nc ryd.1 ryd.2
  show own_Endz p.tables e below (own_EndW Z s ["", "0123456789abcdef0123456789abcdef0123456789abcdef0123456789abcdef0123456789abcdef0123456789abcdef0123456789abcdef0123456789abcdef", "ABCDEFGHIJ.KLMN_ABCDEFGHIJ.KLMN_ABCDEFGHIJ.KLMN_ABCDEFGHIJ.KLMN_ABCDEFGHIJ.KLMN_ABCDEFGHIJ.KLMN_ABCDEFGHIJ.KLMN_ABCDEFGHIJ.KLMN_-"] room_1.cells room_1.slots (Q0 Z qa qb qc qd qs G1 fm al cA em h0 n0)) (s₁.setTop (mkF m 38 #[iv qa, iv qb, iv qc, iv qd, iv qs, iv ((qs &&& (2147483647 : Int32)) % (8 : Int32)), iv ya, iv yb, iv yc, iv yd, .unset, .unset, .unset] []))
  obtain ⟨js10, hj10, hX10⟩ := own_r8 qs
  match js10, hj10, hX10 with
  | 0, _, hX10 =>
    replace hX10 : ((qs &&& (2147483647 : Int32)) % (8 : Int32)) = (0 : Int32) := hX10
    rw [hX10]
    refine own_go (b := s₁.setTop (mkF m 40 #[iv qa, iv qb, iv qc, iv qd, iv qs, iv 0, iv ya, iv yb, iv yc, iv yd, .unset, .unset, .unset] [(.int 0)])) (fun t k => XS.iload X0.here hx rfl (hb hby at_38) rfl  k) ?_
    refine own_go (b := s₁.setTop (mkF m 41 #[iv qa, iv qb, iv qc, iv qd, iv qs, iv 0, iv ya, iv yb, iv yc, iv yd, .unset, .unset, .unset] [(.int 5), (.int 0)])) (fun t k => XS.iconst X0.here hx rfl (hb hby at_40) k) ?_
    refine own_go (b := s₁.setTop (mkF m 53 #[iv qa, iv qb, iv qc, iv qd, iv qs, iv 0, iv ya, iv yb, iv yc, iv yd, .unset, .unset, .unset] [])) (fun t k => XS.icmpYes X0.here hx rfl (pc0 := 41) (pc' := 53) rfl (hb hby at_41) rfl (feq (by decide : ¬ ((0 : Int32) = (5 : Int32)))).2 (by decide) (by decide) k) ?_
    refine own_go (b := s₁.setTop (mkF m 55 #[iv qa, iv qb, iv qc, iv qd, iv qs, iv 0, iv ya, iv yb, iv yc, iv yd, .unset, .unset, .unset] [(.int 0)])) (fun t k => XS.iload X0.here hx rfl (hb hby at_53) rfl  k) ?_
    refine own_go (b := s₁.setTop (mkF m 57 #[iv qa, iv qb, iv qc, iv qd, iv qs, iv 0, iv ya, iv yb, iv yc, iv yd, .unset, .unset, .unset] [(.int 6), (.int 0)])) (fun t k => XS.bipush X0.here hx rfl (hb hby at_55) k) ?_
    refine own_go (b := s₁.setTop (mkF m 94 #[iv qa, iv qb, iv qc, iv qd, iv qs, iv 0, iv ya, iv yb, iv yc, iv yd, .unset, .unset, .unset] [])) (fun t k => XS.icmpYes X0.here hx rfl (pc0 := 57) (pc' := 94) rfl (hb hby at_57) rfl (feq (by decide : ¬ ((0 : Int32) = (6 : Int32)))).2 (by decide) (by decide) k) ?_
    refine own_go (b := s₁.setTop (mkF m 96 #[iv qa, iv qb, iv qc, iv qd, iv qs, iv 0, iv ya, iv yb, iv yc, iv yd, .unset, .unset, .unset] [(.int 0)])) (fun t k => XS.iload X0.here hx rfl (hb hby at_94) rfl  k) ?_
    refine own_go (b := s₁.setTop (mkF m 98 #[iv qa, iv qb, iv qc, iv qd, iv qs, iv 0, iv ya, iv yb, iv yc, iv yd, .unset, .unset, .unset] [(.int 7), (.int 0)])) (fun t k => XS.bipush X0.here hx rfl (hb hby at_96) k) ?_
    refine own_go (b := s₁.setTop (mkF m 135 #[iv qa, iv qb, iv qc, iv qd, iv qs, iv 0, iv ya, iv yb, iv yc, iv yd, .unset, .unset, .unset] [])) (fun t k => XS.icmpYes X0.here hx rfl (pc0 := 98) (pc' := 135) rfl (hb hby at_98) rfl (feq (by decide : ¬ ((0 : Int32) = (7 : Int32)))).2 (by decide) (by decide) k) ?_
    refine own_go (b := s₁.setTop (mkF m 137 #[iv qa, iv qb, iv qc, iv qd, iv qs, iv 0, iv ya, iv yb, iv yc, iv yd, .unset, .unset, .unset] [(.int 0)])) (fun t k => XS.iload X0.here hx rfl (hb hby at_135) rfl  k) ?_
    refine own_go (b := s₁.setTop (mkF m 140 #[iv qa, iv qb, iv qc, iv qd, iv qs, iv 0, iv ya, iv yb, iv yc, iv yd, .unset, .unset, .unset] [])) (fun t k => XS.ifNo X0.here hx rfl (hb hby at_137) rfl ((if0 _ _).trans (teq (rfl : (0 : Int32) = (0 : Int32))).2) k) ?_
    refine own_go (b := s₁.setTop (mkF m 141 #[iv qa, iv qb, iv qc, iv qd, iv qs, iv 0, iv ya, iv yb, iv yc, iv yd, .unset, .unset, .unset] [(.int 0)])) (fun t k => XS.iconst X0.here hx rfl (hb hby at_140) k) ?_
    obtain ⟨T11, h11, k11, X11, e11, E11, A11, st11⟩ := newP X0 hx hZ (hw _ (List.mem_of_getElem? (i := 2) rfl)) e0 (g := (mkF m 141 #[iv qa, iv qb, iv qc, iv qd, iv qs, iv 0, iv ya, iv yb, iv yc, iv yd, .unset, .unset, .unset] [(.int 0)])) rfl (hb hby at_141) rfl (by decide) (cap := 0) (by decide) (by decide) (by decide) (by decide)
    obtain ⟨b11, g11⟩ : ∃ z, z = h0.size := ⟨_, rfl⟩
    rw [← g11] at A11 st11
    have g_b11 : n0 ≤ b11 := Nat.le_trans Z0 (Nat.le_of_eq g11.symm)
    have Zs11 : n0 ≤ h11.size := Nat.le_trans Z0 E11.1
    have Ol11 := Od.ext E11
    have V_b11 : Arv Z h11 b11 k11 .char (0 : Int32) [] (.int (0 : Int32)) := (Arv.new A11 (by decide)).pad (pad_rep [] (.int (0 : Int32)) 0)
    refine own_go (b := T11.setTop (mkF m 143 #[iv qa, iv qb, iv qc, iv qd, iv qs, iv 0, iv ya, iv yb, iv yc, iv yd, .unset, .unset, .unset] [(.ref b11)])) st11 ?_
    refine own_go (b := T11.setTop (mkF m 145 #[iv qa, iv qb, iv qc, iv qd, iv qs, iv 0, iv ya, iv yb, iv yc, iv yd, .unset, .unset, rv b11] [])) (fun t k => XS.astore X11.here hx rfl (hb hby at_143) rfl rfl (l' := #[iv qa, iv qb, iv qc, iv qd, iv qs, iv 0, iv ya, iv yb, iv yc, iv yd, .unset, .unset, rv b11]) rfl k) ?_
    refine own_go (b := T11.setTop (mkF m 245 #[iv qa, iv qb, iv qc, iv qd, iv qs, iv 0, iv ya, iv yb, iv yc, iv yd, .unset, .unset, rv b11] [])) (fun t k => XS.goto X11.here hx rfl (pc0 := 145) (pc' := 245) rfl (hb hby at_145) (by decide) (by decide) k) ?_
    obtain ⟨T12, h12, X12, e12, E12, A12, D12, -, st12⟩ := newO X11 hx hZ hown (hw _ (List.mem_of_getElem? (i := 3) rfl)) (hw _ (List.mem_of_getElem? (i := 4) rfl)) (hw _ (List.mem_of_getElem? (i := 5) rfl)) e11 (g := (mkF m 245 #[iv qa, iv qb, iv qc, iv qd, iv qs, iv 0, iv ya, iv yb, iv yc, iv yd, .unset, .unset, rv b11] [])) rfl (hb hby at_245) (by decide) (by decide)
    obtain ⟨b12, g12⟩ : ∃ z, z = h11.size := ⟨_, rfl⟩
    rw [← g12] at A12 D12 st12
    have g_b12 : n0 ≤ b12 := Nat.le_trans Zs11 (Nat.le_of_eq g12.symm)
    have Zs12 : n0 ≤ h12.size := Nat.le_trans Zs11 E12.1
    have Ol12 := Ol11.ext E12
    have F_value_b12 : Fld Z h12 b12 "java/lang/String" "value" "[B" .null := D12 (Or.inr (hw _ (List.mem_of_getElem? (i := 18) rfl))) (ty := (.array .byte)) (by decide)
    have F_coder_b12 : Fld Z h12 b12 "java/lang/String" "coder" "B" (.int 0) := D12 (Or.inr (hw _ (List.mem_of_getElem? (i := 19) rfl))) (ty := .byte) (by decide)
    refine own_go (b := T12.setTop (mkF m 248 #[iv qa, iv qb, iv qc, iv qd, iv qs, iv 0, iv ya, iv yb, iv yc, iv yd, .unset, .unset, rv b11] [(.ref b12)])) st12 ?_
    refine own_go (b := T12.setTop (mkF m 249 #[iv qa, iv qb, iv qc, iv qd, iv qs, iv 0, iv ya, iv yb, iv yc, iv yd, .unset, .unset, rv b11] [(.ref b12), (.ref b12)])) (fun t k => XS.dup X12.here hx rfl (hb hby at_248) rfl rfl k) ?_
    refine own_go (b := T12.setTop (mkF m 251 #[iv qa, iv qb, iv qc, iv qd, iv qs, iv 0, iv ya, iv yb, iv yc, iv yd, .unset, .unset, rv b11] [(.ref b11), (.ref b12), (.ref b12)])) (fun t k => XS.aload X12.here hx rfl (hb hby at_249) rfl rfl k) ?_
    obtain ⟨_, _, ⟨T13, L13, k13, n13⟩, -, X13, hSa13, hG13, ⟨Lc13, ⟨hQ13, I13⟩, l13, y13, z13⟩, st13⟩ := X12.specialBackS hx (y := (⟨"java/lang/String", "<init>", "([C)V"⟩ : MethodName)) rfl hown (mvT hZ (hw _ (List.mem_of_getElem? (i := 6) rfl))) (mvT hZ (hw _ (List.mem_of_getElem? (i := 7) rfl))) (mvT hZ (hw _ (List.mem_of_getElem? (i := 8) rfl))) (by decide) (own_backS (W := 1) (rm1e l Z a0 hw [] b12 b11 k11 h12 n0 Zs12 Ol12 Hc hcw A12 F_value_b12 F_coder_b12 g_b12 (V_b11.ext E12)) hZ (own_IBm (Te := ([] : List String)) I0 rfl (by simp)) (hw _ (List.mem_of_getElem? (i := 8) rfl)) (hw _ (List.mem_of_getElem? (i := 5) rfl)) (by decide) (by decide)) (g := (mkF m 251 #[iv qa, iv qb, iv qc, iv qd, iv qs, iv 0, iv ya, iv yb, iv yc, iv yd, .unset, .unset, rv b11] [(.ref b11), (.ref b12), (.ref b12)])) rfl (by rw [hml]; rfl) (Steps.refl _) (a := b12) (argsL := [(.ref b11)]) (rest := [(.ref b12)]) (lenOf pd_26 rfl) rfl (by show 2 * 0 + _ ≤ _; exact Nat.le_of_eq rfl) (hb hby at_251) (fun _ _ => ⟨rfl, e12, (by decide : 2 + 2 ≤ _), (by decide : 4 + 4 ≤ _)⟩)
    dsimp only [Pt.U, Pt.locs, Pt.cells, Pt.slots] at X13 l13 y13 z13 st13 hQ13 hSa13 hG13 I13
    subst l13 y13 z13
    obtain ⟨hS13, hZ, hown⟩ := own_reb hS0 (own_LeT ((Le0.ext E11).ext E12) e12) hSa13 hG13 hZ hown
    have Le13 : own_Le T13.heap.size T13.heap := Nat.le_refl _
    obtain ⟨rfl, N13q, K13, Sz13⟩ := hQ13
    have Zs13 : n0 ≤ T13.heap.size := Nat.le_trans Zs12 K13.1
    have N13 := Fr.app N0 N13q
    have Ol13 := Ol12.keep K13 (allS g_b12 all0)
    have Sx13 := own_Sx.ofSt Sz13
    obtain ⟨lq13, X13, N13⟩ : ∃ lq, Stand p l e room_1 (s.setVm T13.vm) m #[(.int qa), (.int qb), (.int qc), (.int qd), (.int qs)] below meth c T13 lq 4 8 ∧ Fr n0 lq := ⟨_, X13, N13⟩
    refine own_tr (b := T13.setTop (mkF m 254 #[iv qa, iv qb, iv qc, iv qd, iv qs, iv 0, iv ya, iv yb, iv yc, iv yd, .unset, .unset, rv b11] [(.ref b12)])) st13 ?_
    refine own_go (b := T13.setTop (mkF m 256 #[iv qa, iv qb, iv qc, iv qd, iv qs, iv 0, iv ya, iv yb, iv yc, iv yd, rv b12, .unset, rv b11] [])) (fun t k => XS.astore X13.here hx rfl (hb hby at_254) rfl rfl (l' := #[iv qa, iv qb, iv qc, iv qd, iv qs, iv 0, iv ya, iv yb, iv yc, iv yd, rv b12, .unset, rv b11]) rfl k) ?_
    refine own_go (b := T13.setTop (mkF m 258 #[iv qa, iv qb, iv qc, iv qd, iv qs, iv 0, iv ya, iv yb, iv yc, iv yd, rv b12, .unset, rv b11] [(.int 0)])) (fun t k => XS.iload X13.here hx rfl (hb hby at_256) rfl  k) ?_
    refine own_go (b := T13.setTop (mkF m 259 #[iv qa, iv qb, iv qc, iv qd, iv qs, iv 0, iv ya, iv yb, iv yc, iv yd, rv b12, .unset, rv b11] [(.int 1), (.int 0)])) (fun t k => XS.iconst X13.here hx rfl (hb hby at_258) k) ?_
    refine own_go (b := T13.setTop (mkF m 322 #[iv qa, iv qb, iv qc, iv qd, iv qs, iv 0, iv ya, iv yb, iv yc, iv yd, rv b12, .unset, rv b11] [])) (fun t k => XS.icmpYes X13.here hx rfl (pc0 := 259) (pc' := 322) rfl (hb hby at_259) rfl (tlt (by decide : (0 : Int32) < (1 : Int32))).1 (by decide) (by decide) k) ?_
    refine own_go (b := T13.setTop (mkF m 323 #[iv qa, iv qb, iv qc, iv qd, iv qs, iv 0, iv ya, iv yb, iv yc, iv yd, rv b12, .unset, rv b11] [(.int 0)])) (fun t k => XS.iconst X13.here hx rfl (hb hby at_322) k) ?_
    refine own_go (b := T13.setTop (mkF m 325 #[iv qa, iv qb, iv qc, iv qd, iv qs, iv 0, iv ya, iv yb, iv yc, iv yd, rv b12, iv 0, rv b11] [])) (fun t k => XS.istore X13.here hx rfl (hb hby at_323) rfl (l' := #[iv qa, iv qb, iv qc, iv qd, iv qs, iv 0, iv ya, iv yb, iv yc, iv yd, rv b12, iv 0, rv b11]) rfl k) ?_
    exact J325 T13 T13.heap _ T13.vm _ (0 : Int32) ya yb yc yd (0 : Int32) b12 [] (rv b11) (own_mono X13 (by decide) (by decide)) rfl N13 Zs13 Ol13 hS13 Le13 hZ hown (own_IBm I13 rfl (by simp)) Sx13 (if_neg (fun q => absurd q.1 (Nat.lt_irrefl 0))).symm (Or.inr ⟨_, rfl, rfl⟩)
  | 1, _, hX10 =>
    replace hX10 : ((qs &&& (2147483647 : Int32)) % (8 : Int32)) = (1 : Int32) := hX10
    rw [hX10]
    refine own_go (b := s₁.setTop (mkF m 40 #[iv qa, iv qb, iv qc, iv qd, iv qs, iv 1, iv ya, iv yb, iv yc, iv yd, .unset, .unset, .unset] [(.int 1)])) (fun t k => XS.iload X0.here hx rfl (hb hby at_38) rfl  k) ?_
    refine own_go (b := s₁.setTop (mkF m 41 #[iv qa, iv qb, iv qc, iv qd, iv qs, iv 1, iv ya, iv yb, iv yc, iv yd, .unset, .unset, .unset] [(.int 5), (.int 1)])) (fun t k => XS.iconst X0.here hx rfl (hb hby at_40) k) ?_
    refine own_go (b := s₁.setTop (mkF m 53 #[iv qa, iv qb, iv qc, iv qd, iv qs, iv 1, iv ya, iv yb, iv yc, iv yd, .unset, .unset, .unset] [])) (fun t k => XS.icmpYes X0.here hx rfl (pc0 := 41) (pc' := 53) rfl (hb hby at_41) rfl (feq (by decide : ¬ ((1 : Int32) = (5 : Int32)))).2 (by decide) (by decide) k) ?_
    refine own_go (b := s₁.setTop (mkF m 55 #[iv qa, iv qb, iv qc, iv qd, iv qs, iv 1, iv ya, iv yb, iv yc, iv yd, .unset, .unset, .unset] [(.int 1)])) (fun t k => XS.iload X0.here hx rfl (hb hby at_53) rfl  k) ?_
    refine own_go (b := s₁.setTop (mkF m 57 #[iv qa, iv qb, iv qc, iv qd, iv qs, iv 1, iv ya, iv yb, iv yc, iv yd, .unset, .unset, .unset] [(.int 6), (.int 1)])) (fun t k => XS.bipush X0.here hx rfl (hb hby at_55) k) ?_
    refine own_go (b := s₁.setTop (mkF m 94 #[iv qa, iv qb, iv qc, iv qd, iv qs, iv 1, iv ya, iv yb, iv yc, iv yd, .unset, .unset, .unset] [])) (fun t k => XS.icmpYes X0.here hx rfl (pc0 := 57) (pc' := 94) rfl (hb hby at_57) rfl (feq (by decide : ¬ ((1 : Int32) = (6 : Int32)))).2 (by decide) (by decide) k) ?_
    refine own_go (b := s₁.setTop (mkF m 96 #[iv qa, iv qb, iv qc, iv qd, iv qs, iv 1, iv ya, iv yb, iv yc, iv yd, .unset, .unset, .unset] [(.int 1)])) (fun t k => XS.iload X0.here hx rfl (hb hby at_94) rfl  k) ?_
    refine own_go (b := s₁.setTop (mkF m 98 #[iv qa, iv qb, iv qc, iv qd, iv qs, iv 1, iv ya, iv yb, iv yc, iv yd, .unset, .unset, .unset] [(.int 7), (.int 1)])) (fun t k => XS.bipush X0.here hx rfl (hb hby at_96) k) ?_
    refine own_go (b := s₁.setTop (mkF m 135 #[iv qa, iv qb, iv qc, iv qd, iv qs, iv 1, iv ya, iv yb, iv yc, iv yd, .unset, .unset, .unset] [])) (fun t k => XS.icmpYes X0.here hx rfl (pc0 := 98) (pc' := 135) rfl (hb hby at_98) rfl (feq (by decide : ¬ ((1 : Int32) = (7 : Int32)))).2 (by decide) (by decide) k) ?_
    refine own_go (b := s₁.setTop (mkF m 137 #[iv qa, iv qb, iv qc, iv qd, iv qs, iv 1, iv ya, iv yb, iv yc, iv yd, .unset, .unset, .unset] [(.int 1)])) (fun t k => XS.iload X0.here hx rfl (hb hby at_135) rfl  k) ?_
    refine own_go (b := s₁.setTop (mkF m 148 #[iv qa, iv qb, iv qc, iv qd, iv qs, iv 1, iv ya, iv yb, iv yc, iv yd, .unset, .unset, .unset] [])) (fun t k => XS.ifYes X0.here hx rfl (pc0 := 137) (pc' := 148) rfl (hb hby at_137) rfl ((if0 _ _).trans (feq (by decide : ¬ ((1 : Int32) = (0 : Int32)))).2) (by decide) (by decide) k) ?_
    refine own_go (b := s₁.setTop (mkF m 150 #[iv qa, iv qb, iv qc, iv qd, iv qs, iv 1, iv ya, iv yb, iv yc, iv yd, .unset, .unset, .unset] [(.int 1)])) (fun t k => XS.iload X0.here hx rfl (hb hby at_148) rfl  k) ?_
    refine own_go (b := s₁.setTop (mkF m 151 #[iv qa, iv qb, iv qc, iv qd, iv qs, iv 1, iv ya, iv yb, iv yc, iv yd, .unset, .unset, .unset] [(.int 1), (.int 1)])) (fun t k => XS.iconst X0.here hx rfl (hb hby at_150) k) ?_
    refine own_go (b := s₁.setTop (mkF m 154 #[iv qa, iv qb, iv qc, iv qd, iv qs, iv 1, iv ya, iv yb, iv yc, iv yd, .unset, .unset, .unset] [])) (fun t k => XS.icmpNo X0.here hx rfl (hb hby at_151) rfl (teq (rfl : (1 : Int32) = (1 : Int32))).2 k) ?_
    refine own_go (b := s₁.setTop (mkF m 155 #[iv qa, iv qb, iv qc, iv qd, iv qs, iv 1, iv ya, iv yb, iv yc, iv yd, .unset, .unset, .unset] [(.int 1)])) (fun t k => XS.iconst X0.here hx rfl (hb hby at_154) k) ?_
    obtain ⟨T14, h14, k14, X14, e14, E14, A14, st14⟩ := newP X0 hx hZ (hw _ (List.mem_of_getElem? (i := 2) rfl)) e0 (g := (mkF m 155 #[iv qa, iv qb, iv qc, iv qd, iv qs, iv 1, iv ya, iv yb, iv yc, iv yd, .unset, .unset, .unset] [(.int 1)])) rfl (hb hby at_155) rfl (by decide) (cap := 1) (by decide) (by decide) (by decide) (by decide)
    obtain ⟨b14, g14⟩ : ∃ z, z = h0.size := ⟨_, rfl⟩
    rw [← g14] at A14 st14
    have g_b14 : n0 ≤ b14 := Nat.le_trans Z0 (Nat.le_of_eq g14.symm)
    have Zs14 : n0 ≤ h14.size := Nat.le_trans Z0 E14.1
    have Ol14 := Od.ext E14
    have V_b14 : Arv Z h14 b14 k14 .char (1 : Int32) [(.int (0 : Int32))] (.int (0 : Int32)) := (Arv.new A14 (by decide)).pad (pad_rep [] (.int (0 : Int32)) 1)
    refine own_go (b := T14.setTop (mkF m 157 #[iv qa, iv qb, iv qc, iv qd, iv qs, iv 1, iv ya, iv yb, iv yc, iv yd, .unset, .unset, .unset] [(.ref b14)])) st14 ?_
    refine own_go (b := T14.setTop (mkF m 158 #[iv qa, iv qb, iv qc, iv qd, iv qs, iv 1, iv ya, iv yb, iv yc, iv yd, .unset, .unset, .unset] [(.ref b14), (.ref b14)])) (fun t k => XS.dup X14.here hx rfl (hb hby at_157) rfl rfl k) ?_
    refine own_go (b := T14.setTop (mkF m 159 #[iv qa, iv qb, iv qc, iv qd, iv qs, iv 1, iv ya, iv yb, iv yc, iv yd, .unset, .unset, .unset] [(.int 0), (.ref b14), (.ref b14)])) (fun t k => XS.iconst X14.here hx rfl (hb hby at_158) k) ?_
    refine own_go (b := T14.setTop (mkF m 161 #[iv qa, iv qb, iv qc, iv qd, iv qs, iv 1, iv ya, iv yb, iv yc, iv yd, .unset, .unset, .unset] [(.int ya), (.int 0), (.ref b14), (.ref b14)])) (fun t k => XS.iload X14.here hx rfl (hb hby at_159) rfl  k) ?_
    obtain ⟨cl15, Ar15, qc15, Sz15, Ng15, Hs15, Ft15⟩ := id V_b14
    have hin15 : ¬ ((0 : Int32) < 0 ∨ cl15.slots.size ≤ ((0 : Int32)).toNatClampNeg) := inb_of Sz15 ⟨by decide, by decide⟩
    obtain ⟨T16, h16, X16, e16, W16, st16⟩ := stC X14 hx hZ e14 Ar15 (j := (0 : Int32)) hin15 (g := (mkF m 161 #[iv qa, iv qb, iv qc, iv qd, iv qs, iv 1, iv ya, iv yb, iv yc, iv yd, .unset, .unset, .unset] [(.int ya), (.int 0), (.ref b14), (.ref b14)])) rfl rfl (hb hby at_161)
    have V_b14_16 : Arv Z h16 b14 k14 .char (1 : Int32) [(.int (nar .char ya))] (.int (0 : Int32)) := Arv.set Ar15 qc15 Sz15 Ng15 Hs15 Ft15 (fits_nar_char _) W16 0 rfl (Nat.le_of_ble_eq_true rfl)
    have Zs16 : n0 ≤ h16.size := Nat.le_trans Zs14 (Keep.of_wr W16).1
    have N16 := Fr.snoc X16 N0 g_b14
    have Ol16 := Ol14.wr W16 g_b14
    refine own_go (b := T16.setTop (mkF m 162 #[iv qa, iv qb, iv qc, iv qd, iv qs, iv 1, iv ya, iv yb, iv yc, iv yd, .unset, .unset, .unset] [(.ref b14)])) st16 ?_
    refine own_go (b := T16.setTop (mkF m 164 #[iv qa, iv qb, iv qc, iv qd, iv qs, iv 1, iv ya, iv yb, iv yc, iv yd, .unset, .unset, rv b14] [])) (fun t k => XS.astore X16.here hx rfl (hb hby at_162) rfl rfl (l' := #[iv qa, iv qb, iv qc, iv qd, iv qs, iv 1, iv ya, iv yb, iv yc, iv yd, .unset, .unset, rv b14]) rfl k) ?_
    refine own_go (b := T16.setTop (mkF m 245 #[iv qa, iv qb, iv qc, iv qd, iv qs, iv 1, iv ya, iv yb, iv yc, iv yd, .unset, .unset, rv b14] [])) (fun t k => XS.goto X16.here hx rfl (pc0 := 164) (pc' := 245) rfl (hb hby at_164) (by decide) (by decide) k) ?_
    have Vy17 : Arv Z h16 b14 k14 .char (([ya] : List Int32).length.toInt32) (([ya] : List Int32).map Value.int) (.int (0 : Int32)) := by
      have q := V_b14_16
      rw [cya] at q
      exact q
    have hrg : ∀ c ∈ ([ya] : List Int32), ¬ c < 0 ∧ ¬ (65535 : Int32) < c := by
      intro z hz
      simp only [List.mem_cons, List.not_mem_nil, or_false] at hz
      rcases hz with rfl
      · exact rya
    obtain ⟨T18, h18, X18, e18, E18, A18, D18, -, st18⟩ := newO X16 hx hZ hown (hw _ (List.mem_of_getElem? (i := 3) rfl)) (hw _ (List.mem_of_getElem? (i := 4) rfl)) (hw _ (List.mem_of_getElem? (i := 5) rfl)) e16 (g := (mkF m 245 #[iv qa, iv qb, iv qc, iv qd, iv qs, iv 1, iv ya, iv yb, iv yc, iv yd, .unset, .unset, rv b14] [])) rfl (hb hby at_245) (by decide) (by decide)
    obtain ⟨b18, g18⟩ : ∃ z, z = h16.size := ⟨_, rfl⟩
    rw [← g18] at A18 D18 st18
    have g_b18 : n0 ≤ b18 := Nat.le_trans Zs16 (Nat.le_of_eq g18.symm)
    have Zs18 : n0 ≤ h18.size := Nat.le_trans Zs16 E18.1
    have Ol18 := Ol16.ext E18
    have F_value_b18 : Fld Z h18 b18 "java/lang/String" "value" "[B" .null := D18 (Or.inr (hw _ (List.mem_of_getElem? (i := 18) rfl))) (ty := (.array .byte)) (by decide)
    have F_coder_b18 : Fld Z h18 b18 "java/lang/String" "coder" "B" (.int 0) := D18 (Or.inr (hw _ (List.mem_of_getElem? (i := 19) rfl))) (ty := .byte) (by decide)
    refine own_go (b := T18.setTop (mkF m 248 #[iv qa, iv qb, iv qc, iv qd, iv qs, iv 1, iv ya, iv yb, iv yc, iv yd, .unset, .unset, rv b14] [(.ref b18)])) st18 ?_
    refine own_go (b := T18.setTop (mkF m 249 #[iv qa, iv qb, iv qc, iv qd, iv qs, iv 1, iv ya, iv yb, iv yc, iv yd, .unset, .unset, rv b14] [(.ref b18), (.ref b18)])) (fun t k => XS.dup X18.here hx rfl (hb hby at_248) rfl rfl k) ?_
    refine own_go (b := T18.setTop (mkF m 251 #[iv qa, iv qb, iv qc, iv qd, iv qs, iv 1, iv ya, iv yb, iv yc, iv yd, .unset, .unset, rv b14] [(.ref b14), (.ref b18), (.ref b18)])) (fun t k => XS.aload X18.here hx rfl (hb hby at_249) rfl rfl k) ?_
    by_cases hc19 : ∀ c ∈ ([ya] : List Int32), ¬ (255 : Int32) < c
    · obtain ⟨_, _, ⟨T20, L20, k20, n20⟩, -, X20, ⟨Lc20, hQ20, l20, y20, z20⟩, st20⟩ := X18.specialBack hx (y := (⟨"java/lang/String", "<init>", "([C)V"⟩ : MethodName)) rfl hown (mvT hZ (hw _ (List.mem_of_getElem? (i := 6) rfl))) (mvT hZ (hw _ (List.mem_of_getElem? (i := 7) rfl))) (mvT hZ (hw _ (List.mem_of_getElem? (i := 8) rfl))) (by decide) (StrChars.Road.backV (W := 1) hZ hws (kI := 4) (hw _ (List.mem_of_getElem? (i := 4) rfl)) (cs := ([ya] : List Int32)) (bs := (([ya] : List Int32)).map (fun c => c.toInt8.toInt32)) (n := 1) g_b18 Zs18 A18 F_value_b18 F_coder_b18 (Vy17.ext E18) (O2.ext Ol18.2) P5 rfl rfl (by decide) (by decide) (fun c hc => ⟨(hrg c hc).1, hc19 c hc⟩) rfl (by decide) (by decide)) (g := (mkF m 251 #[iv qa, iv qb, iv qc, iv qd, iv qs, iv 1, iv ya, iv yb, iv yc, iv yd, .unset, .unset, rv b14] [(.ref b14), (.ref b18), (.ref b18)])) rfl (by rw [hml]; rfl) (Steps.refl _) (a := b18) (argsL := [(.ref b14)]) (rest := [(.ref b18)]) (lenOf pd_26 rfl) rfl (by show 2 * 0 + _ ≤ _; exact Nat.le_of_eq rfl) (hb hby at_251) (fun _ _ => ⟨rfl, e18, (by decide : 2 + 1 ≤ _), (by decide : 5 + 1 ≤ _)⟩)
      dsimp only [Pt.U, Pt.locs, Pt.cells, Pt.slots] at X20 l20 y20 z20 st20 hQ20
      subst l20 y20 z20
      obtain ⟨rfl, N20q, K20, Es20, Cs20, t20, kb20, ua20, ub20, uc20, Vs20, Ks20⟩ := hQ20
      have Zs20 : n0 ≤ T20.heap.size := Nat.le_trans Zs18 K20.1
      have N20 := Fr.app N16 N20q
      have Ol20 := Ol18.keep K20 (allS g_b18 all0)
      have Sx20 : own_Sx Z T20.heap b18 ([ya] : List Int32) := ⟨t20, kb20, 0, _, _, Es20, Vs20, Cs20, Ks20, StrChars.Road.codOf rfl fun c hc => hc19 c hc, hrg, Nat.le_of_ble_eq_true rfl, fun q => absurd q (by decide)⟩
      obtain ⟨lq20, X20, N20⟩ : ∃ lq, Stand p l e room_1 (s.setVm s.vm) m #[(.int qa), (.int qb), (.int qc), (.int qd), (.int qs)] below meth c T20 lq 3 6 ∧ Fr n0 lq := ⟨_, X20, N20⟩
      refine own_tr (b := T20.setTop (mkF m 254 #[iv qa, iv qb, iv qc, iv qd, iv qs, iv 1, iv ya, iv yb, iv yc, iv yd, .unset, .unset, rv b14] [(.ref b18)])) st20 ?_
      refine own_go (b := T20.setTop (mkF m 256 #[iv qa, iv qb, iv qc, iv qd, iv qs, iv 1, iv ya, iv yb, iv yc, iv yd, rv b18, .unset, rv b14] [])) (fun t k => XS.astore X20.here hx rfl (hb hby at_254) rfl rfl (l' := #[iv qa, iv qb, iv qc, iv qd, iv qs, iv 1, iv ya, iv yb, iv yc, iv yd, rv b18, .unset, rv b14]) rfl k) ?_
      refine own_go (b := T20.setTop (mkF m 258 #[iv qa, iv qb, iv qc, iv qd, iv qs, iv 1, iv ya, iv yb, iv yc, iv yd, rv b18, .unset, rv b14] [(.int 1)])) (fun t k => XS.iload X20.here hx rfl (hb hby at_256) rfl  k) ?_
      refine own_go (b := T20.setTop (mkF m 259 #[iv qa, iv qb, iv qc, iv qd, iv qs, iv 1, iv ya, iv yb, iv yc, iv yd, rv b18, .unset, rv b14] [(.int 1), (.int 1)])) (fun t k => XS.iconst X20.here hx rfl (hb hby at_258) k) ?_
      refine own_go (b := T20.setTop (mkF m 262 #[iv qa, iv qb, iv qc, iv qd, iv qs, iv 1, iv ya, iv yb, iv yc, iv yd, rv b18, .unset, rv b14] [])) (fun t k => XS.icmpNo X20.here hx rfl (hb hby at_259) rfl (flt (by decide : ¬ ((1 : Int32) < (1 : Int32)))).1 k) ?_
      refine own_go (b := T20.setTop (mkF m 264 #[iv qa, iv qb, iv qc, iv qd, iv qs, iv 1, iv ya, iv yb, iv yc, iv yd, rv b18, .unset, rv b14] [(.int 1)])) (fun t k => XS.iload X20.here hx rfl (hb hby at_262) rfl  k) ?_
      refine own_go (b := T20.setTop (mkF m 265 #[iv qa, iv qb, iv qc, iv qd, iv qs, iv 1, iv ya, iv yb, iv yc, iv yd, rv b18, .unset, rv b14] [(.int 1), (.int 1)])) (fun t k => XS.iconst X20.here hx rfl (hb hby at_264) k) ?_
      refine own_go (b := T20.setTop (mkF m 268 #[iv qa, iv qb, iv qc, iv qd, iv qs, iv 1, iv ya, iv yb, iv yc, iv yd, rv b18, .unset, rv b14] [])) (fun t k => XS.icmpNo X20.here hx rfl (hb hby at_265) rfl (flt (by decide : ¬ ((1 : Int32) < (1 : Int32)))).1 k) ?_
      refine own_go (b := T20.setTop (mkF m 270 #[iv qa, iv qb, iv qc, iv qd, iv qs, iv 1, iv ya, iv yb, iv yc, iv yd, rv b18, .unset, rv b14] [(.int ya)])) (fun t k => XS.iload X20.here hx rfl (hb hby at_268) rfl  k) ?_
      obtain ⟨_, _, ⟨T21, L21, k21, n21⟩, -, X21, ⟨Lc21, hQ21, l21, y21, z21⟩, st21⟩ := Jvm.LawKit.callS X20 hx (y := (⟨"com/example/fault/fault/TraceIdParsePinLaw", "ok", "(C)Z"⟩ : MethodName)) hown (mvT hZ (hw _ (List.mem_of_getElem? (i := 71) rfl))) (mvT hZ (hw _ (List.mem_of_getElem? (i := 72) rfl))) (mvT hZ (hw _ (List.mem_of_getElem? (i := 73) rfl))) (mvT hZ (hw _ (List.mem_of_getElem? (i := 74) rfl))) (by decide) (backOf (W := 0) (rm14 l Z a0 hw [] ya  T20.heap n0 Zs20 ) hZ (hw _ (List.mem_of_getElem? (i := 74) rfl)) (hw _ (List.mem_of_getElem? (i := 73) rfl)) (by decide) (by decide)) (g := (mkF m 270 #[iv qa, iv qb, iv qc, iv qd, iv qs, iv 1, iv ya, iv yb, iv yc, iv yd, rv b18, .unset, rv b14] [(.int ya)])) rfl (by rw [hml]; rfl) (argsL := [(.int ya)]) (rest := []) (lenOf pd_27 rfl) rfl (by show 2 * 0 + _ ≤ _; exact Nat.le_of_eq rfl) (hb hby at_270) (fun _ _ => ⟨rfl, rfl, (by decide : 3 + 0 ≤ _), (by decide : 6 + 0 ≤ _)⟩)
      dsimp only [Pt.U, Pt.locs, Pt.cells, Pt.slots] at X21 l21 y21 z21 st21 hQ21
      subst l21 y21 z21
      obtain ⟨rfl, N21q, e21⟩ := hQ21
      have N21 := Fr.app N20 N21q
      obtain ⟨lq21, X21, N21⟩ : ∃ lq, Stand p l e room_1 (s.setVm s.vm) m #[(.int qa), (.int qb), (.int qc), (.int qd), (.int qs)] below meth c T21 lq 3 6 ∧ Fr n0 lq := ⟨_, X21, N21⟩
      refine own_go (b := T21.setTop (mkF m 273 #[iv qa, iv qb, iv qc, iv qd, iv qs, iv 1, iv ya, iv yb, iv yc, iv yd, rv b18, .unset, rv b14] [(.int (own_ok01 ya))])) st21 ?_
      by_cases hc22 : own_okP ya
      · rw [own_ok01, if_pos hc22]
        refine own_go (b := T21.setTop (mkF m 276 #[iv qa, iv qb, iv qc, iv qd, iv qs, iv 1, iv ya, iv yb, iv yc, iv yd, rv b18, .unset, rv b14] [])) (fun t k => XS.ifNo X21.here hx rfl (hb hby at_273) rfl ((if0 _ _).trans (feq (by decide : ¬ ((1 : Int32) = (0 : Int32)))).1) k) ?_
        refine own_go (b := T21.setTop (mkF m 278 #[iv qa, iv qb, iv qc, iv qd, iv qs, iv 1, iv ya, iv yb, iv yc, iv yd, rv b18, .unset, rv b14] [(.int 1)])) (fun t k => XS.iload X21.here hx rfl (hb hby at_276) rfl  k) ?_
        refine own_go (b := T21.setTop (mkF m 279 #[iv qa, iv qb, iv qc, iv qd, iv qs, iv 1, iv ya, iv yb, iv yc, iv yd, rv b18, .unset, rv b14] [(.int 2), (.int 1)])) (fun t k => XS.iconst X21.here hx rfl (hb hby at_278) k) ?_
        refine own_go (b := T21.setTop (mkF m 290 #[iv qa, iv qb, iv qc, iv qd, iv qs, iv 1, iv ya, iv yb, iv yc, iv yd, rv b18, .unset, rv b14] [])) (fun t k => XS.icmpYes X21.here hx rfl (pc0 := 279) (pc' := 290) rfl (hb hby at_279) rfl (tlt (by decide : (1 : Int32) < (2 : Int32))).1 (by decide) (by decide) k) ?_
        refine own_go (b := T21.setTop (mkF m 292 #[iv qa, iv qb, iv qc, iv qd, iv qs, iv 1, iv ya, iv yb, iv yc, iv yd, rv b18, .unset, rv b14] [(.int 1)])) (fun t k => XS.iload X21.here hx rfl (hb hby at_290) rfl  k) ?_
        refine own_go (b := T21.setTop (mkF m 293 #[iv qa, iv qb, iv qc, iv qd, iv qs, iv 1, iv ya, iv yb, iv yc, iv yd, rv b18, .unset, rv b14] [(.int 3), (.int 1)])) (fun t k => XS.iconst X21.here hx rfl (hb hby at_292) k) ?_
        refine own_go (b := T21.setTop (mkF m 304 #[iv qa, iv qb, iv qc, iv qd, iv qs, iv 1, iv ya, iv yb, iv yc, iv yd, rv b18, .unset, rv b14] [])) (fun t k => XS.icmpYes X21.here hx rfl (pc0 := 293) (pc' := 304) rfl (hb hby at_293) rfl (tlt (by decide : (1 : Int32) < (3 : Int32))).1 (by decide) (by decide) k) ?_
        refine own_go (b := T21.setTop (mkF m 306 #[iv qa, iv qb, iv qc, iv qd, iv qs, iv 1, iv ya, iv yb, iv yc, iv yd, rv b18, .unset, rv b14] [(.int 1)])) (fun t k => XS.iload X21.here hx rfl (hb hby at_304) rfl  k) ?_
        refine own_go (b := T21.setTop (mkF m 307 #[iv qa, iv qb, iv qc, iv qd, iv qs, iv 1, iv ya, iv yb, iv yc, iv yd, rv b18, .unset, rv b14] [(.int 4), (.int 1)])) (fun t k => XS.iconst X21.here hx rfl (hb hby at_306) k) ?_
        refine own_go (b := T21.setTop (mkF m 318 #[iv qa, iv qb, iv qc, iv qd, iv qs, iv 1, iv ya, iv yb, iv yc, iv yd, rv b18, .unset, rv b14] [])) (fun t k => XS.icmpYes X21.here hx rfl (pc0 := 307) (pc' := 318) rfl (hb hby at_307) rfl (tlt (by decide : (1 : Int32) < (4 : Int32))).1 (by decide) (by decide) k) ?_
        refine own_go (b := T21.setTop (mkF m 319 #[iv qa, iv qb, iv qc, iv qd, iv qs, iv 1, iv ya, iv yb, iv yc, iv yd, rv b18, .unset, rv b14] [(.int 1)])) (fun t k => XS.iconst X21.here hx rfl (hb hby at_318) k) ?_
        refine own_go (b := T21.setTop (mkF m 323 #[iv qa, iv qb, iv qc, iv qd, iv qs, iv 1, iv ya, iv yb, iv yc, iv yd, rv b18, .unset, rv b14] [(.int 1)])) (fun t k => XS.goto X21.here hx rfl (pc0 := 319) (pc' := 323) rfl (hb hby at_319) (by decide) (by decide) k) ?_
        refine own_go (b := T21.setTop (mkF m 325 #[iv qa, iv qb, iv qc, iv qd, iv qs, iv 1, iv ya, iv yb, iv yc, iv yd, rv b18, iv 1, rv b14] [])) (fun t k => XS.istore X21.here hx rfl (hb hby at_323) rfl (l' := #[iv qa, iv qb, iv qc, iv qd, iv qs, iv 1, iv ya, iv yb, iv yc, iv yd, rv b18, iv 1, rv b14]) rfl k) ?_
        exact J325 T21 T20.heap _ s.vm _ (1 : Int32) ya yb yc yd (1 : Int32) b18 ([ya] : List Int32) (rv b14) (own_mono X21 (by decide) (by decide)) e21 N21 Zs20 Ol20 hS0 ((((Le0.ext E14).wr W16).ext E18).keep K20) hZ hown (own_IBm I0 rfl (by simp)) Sx20 (if_pos ⟨Nat.le_of_ble_eq_true rfl, Nat.le_of_ble_eq_true rfl, by intro z hz; simp only [List.mem_cons, List.not_mem_nil, or_false] at hz; rcases hz with rfl; exact hc22⟩).symm (Or.inr ⟨_, rfl, rfl⟩)
      · rw [own_ok01, if_neg hc22]
        refine own_go (b := T21.setTop (mkF m 322 #[iv qa, iv qb, iv qc, iv qd, iv qs, iv 1, iv ya, iv yb, iv yc, iv yd, rv b18, .unset, rv b14] [])) (fun t k => XS.ifYes X21.here hx rfl (pc0 := 273) (pc' := 322) rfl (hb hby at_273) rfl ((if0 _ _).trans (teq (rfl : (0 : Int32) = (0 : Int32))).1) (by decide) (by decide) k) ?_
        refine own_go (b := T21.setTop (mkF m 323 #[iv qa, iv qb, iv qc, iv qd, iv qs, iv 1, iv ya, iv yb, iv yc, iv yd, rv b18, .unset, rv b14] [(.int 0)])) (fun t k => XS.iconst X21.here hx rfl (hb hby at_322) k) ?_
        refine own_go (b := T21.setTop (mkF m 325 #[iv qa, iv qb, iv qc, iv qd, iv qs, iv 1, iv ya, iv yb, iv yc, iv yd, rv b18, iv 0, rv b14] [])) (fun t k => XS.istore X21.here hx rfl (hb hby at_323) rfl (l' := #[iv qa, iv qb, iv qc, iv qd, iv qs, iv 1, iv ya, iv yb, iv yc, iv yd, rv b18, iv 0, rv b14]) rfl k) ?_
        exact J325 T21 T20.heap _ s.vm _ (1 : Int32) ya yb yc yd (0 : Int32) b18 ([ya] : List Int32) (rv b14) (own_mono X21 (by decide) (by decide)) e21 N21 Zs20 Ol20 hS0 ((((Le0.ext E14).wr W16).ext E18).keep K20) hZ hown (own_IBm I0 rfl (by simp)) Sx20 (if_neg (fun q => hc22 (q.2.2 _ (by simp)))).symm (Or.inr ⟨_, rfl, rfl⟩)
    · obtain ⟨jj, hj, hgt, hlt⟩ := own_first _ hc19
      obtain ⟨_, _, ⟨T23, L23, k23, n23⟩, -, X23, ⟨Lc23, hQ23, l23, y23, z23⟩, st23⟩ := X18.specialBack hx (y := (⟨"java/lang/String", "<init>", "([C)V"⟩ : MethodName)) rfl hown (mvT hZ (hw _ (List.mem_of_getElem? (i := 6) rfl))) (mvT hZ (hw _ (List.mem_of_getElem? (i := 7) rfl))) (mvT hZ (hw _ (List.mem_of_getElem? (i := 8) rfl))) (by decide) (backOf (W := 1) (rm1w l Z a0 hw [] b18 b14 k14 ([ya] : List Int32) jj G1 h18 n0 Zs18 (Nat.le_of_ble_eq_true rfl) (Nat.le_of_ble_eq_true rfl) Ol18 (Vy17.ext E18) Sad Shi Slo hj hlt hgt hrg O2 P5 A18 F_value_b18 F_coder_b18 g_b18) hZ (hw _ (List.mem_of_getElem? (i := 8) rfl)) (hw _ (List.mem_of_getElem? (i := 5) rfl)) (by decide) (by decide)) (g := (mkF m 251 #[iv qa, iv qb, iv qc, iv qd, iv qs, iv 1, iv ya, iv yb, iv yc, iv yd, .unset, .unset, rv b14] [(.ref b14), (.ref b18), (.ref b18)])) rfl (by rw [hml]; rfl) (Steps.refl _) (a := b18) (argsL := [(.ref b14)]) (rest := [(.ref b18)]) (lenOf pd_26 rfl) rfl (by show 2 * 0 + _ ≤ _; exact Nat.le_of_eq rfl) (hb hby at_251) (fun _ _ => ⟨rfl, e18, (by decide : 2 + 2 ≤ _), (by decide : 5 + 12 ≤ _)⟩)
      dsimp only [Pt.U, Pt.locs, Pt.cells, Pt.slots] at X23 l23 y23 z23 st23 hQ23
      subst l23 y23 z23
      obtain ⟨rfl, N23q, K23, Sx23⟩ := hQ23
      have Zs23 : n0 ≤ T23.heap.size := Nat.le_trans Zs18 K23.1
      have N23 := Fr.app N16 N23q
      have Ol23 := Ol18.keep K23 (allS g_b18 all0)
      obtain ⟨lq23, X23, N23⟩ : ∃ lq, Stand p l e room_1 (s.setVm s.vm) m #[(.int qa), (.int qb), (.int qc), (.int qd), (.int qs)] below meth c T23 lq 4 17 ∧ Fr n0 lq := ⟨_, X23, N23⟩
      refine own_tr (b := T23.setTop (mkF m 254 #[iv qa, iv qb, iv qc, iv qd, iv qs, iv 1, iv ya, iv yb, iv yc, iv yd, .unset, .unset, rv b14] [(.ref b18)])) st23 ?_
      refine own_go (b := T23.setTop (mkF m 256 #[iv qa, iv qb, iv qc, iv qd, iv qs, iv 1, iv ya, iv yb, iv yc, iv yd, rv b18, .unset, rv b14] [])) (fun t k => XS.astore X23.here hx rfl (hb hby at_254) rfl rfl (l' := #[iv qa, iv qb, iv qc, iv qd, iv qs, iv 1, iv ya, iv yb, iv yc, iv yd, rv b18, .unset, rv b14]) rfl k) ?_
      refine own_go (b := T23.setTop (mkF m 258 #[iv qa, iv qb, iv qc, iv qd, iv qs, iv 1, iv ya, iv yb, iv yc, iv yd, rv b18, .unset, rv b14] [(.int 1)])) (fun t k => XS.iload X23.here hx rfl (hb hby at_256) rfl  k) ?_
      refine own_go (b := T23.setTop (mkF m 259 #[iv qa, iv qb, iv qc, iv qd, iv qs, iv 1, iv ya, iv yb, iv yc, iv yd, rv b18, .unset, rv b14] [(.int 1), (.int 1)])) (fun t k => XS.iconst X23.here hx rfl (hb hby at_258) k) ?_
      refine own_go (b := T23.setTop (mkF m 262 #[iv qa, iv qb, iv qc, iv qd, iv qs, iv 1, iv ya, iv yb, iv yc, iv yd, rv b18, .unset, rv b14] [])) (fun t k => XS.icmpNo X23.here hx rfl (hb hby at_259) rfl (flt (by decide : ¬ ((1 : Int32) < (1 : Int32)))).1 k) ?_
      refine own_go (b := T23.setTop (mkF m 264 #[iv qa, iv qb, iv qc, iv qd, iv qs, iv 1, iv ya, iv yb, iv yc, iv yd, rv b18, .unset, rv b14] [(.int 1)])) (fun t k => XS.iload X23.here hx rfl (hb hby at_262) rfl  k) ?_
      refine own_go (b := T23.setTop (mkF m 265 #[iv qa, iv qb, iv qc, iv qd, iv qs, iv 1, iv ya, iv yb, iv yc, iv yd, rv b18, .unset, rv b14] [(.int 1), (.int 1)])) (fun t k => XS.iconst X23.here hx rfl (hb hby at_264) k) ?_
      refine own_go (b := T23.setTop (mkF m 268 #[iv qa, iv qb, iv qc, iv qd, iv qs, iv 1, iv ya, iv yb, iv yc, iv yd, rv b18, .unset, rv b14] [])) (fun t k => XS.icmpNo X23.here hx rfl (hb hby at_265) rfl (flt (by decide : ¬ ((1 : Int32) < (1 : Int32)))).1 k) ?_
      refine own_go (b := T23.setTop (mkF m 270 #[iv qa, iv qb, iv qc, iv qd, iv qs, iv 1, iv ya, iv yb, iv yc, iv yd, rv b18, .unset, rv b14] [(.int ya)])) (fun t k => XS.iload X23.here hx rfl (hb hby at_268) rfl  k) ?_
      obtain ⟨_, _, ⟨T24, L24, k24, n24⟩, -, X24, ⟨Lc24, hQ24, l24, y24, z24⟩, st24⟩ := Jvm.LawKit.callS X23 hx (y := (⟨"com/example/fault/fault/TraceIdParsePinLaw", "ok", "(C)Z"⟩ : MethodName)) hown (mvT hZ (hw _ (List.mem_of_getElem? (i := 71) rfl))) (mvT hZ (hw _ (List.mem_of_getElem? (i := 72) rfl))) (mvT hZ (hw _ (List.mem_of_getElem? (i := 73) rfl))) (mvT hZ (hw _ (List.mem_of_getElem? (i := 74) rfl))) (by decide) (backOf (W := 0) (rm14 l Z a0 hw [] ya  T23.heap n0 Zs23 ) hZ (hw _ (List.mem_of_getElem? (i := 74) rfl)) (hw _ (List.mem_of_getElem? (i := 73) rfl)) (by decide) (by decide)) (g := (mkF m 270 #[iv qa, iv qb, iv qc, iv qd, iv qs, iv 1, iv ya, iv yb, iv yc, iv yd, rv b18, .unset, rv b14] [(.int ya)])) rfl (by rw [hml]; rfl) (argsL := [(.int ya)]) (rest := []) (lenOf pd_27 rfl) rfl (by show 2 * 0 + _ ≤ _; exact Nat.le_of_eq rfl) (hb hby at_270) (fun _ _ => ⟨rfl, rfl, (by decide : 4 + 0 ≤ _), (by decide : 17 + 0 ≤ _)⟩)
      dsimp only [Pt.U, Pt.locs, Pt.cells, Pt.slots] at X24 l24 y24 z24 st24 hQ24
      subst l24 y24 z24
      obtain ⟨rfl, N24q, e24⟩ := hQ24
      have N24 := Fr.app N23 N24q
      obtain ⟨lq24, X24, N24⟩ : ∃ lq, Stand p l e room_1 (s.setVm s.vm) m #[(.int qa), (.int qb), (.int qc), (.int qd), (.int qs)] below meth c T24 lq 4 17 ∧ Fr n0 lq := ⟨_, X24, N24⟩
      refine own_go (b := T24.setTop (mkF m 273 #[iv qa, iv qb, iv qc, iv qd, iv qs, iv 1, iv ya, iv yb, iv yc, iv yd, rv b18, .unset, rv b14] [(.int (own_ok01 ya))])) st24 ?_
      by_cases hc25 : own_okP ya
      · rw [own_ok01, if_pos hc25]
        refine own_go (b := T24.setTop (mkF m 276 #[iv qa, iv qb, iv qc, iv qd, iv qs, iv 1, iv ya, iv yb, iv yc, iv yd, rv b18, .unset, rv b14] [])) (fun t k => XS.ifNo X24.here hx rfl (hb hby at_273) rfl ((if0 _ _).trans (feq (by decide : ¬ ((1 : Int32) = (0 : Int32)))).1) k) ?_
        refine own_go (b := T24.setTop (mkF m 278 #[iv qa, iv qb, iv qc, iv qd, iv qs, iv 1, iv ya, iv yb, iv yc, iv yd, rv b18, .unset, rv b14] [(.int 1)])) (fun t k => XS.iload X24.here hx rfl (hb hby at_276) rfl  k) ?_
        refine own_go (b := T24.setTop (mkF m 279 #[iv qa, iv qb, iv qc, iv qd, iv qs, iv 1, iv ya, iv yb, iv yc, iv yd, rv b18, .unset, rv b14] [(.int 2), (.int 1)])) (fun t k => XS.iconst X24.here hx rfl (hb hby at_278) k) ?_
        refine own_go (b := T24.setTop (mkF m 290 #[iv qa, iv qb, iv qc, iv qd, iv qs, iv 1, iv ya, iv yb, iv yc, iv yd, rv b18, .unset, rv b14] [])) (fun t k => XS.icmpYes X24.here hx rfl (pc0 := 279) (pc' := 290) rfl (hb hby at_279) rfl (tlt (by decide : (1 : Int32) < (2 : Int32))).1 (by decide) (by decide) k) ?_
        refine own_go (b := T24.setTop (mkF m 292 #[iv qa, iv qb, iv qc, iv qd, iv qs, iv 1, iv ya, iv yb, iv yc, iv yd, rv b18, .unset, rv b14] [(.int 1)])) (fun t k => XS.iload X24.here hx rfl (hb hby at_290) rfl  k) ?_
        refine own_go (b := T24.setTop (mkF m 293 #[iv qa, iv qb, iv qc, iv qd, iv qs, iv 1, iv ya, iv yb, iv yc, iv yd, rv b18, .unset, rv b14] [(.int 3), (.int 1)])) (fun t k => XS.iconst X24.here hx rfl (hb hby at_292) k) ?_
        refine own_go (b := T24.setTop (mkF m 304 #[iv qa, iv qb, iv qc, iv qd, iv qs, iv 1, iv ya, iv yb, iv yc, iv yd, rv b18, .unset, rv b14] [])) (fun t k => XS.icmpYes X24.here hx rfl (pc0 := 293) (pc' := 304) rfl (hb hby at_293) rfl (tlt (by decide : (1 : Int32) < (3 : Int32))).1 (by decide) (by decide) k) ?_
        refine own_go (b := T24.setTop (mkF m 306 #[iv qa, iv qb, iv qc, iv qd, iv qs, iv 1, iv ya, iv yb, iv yc, iv yd, rv b18, .unset, rv b14] [(.int 1)])) (fun t k => XS.iload X24.here hx rfl (hb hby at_304) rfl  k) ?_
        refine own_go (b := T24.setTop (mkF m 307 #[iv qa, iv qb, iv qc, iv qd, iv qs, iv 1, iv ya, iv yb, iv yc, iv yd, rv b18, .unset, rv b14] [(.int 4), (.int 1)])) (fun t k => XS.iconst X24.here hx rfl (hb hby at_306) k) ?_
        refine own_go (b := T24.setTop (mkF m 318 #[iv qa, iv qb, iv qc, iv qd, iv qs, iv 1, iv ya, iv yb, iv yc, iv yd, rv b18, .unset, rv b14] [])) (fun t k => XS.icmpYes X24.here hx rfl (pc0 := 307) (pc' := 318) rfl (hb hby at_307) rfl (tlt (by decide : (1 : Int32) < (4 : Int32))).1 (by decide) (by decide) k) ?_
        refine own_go (b := T24.setTop (mkF m 319 #[iv qa, iv qb, iv qc, iv qd, iv qs, iv 1, iv ya, iv yb, iv yc, iv yd, rv b18, .unset, rv b14] [(.int 1)])) (fun t k => XS.iconst X24.here hx rfl (hb hby at_318) k) ?_
        refine own_go (b := T24.setTop (mkF m 323 #[iv qa, iv qb, iv qc, iv qd, iv qs, iv 1, iv ya, iv yb, iv yc, iv yd, rv b18, .unset, rv b14] [(.int 1)])) (fun t k => XS.goto X24.here hx rfl (pc0 := 319) (pc' := 323) rfl (hb hby at_319) (by decide) (by decide) k) ?_
        refine own_go (b := T24.setTop (mkF m 325 #[iv qa, iv qb, iv qc, iv qd, iv qs, iv 1, iv ya, iv yb, iv yc, iv yd, rv b18, iv 1, rv b14] [])) (fun t k => XS.istore X24.here hx rfl (hb hby at_323) rfl (l' := #[iv qa, iv qb, iv qc, iv qd, iv qs, iv 1, iv ya, iv yb, iv yc, iv yd, rv b18, iv 1, rv b14]) rfl k) ?_
        exact J325 T24 T23.heap _ s.vm _ (1 : Int32) ya yb yc yd (1 : Int32) b18 ([ya] : List Int32) (rv b14) (own_mono X24 (by decide) (by decide)) e24 N24 Zs23 Ol23 hS0 ((((Le0.ext E14).wr W16).ext E18).keep K23) hZ hown (own_IBm I0 rfl (by simp)) Sx23 (if_pos ⟨Nat.le_of_ble_eq_true rfl, Nat.le_of_ble_eq_true rfl, by intro z hz; simp only [List.mem_cons, List.not_mem_nil, or_false] at hz; rcases hz with rfl; exact hc25⟩).symm (Or.inr ⟨_, rfl, rfl⟩)
      · rw [own_ok01, if_neg hc25]
        refine own_go (b := T24.setTop (mkF m 322 #[iv qa, iv qb, iv qc, iv qd, iv qs, iv 1, iv ya, iv yb, iv yc, iv yd, rv b18, .unset, rv b14] [])) (fun t k => XS.ifYes X24.here hx rfl (pc0 := 273) (pc' := 322) rfl (hb hby at_273) rfl ((if0 _ _).trans (teq (rfl : (0 : Int32) = (0 : Int32))).1) (by decide) (by decide) k) ?_
        refine own_go (b := T24.setTop (mkF m 323 #[iv qa, iv qb, iv qc, iv qd, iv qs, iv 1, iv ya, iv yb, iv yc, iv yd, rv b18, .unset, rv b14] [(.int 0)])) (fun t k => XS.iconst X24.here hx rfl (hb hby at_322) k) ?_
        refine own_go (b := T24.setTop (mkF m 325 #[iv qa, iv qb, iv qc, iv qd, iv qs, iv 1, iv ya, iv yb, iv yc, iv yd, rv b18, iv 0, rv b14] [])) (fun t k => XS.istore X24.here hx rfl (hb hby at_323) rfl (l' := #[iv qa, iv qb, iv qc, iv qd, iv qs, iv 1, iv ya, iv yb, iv yc, iv yd, rv b18, iv 0, rv b14]) rfl k) ?_
        exact J325 T24 T23.heap _ s.vm _ (1 : Int32) ya yb yc yd (0 : Int32) b18 ([ya] : List Int32) (rv b14) (own_mono X24 (by decide) (by decide)) e24 N24 Zs23 Ol23 hS0 ((((Le0.ext E14).wr W16).ext E18).keep K23) hZ hown (own_IBm I0 rfl (by simp)) Sx23 (if_neg (fun q => hc25 (q.2.2 _ (by simp)))).symm (Or.inr ⟨_, rfl, rfl⟩)
  | 2, _, hX10 =>
    replace hX10 : ((qs &&& (2147483647 : Int32)) % (8 : Int32)) = (2 : Int32) := hX10
    rw [hX10]
    refine own_go (b := s₁.setTop (mkF m 40 #[iv qa, iv qb, iv qc, iv qd, iv qs, iv 2, iv ya, iv yb, iv yc, iv yd, .unset, .unset, .unset] [(.int 2)])) (fun t k => XS.iload X0.here hx rfl (hb hby at_38) rfl  k) ?_
    refine own_go (b := s₁.setTop (mkF m 41 #[iv qa, iv qb, iv qc, iv qd, iv qs, iv 2, iv ya, iv yb, iv yc, iv yd, .unset, .unset, .unset] [(.int 5), (.int 2)])) (fun t k => XS.iconst X0.here hx rfl (hb hby at_40) k) ?_
    refine own_go (b := s₁.setTop (mkF m 53 #[iv qa, iv qb, iv qc, iv qd, iv qs, iv 2, iv ya, iv yb, iv yc, iv yd, .unset, .unset, .unset] [])) (fun t k => XS.icmpYes X0.here hx rfl (pc0 := 41) (pc' := 53) rfl (hb hby at_41) rfl (feq (by decide : ¬ ((2 : Int32) = (5 : Int32)))).2 (by decide) (by decide) k) ?_
    refine own_go (b := s₁.setTop (mkF m 55 #[iv qa, iv qb, iv qc, iv qd, iv qs, iv 2, iv ya, iv yb, iv yc, iv yd, .unset, .unset, .unset] [(.int 2)])) (fun t k => XS.iload X0.here hx rfl (hb hby at_53) rfl  k) ?_
    refine own_go (b := s₁.setTop (mkF m 57 #[iv qa, iv qb, iv qc, iv qd, iv qs, iv 2, iv ya, iv yb, iv yc, iv yd, .unset, .unset, .unset] [(.int 6), (.int 2)])) (fun t k => XS.bipush X0.here hx rfl (hb hby at_55) k) ?_
    refine own_go (b := s₁.setTop (mkF m 94 #[iv qa, iv qb, iv qc, iv qd, iv qs, iv 2, iv ya, iv yb, iv yc, iv yd, .unset, .unset, .unset] [])) (fun t k => XS.icmpYes X0.here hx rfl (pc0 := 57) (pc' := 94) rfl (hb hby at_57) rfl (feq (by decide : ¬ ((2 : Int32) = (6 : Int32)))).2 (by decide) (by decide) k) ?_
    refine own_go (b := s₁.setTop (mkF m 96 #[iv qa, iv qb, iv qc, iv qd, iv qs, iv 2, iv ya, iv yb, iv yc, iv yd, .unset, .unset, .unset] [(.int 2)])) (fun t k => XS.iload X0.here hx rfl (hb hby at_94) rfl  k) ?_
    refine own_go (b := s₁.setTop (mkF m 98 #[iv qa, iv qb, iv qc, iv qd, iv qs, iv 2, iv ya, iv yb, iv yc, iv yd, .unset, .unset, .unset] [(.int 7), (.int 2)])) (fun t k => XS.bipush X0.here hx rfl (hb hby at_96) k) ?_
    refine own_go (b := s₁.setTop (mkF m 135 #[iv qa, iv qb, iv qc, iv qd, iv qs, iv 2, iv ya, iv yb, iv yc, iv yd, .unset, .unset, .unset] [])) (fun t k => XS.icmpYes X0.here hx rfl (pc0 := 98) (pc' := 135) rfl (hb hby at_98) rfl (feq (by decide : ¬ ((2 : Int32) = (7 : Int32)))).2 (by decide) (by decide) k) ?_
    refine own_go (b := s₁.setTop (mkF m 137 #[iv qa, iv qb, iv qc, iv qd, iv qs, iv 2, iv ya, iv yb, iv yc, iv yd, .unset, .unset, .unset] [(.int 2)])) (fun t k => XS.iload X0.here hx rfl (hb hby at_135) rfl  k) ?_
    refine own_go (b := s₁.setTop (mkF m 148 #[iv qa, iv qb, iv qc, iv qd, iv qs, iv 2, iv ya, iv yb, iv yc, iv yd, .unset, .unset, .unset] [])) (fun t k => XS.ifYes X0.here hx rfl (pc0 := 137) (pc' := 148) rfl (hb hby at_137) rfl ((if0 _ _).trans (feq (by decide : ¬ ((2 : Int32) = (0 : Int32)))).2) (by decide) (by decide) k) ?_
    refine own_go (b := s₁.setTop (mkF m 150 #[iv qa, iv qb, iv qc, iv qd, iv qs, iv 2, iv ya, iv yb, iv yc, iv yd, .unset, .unset, .unset] [(.int 2)])) (fun t k => XS.iload X0.here hx rfl (hb hby at_148) rfl  k) ?_
    refine own_go (b := s₁.setTop (mkF m 151 #[iv qa, iv qb, iv qc, iv qd, iv qs, iv 2, iv ya, iv yb, iv yc, iv yd, .unset, .unset, .unset] [(.int 1), (.int 2)])) (fun t k => XS.iconst X0.here hx rfl (hb hby at_150) k) ?_
    refine own_go (b := s₁.setTop (mkF m 167 #[iv qa, iv qb, iv qc, iv qd, iv qs, iv 2, iv ya, iv yb, iv yc, iv yd, .unset, .unset, .unset] [])) (fun t k => XS.icmpYes X0.here hx rfl (pc0 := 151) (pc' := 167) rfl (hb hby at_151) rfl (feq (by decide : ¬ ((2 : Int32) = (1 : Int32)))).2 (by decide) (by decide) k) ?_
    refine own_go (b := s₁.setTop (mkF m 169 #[iv qa, iv qb, iv qc, iv qd, iv qs, iv 2, iv ya, iv yb, iv yc, iv yd, .unset, .unset, .unset] [(.int 2)])) (fun t k => XS.iload X0.here hx rfl (hb hby at_167) rfl  k) ?_
    refine own_go (b := s₁.setTop (mkF m 170 #[iv qa, iv qb, iv qc, iv qd, iv qs, iv 2, iv ya, iv yb, iv yc, iv yd, .unset, .unset, .unset] [(.int 2), (.int 2)])) (fun t k => XS.iconst X0.here hx rfl (hb hby at_169) k) ?_
    refine own_go (b := s₁.setTop (mkF m 173 #[iv qa, iv qb, iv qc, iv qd, iv qs, iv 2, iv ya, iv yb, iv yc, iv yd, .unset, .unset, .unset] [])) (fun t k => XS.icmpNo X0.here hx rfl (hb hby at_170) rfl (teq (rfl : (2 : Int32) = (2 : Int32))).2 k) ?_
    refine own_go (b := s₁.setTop (mkF m 174 #[iv qa, iv qb, iv qc, iv qd, iv qs, iv 2, iv ya, iv yb, iv yc, iv yd, .unset, .unset, .unset] [(.int 2)])) (fun t k => XS.iconst X0.here hx rfl (hb hby at_173) k) ?_
    obtain ⟨T26, h26, k26, X26, e26, E26, A26, st26⟩ := newP X0 hx hZ (hw _ (List.mem_of_getElem? (i := 2) rfl)) e0 (g := (mkF m 174 #[iv qa, iv qb, iv qc, iv qd, iv qs, iv 2, iv ya, iv yb, iv yc, iv yd, .unset, .unset, .unset] [(.int 2)])) rfl (hb hby at_174) rfl (by decide) (cap := 2) (by decide) (by decide) (by decide) (by decide)
    obtain ⟨b26, g26⟩ : ∃ z, z = h0.size := ⟨_, rfl⟩
    rw [← g26] at A26 st26
    have g_b26 : n0 ≤ b26 := Nat.le_trans Z0 (Nat.le_of_eq g26.symm)
    have Zs26 : n0 ≤ h26.size := Nat.le_trans Z0 E26.1
    have Ol26 := Od.ext E26
    have V_b26 : Arv Z h26 b26 k26 .char (2 : Int32) [(.int (0 : Int32)), (.int (0 : Int32))] (.int (0 : Int32)) := (Arv.new A26 (by decide)).pad (pad_rep [] (.int (0 : Int32)) 2)
    refine own_go (b := T26.setTop (mkF m 176 #[iv qa, iv qb, iv qc, iv qd, iv qs, iv 2, iv ya, iv yb, iv yc, iv yd, .unset, .unset, .unset] [(.ref b26)])) st26 ?_
    refine own_go (b := T26.setTop (mkF m 177 #[iv qa, iv qb, iv qc, iv qd, iv qs, iv 2, iv ya, iv yb, iv yc, iv yd, .unset, .unset, .unset] [(.ref b26), (.ref b26)])) (fun t k => XS.dup X26.here hx rfl (hb hby at_176) rfl rfl k) ?_
    refine own_go (b := T26.setTop (mkF m 178 #[iv qa, iv qb, iv qc, iv qd, iv qs, iv 2, iv ya, iv yb, iv yc, iv yd, .unset, .unset, .unset] [(.int 0), (.ref b26), (.ref b26)])) (fun t k => XS.iconst X26.here hx rfl (hb hby at_177) k) ?_
    refine own_go (b := T26.setTop (mkF m 180 #[iv qa, iv qb, iv qc, iv qd, iv qs, iv 2, iv ya, iv yb, iv yc, iv yd, .unset, .unset, .unset] [(.int ya), (.int 0), (.ref b26), (.ref b26)])) (fun t k => XS.iload X26.here hx rfl (hb hby at_178) rfl  k) ?_
    obtain ⟨cl27, Ar27, qc27, Sz27, Ng27, Hs27, Ft27⟩ := id V_b26
    have hin27 : ¬ ((0 : Int32) < 0 ∨ cl27.slots.size ≤ ((0 : Int32)).toNatClampNeg) := inb_of Sz27 ⟨by decide, by decide⟩
    obtain ⟨T28, h28, X28, e28, W28, st28⟩ := stC X26 hx hZ e26 Ar27 (j := (0 : Int32)) hin27 (g := (mkF m 180 #[iv qa, iv qb, iv qc, iv qd, iv qs, iv 2, iv ya, iv yb, iv yc, iv yd, .unset, .unset, .unset] [(.int ya), (.int 0), (.ref b26), (.ref b26)])) rfl rfl (hb hby at_180)
    have V_b26_28 : Arv Z h28 b26 k26 .char (2 : Int32) [(.int (nar .char ya)), (.int 0)] (.int (0 : Int32)) := Arv.set Ar27 qc27 Sz27 Ng27 Hs27 Ft27 (fits_nar_char _) W28 0 rfl (Nat.le_of_ble_eq_true rfl)
    have Zs28 : n0 ≤ h28.size := Nat.le_trans Zs26 (Keep.of_wr W28).1
    have N28 := Fr.snoc X28 N0 g_b26
    have Ol28 := Ol26.wr W28 g_b26
    refine own_go (b := T28.setTop (mkF m 181 #[iv qa, iv qb, iv qc, iv qd, iv qs, iv 2, iv ya, iv yb, iv yc, iv yd, .unset, .unset, .unset] [(.ref b26)])) st28 ?_
    refine own_go (b := T28.setTop (mkF m 182 #[iv qa, iv qb, iv qc, iv qd, iv qs, iv 2, iv ya, iv yb, iv yc, iv yd, .unset, .unset, .unset] [(.ref b26), (.ref b26)])) (fun t k => XS.dup X28.here hx rfl (hb hby at_181) rfl rfl k) ?_
    refine own_go (b := T28.setTop (mkF m 183 #[iv qa, iv qb, iv qc, iv qd, iv qs, iv 2, iv ya, iv yb, iv yc, iv yd, .unset, .unset, .unset] [(.int 1), (.ref b26), (.ref b26)])) (fun t k => XS.iconst X28.here hx rfl (hb hby at_182) k) ?_
    refine own_go (b := T28.setTop (mkF m 185 #[iv qa, iv qb, iv qc, iv qd, iv qs, iv 2, iv ya, iv yb, iv yc, iv yd, .unset, .unset, .unset] [(.int yb), (.int 1), (.ref b26), (.ref b26)])) (fun t k => XS.iload X28.here hx rfl (hb hby at_183) rfl  k) ?_
    obtain ⟨cl29, Ar29, qc29, Sz29, Ng29, Hs29, Ft29⟩ := id V_b26_28
    have hin29 : ¬ ((1 : Int32) < 0 ∨ cl29.slots.size ≤ ((1 : Int32)).toNatClampNeg) := inb_of Sz29 ⟨by decide, by decide⟩
    obtain ⟨T30, h30, X30, e30, W30, st30⟩ := stC X28 hx hZ e28 Ar29 (j := (1 : Int32)) hin29 (g := (mkF m 185 #[iv qa, iv qb, iv qc, iv qd, iv qs, iv 2, iv ya, iv yb, iv yc, iv yd, .unset, .unset, .unset] [(.int yb), (.int 1), (.ref b26), (.ref b26)])) rfl rfl (hb hby at_185)
    have V_b26_30 : Arv Z h30 b26 k26 .char (2 : Int32) [(.int (nar .char ya)), (.int (nar .char yb))] (.int (0 : Int32)) := Arv.set Ar29 qc29 Sz29 Ng29 Hs29 Ft29 (fits_nar_char _) W30 1 rfl (Nat.le_of_ble_eq_true rfl)
    have Zs30 : n0 ≤ h30.size := Nat.le_trans Zs28 (Keep.of_wr W30).1
    have N30 := Fr.snoc X30 N28 g_b26
    have Ol30 := Ol28.wr W30 g_b26
    refine own_go (b := T30.setTop (mkF m 186 #[iv qa, iv qb, iv qc, iv qd, iv qs, iv 2, iv ya, iv yb, iv yc, iv yd, .unset, .unset, .unset] [(.ref b26)])) st30 ?_
    refine own_go (b := T30.setTop (mkF m 188 #[iv qa, iv qb, iv qc, iv qd, iv qs, iv 2, iv ya, iv yb, iv yc, iv yd, .unset, .unset, rv b26] [])) (fun t k => XS.astore X30.here hx rfl (hb hby at_186) rfl rfl (l' := #[iv qa, iv qb, iv qc, iv qd, iv qs, iv 2, iv ya, iv yb, iv yc, iv yd, .unset, .unset, rv b26]) rfl k) ?_
    refine own_go (b := T30.setTop (mkF m 245 #[iv qa, iv qb, iv qc, iv qd, iv qs, iv 2, iv ya, iv yb, iv yc, iv yd, .unset, .unset, rv b26] [])) (fun t k => XS.goto X30.here hx rfl (pc0 := 188) (pc' := 245) rfl (hb hby at_188) (by decide) (by decide) k) ?_
    have Vy31 : Arv Z h30 b26 k26 .char (([ya, yb] : List Int32).length.toInt32) (([ya, yb] : List Int32).map Value.int) (.int (0 : Int32)) := by
      have q := V_b26_30
      rw [cya, cyb] at q
      exact q
    have hrg : ∀ c ∈ ([ya, yb] : List Int32), ¬ c < 0 ∧ ¬ (65535 : Int32) < c := by
      intro z hz
      simp only [List.mem_cons, List.not_mem_nil, or_false] at hz
      rcases hz with rfl | rfl
      · exact rya
      · exact ryb
    obtain ⟨T32, h32, X32, e32, E32, A32, D32, -, st32⟩ := newO X30 hx hZ hown (hw _ (List.mem_of_getElem? (i := 3) rfl)) (hw _ (List.mem_of_getElem? (i := 4) rfl)) (hw _ (List.mem_of_getElem? (i := 5) rfl)) e30 (g := (mkF m 245 #[iv qa, iv qb, iv qc, iv qd, iv qs, iv 2, iv ya, iv yb, iv yc, iv yd, .unset, .unset, rv b26] [])) rfl (hb hby at_245) (by decide) (by decide)
    obtain ⟨b32, g32⟩ : ∃ z, z = h30.size := ⟨_, rfl⟩
    rw [← g32] at A32 D32 st32
    have g_b32 : n0 ≤ b32 := Nat.le_trans Zs30 (Nat.le_of_eq g32.symm)
    have Zs32 : n0 ≤ h32.size := Nat.le_trans Zs30 E32.1
    have Ol32 := Ol30.ext E32
    have F_value_b32 : Fld Z h32 b32 "java/lang/String" "value" "[B" .null := D32 (Or.inr (hw _ (List.mem_of_getElem? (i := 18) rfl))) (ty := (.array .byte)) (by decide)
    have F_coder_b32 : Fld Z h32 b32 "java/lang/String" "coder" "B" (.int 0) := D32 (Or.inr (hw _ (List.mem_of_getElem? (i := 19) rfl))) (ty := .byte) (by decide)
    refine own_go (b := T32.setTop (mkF m 248 #[iv qa, iv qb, iv qc, iv qd, iv qs, iv 2, iv ya, iv yb, iv yc, iv yd, .unset, .unset, rv b26] [(.ref b32)])) st32 ?_
    refine own_go (b := T32.setTop (mkF m 249 #[iv qa, iv qb, iv qc, iv qd, iv qs, iv 2, iv ya, iv yb, iv yc, iv yd, .unset, .unset, rv b26] [(.ref b32), (.ref b32)])) (fun t k => XS.dup X32.here hx rfl (hb hby at_248) rfl rfl k) ?_
    refine own_go (b := T32.setTop (mkF m 251 #[iv qa, iv qb, iv qc, iv qd, iv qs, iv 2, iv ya, iv yb, iv yc, iv yd, .unset, .unset, rv b26] [(.ref b26), (.ref b32), (.ref b32)])) (fun t k => XS.aload X32.here hx rfl (hb hby at_249) rfl rfl k) ?_
    by_cases hc33 : ∀ c ∈ ([ya, yb] : List Int32), ¬ (255 : Int32) < c
    · obtain ⟨_, _, ⟨T34, L34, k34, n34⟩, -, X34, ⟨Lc34, hQ34, l34, y34, z34⟩, st34⟩ := X32.specialBack hx (y := (⟨"java/lang/String", "<init>", "([C)V"⟩ : MethodName)) rfl hown (mvT hZ (hw _ (List.mem_of_getElem? (i := 6) rfl))) (mvT hZ (hw _ (List.mem_of_getElem? (i := 7) rfl))) (mvT hZ (hw _ (List.mem_of_getElem? (i := 8) rfl))) (by decide) (StrChars.Road.backV (W := 1) hZ hws (kI := 4) (hw _ (List.mem_of_getElem? (i := 4) rfl)) (cs := ([ya, yb] : List Int32)) (bs := (([ya, yb] : List Int32)).map (fun c => c.toInt8.toInt32)) (n := 2) g_b32 Zs32 A32 F_value_b32 F_coder_b32 (Vy31.ext E32) (O2.ext Ol32.2) P5 rfl rfl (by decide) (by decide) (fun c hc => ⟨(hrg c hc).1, hc33 c hc⟩) rfl (by decide) (by decide)) (g := (mkF m 251 #[iv qa, iv qb, iv qc, iv qd, iv qs, iv 2, iv ya, iv yb, iv yc, iv yd, .unset, .unset, rv b26] [(.ref b26), (.ref b32), (.ref b32)])) rfl (by rw [hml]; rfl) (Steps.refl _) (a := b32) (argsL := [(.ref b26)]) (rest := [(.ref b32)]) (lenOf pd_26 rfl) rfl (by show 2 * 0 + _ ≤ _; exact Nat.le_of_eq rfl) (hb hby at_251) (fun _ _ => ⟨rfl, e32, (by decide : 2 + 1 ≤ _), (by decide : 6 + 2 ≤ _)⟩)
      dsimp only [Pt.U, Pt.locs, Pt.cells, Pt.slots] at X34 l34 y34 z34 st34 hQ34
      subst l34 y34 z34
      obtain ⟨rfl, N34q, K34, Es34, Cs34, t34, kb34, ua34, ub34, uc34, Vs34, Ks34⟩ := hQ34
      have Zs34 : n0 ≤ T34.heap.size := Nat.le_trans Zs32 K34.1
      have N34 := Fr.app N30 N34q
      have Ol34 := Ol32.keep K34 (allS g_b32 all0)
      have Sx34 : own_Sx Z T34.heap b32 ([ya, yb] : List Int32) := ⟨t34, kb34, 0, _, _, Es34, Vs34, Cs34, Ks34, StrChars.Road.codOf rfl fun c hc => hc33 c hc, hrg, Nat.le_of_ble_eq_true rfl, fun q => absurd q (by decide)⟩
      obtain ⟨lq34, X34, N34⟩ : ∃ lq, Stand p l e room_1 (s.setVm s.vm) m #[(.int qa), (.int qb), (.int qc), (.int qd), (.int qs)] below meth c T34 lq 3 8 ∧ Fr n0 lq := ⟨_, X34, N34⟩
      refine own_tr (b := T34.setTop (mkF m 254 #[iv qa, iv qb, iv qc, iv qd, iv qs, iv 2, iv ya, iv yb, iv yc, iv yd, .unset, .unset, rv b26] [(.ref b32)])) st34 ?_
      refine own_go (b := T34.setTop (mkF m 256 #[iv qa, iv qb, iv qc, iv qd, iv qs, iv 2, iv ya, iv yb, iv yc, iv yd, rv b32, .unset, rv b26] [])) (fun t k => XS.astore X34.here hx rfl (hb hby at_254) rfl rfl (l' := #[iv qa, iv qb, iv qc, iv qd, iv qs, iv 2, iv ya, iv yb, iv yc, iv yd, rv b32, .unset, rv b26]) rfl k) ?_
      refine own_go (b := T34.setTop (mkF m 258 #[iv qa, iv qb, iv qc, iv qd, iv qs, iv 2, iv ya, iv yb, iv yc, iv yd, rv b32, .unset, rv b26] [(.int 2)])) (fun t k => XS.iload X34.here hx rfl (hb hby at_256) rfl  k) ?_
      refine own_go (b := T34.setTop (mkF m 259 #[iv qa, iv qb, iv qc, iv qd, iv qs, iv 2, iv ya, iv yb, iv yc, iv yd, rv b32, .unset, rv b26] [(.int 1), (.int 2)])) (fun t k => XS.iconst X34.here hx rfl (hb hby at_258) k) ?_
      refine own_go (b := T34.setTop (mkF m 262 #[iv qa, iv qb, iv qc, iv qd, iv qs, iv 2, iv ya, iv yb, iv yc, iv yd, rv b32, .unset, rv b26] [])) (fun t k => XS.icmpNo X34.here hx rfl (hb hby at_259) rfl (flt (by decide : ¬ ((2 : Int32) < (1 : Int32)))).1 k) ?_
      refine own_go (b := T34.setTop (mkF m 264 #[iv qa, iv qb, iv qc, iv qd, iv qs, iv 2, iv ya, iv yb, iv yc, iv yd, rv b32, .unset, rv b26] [(.int 2)])) (fun t k => XS.iload X34.here hx rfl (hb hby at_262) rfl  k) ?_
      refine own_go (b := T34.setTop (mkF m 265 #[iv qa, iv qb, iv qc, iv qd, iv qs, iv 2, iv ya, iv yb, iv yc, iv yd, rv b32, .unset, rv b26] [(.int 1), (.int 2)])) (fun t k => XS.iconst X34.here hx rfl (hb hby at_264) k) ?_
      refine own_go (b := T34.setTop (mkF m 268 #[iv qa, iv qb, iv qc, iv qd, iv qs, iv 2, iv ya, iv yb, iv yc, iv yd, rv b32, .unset, rv b26] [])) (fun t k => XS.icmpNo X34.here hx rfl (hb hby at_265) rfl (flt (by decide : ¬ ((2 : Int32) < (1 : Int32)))).1 k) ?_
      refine own_go (b := T34.setTop (mkF m 270 #[iv qa, iv qb, iv qc, iv qd, iv qs, iv 2, iv ya, iv yb, iv yc, iv yd, rv b32, .unset, rv b26] [(.int ya)])) (fun t k => XS.iload X34.here hx rfl (hb hby at_268) rfl  k) ?_
      obtain ⟨_, _, ⟨T35, L35, k35, n35⟩, -, X35, ⟨Lc35, hQ35, l35, y35, z35⟩, st35⟩ := Jvm.LawKit.callS X34 hx (y := (⟨"com/example/fault/fault/TraceIdParsePinLaw", "ok", "(C)Z"⟩ : MethodName)) hown (mvT hZ (hw _ (List.mem_of_getElem? (i := 71) rfl))) (mvT hZ (hw _ (List.mem_of_getElem? (i := 72) rfl))) (mvT hZ (hw _ (List.mem_of_getElem? (i := 73) rfl))) (mvT hZ (hw _ (List.mem_of_getElem? (i := 74) rfl))) (by decide) (backOf (W := 0) (rm14 l Z a0 hw [] ya  T34.heap n0 Zs34 ) hZ (hw _ (List.mem_of_getElem? (i := 74) rfl)) (hw _ (List.mem_of_getElem? (i := 73) rfl)) (by decide) (by decide)) (g := (mkF m 270 #[iv qa, iv qb, iv qc, iv qd, iv qs, iv 2, iv ya, iv yb, iv yc, iv yd, rv b32, .unset, rv b26] [(.int ya)])) rfl (by rw [hml]; rfl) (argsL := [(.int ya)]) (rest := []) (lenOf pd_27 rfl) rfl (by show 2 * 0 + _ ≤ _; exact Nat.le_of_eq rfl) (hb hby at_270) (fun _ _ => ⟨rfl, rfl, (by decide : 3 + 0 ≤ _), (by decide : 8 + 0 ≤ _)⟩)
      dsimp only [Pt.U, Pt.locs, Pt.cells, Pt.slots] at X35 l35 y35 z35 st35 hQ35
      subst l35 y35 z35
      obtain ⟨rfl, N35q, e35⟩ := hQ35
      have N35 := Fr.app N34 N35q
      obtain ⟨lq35, X35, N35⟩ : ∃ lq, Stand p l e room_1 (s.setVm s.vm) m #[(.int qa), (.int qb), (.int qc), (.int qd), (.int qs)] below meth c T35 lq 3 8 ∧ Fr n0 lq := ⟨_, X35, N35⟩
      refine own_go (b := T35.setTop (mkF m 273 #[iv qa, iv qb, iv qc, iv qd, iv qs, iv 2, iv ya, iv yb, iv yc, iv yd, rv b32, .unset, rv b26] [(.int (own_ok01 ya))])) st35 ?_
      by_cases hc36 : own_okP ya
      · rw [own_ok01, if_pos hc36]
        refine own_go (b := T35.setTop (mkF m 276 #[iv qa, iv qb, iv qc, iv qd, iv qs, iv 2, iv ya, iv yb, iv yc, iv yd, rv b32, .unset, rv b26] [])) (fun t k => XS.ifNo X35.here hx rfl (hb hby at_273) rfl ((if0 _ _).trans (feq (by decide : ¬ ((1 : Int32) = (0 : Int32)))).1) k) ?_
        refine own_go (b := T35.setTop (mkF m 278 #[iv qa, iv qb, iv qc, iv qd, iv qs, iv 2, iv ya, iv yb, iv yc, iv yd, rv b32, .unset, rv b26] [(.int 2)])) (fun t k => XS.iload X35.here hx rfl (hb hby at_276) rfl  k) ?_
        refine own_go (b := T35.setTop (mkF m 279 #[iv qa, iv qb, iv qc, iv qd, iv qs, iv 2, iv ya, iv yb, iv yc, iv yd, rv b32, .unset, rv b26] [(.int 2), (.int 2)])) (fun t k => XS.iconst X35.here hx rfl (hb hby at_278) k) ?_
        refine own_go (b := T35.setTop (mkF m 282 #[iv qa, iv qb, iv qc, iv qd, iv qs, iv 2, iv ya, iv yb, iv yc, iv yd, rv b32, .unset, rv b26] [])) (fun t k => XS.icmpNo X35.here hx rfl (hb hby at_279) rfl (flt (by decide : ¬ ((2 : Int32) < (2 : Int32)))).1 k) ?_
        refine own_go (b := T35.setTop (mkF m 284 #[iv qa, iv qb, iv qc, iv qd, iv qs, iv 2, iv ya, iv yb, iv yc, iv yd, rv b32, .unset, rv b26] [(.int yb)])) (fun t k => XS.iload X35.here hx rfl (hb hby at_282) rfl  k) ?_
        obtain ⟨_, _, ⟨T37, L37, k37, n37⟩, -, X37, ⟨Lc37, hQ37, l37, y37, z37⟩, st37⟩ := Jvm.LawKit.callS X35 hx (y := (⟨"com/example/fault/fault/TraceIdParsePinLaw", "ok", "(C)Z"⟩ : MethodName)) hown (mvT hZ (hw _ (List.mem_of_getElem? (i := 71) rfl))) (mvT hZ (hw _ (List.mem_of_getElem? (i := 72) rfl))) (mvT hZ (hw _ (List.mem_of_getElem? (i := 73) rfl))) (mvT hZ (hw _ (List.mem_of_getElem? (i := 74) rfl))) (by decide) (backOf (W := 0) (rm14 l Z a0 hw [] yb  T34.heap n0 Zs34 ) hZ (hw _ (List.mem_of_getElem? (i := 74) rfl)) (hw _ (List.mem_of_getElem? (i := 73) rfl)) (by decide) (by decide)) (g := (mkF m 284 #[iv qa, iv qb, iv qc, iv qd, iv qs, iv 2, iv ya, iv yb, iv yc, iv yd, rv b32, .unset, rv b26] [(.int yb)])) rfl (by rw [hml]; rfl) (argsL := [(.int yb)]) (rest := []) (lenOf pd_27 rfl) rfl (by show 2 * 0 + _ ≤ _; exact Nat.le_of_eq rfl) (hb hby at_284) (fun _ _ => ⟨rfl, e35, (by decide : 3 + 0 ≤ _), (by decide : 8 + 0 ≤ _)⟩)
        dsimp only [Pt.U, Pt.locs, Pt.cells, Pt.slots] at X37 l37 y37 z37 st37 hQ37
        subst l37 y37 z37
        obtain ⟨rfl, N37q, e37⟩ := hQ37
        have N37 := Fr.app N35 N37q
        obtain ⟨lq37, X37, N37⟩ : ∃ lq, Stand p l e room_1 (s.setVm s.vm) m #[(.int qa), (.int qb), (.int qc), (.int qd), (.int qs)] below meth c T37 lq 3 8 ∧ Fr n0 lq := ⟨_, X37, N37⟩
        refine own_go (b := T37.setTop (mkF m 287 #[iv qa, iv qb, iv qc, iv qd, iv qs, iv 2, iv ya, iv yb, iv yc, iv yd, rv b32, .unset, rv b26] [(.int (own_ok01 yb))])) st37 ?_
        by_cases hc38 : own_okP yb
        · rw [own_ok01, if_pos hc38]
          refine own_go (b := T37.setTop (mkF m 290 #[iv qa, iv qb, iv qc, iv qd, iv qs, iv 2, iv ya, iv yb, iv yc, iv yd, rv b32, .unset, rv b26] [])) (fun t k => XS.ifNo X37.here hx rfl (hb hby at_287) rfl ((if0 _ _).trans (feq (by decide : ¬ ((1 : Int32) = (0 : Int32)))).1) k) ?_
          refine own_go (b := T37.setTop (mkF m 292 #[iv qa, iv qb, iv qc, iv qd, iv qs, iv 2, iv ya, iv yb, iv yc, iv yd, rv b32, .unset, rv b26] [(.int 2)])) (fun t k => XS.iload X37.here hx rfl (hb hby at_290) rfl  k) ?_
          refine own_go (b := T37.setTop (mkF m 293 #[iv qa, iv qb, iv qc, iv qd, iv qs, iv 2, iv ya, iv yb, iv yc, iv yd, rv b32, .unset, rv b26] [(.int 3), (.int 2)])) (fun t k => XS.iconst X37.here hx rfl (hb hby at_292) k) ?_
          refine own_go (b := T37.setTop (mkF m 304 #[iv qa, iv qb, iv qc, iv qd, iv qs, iv 2, iv ya, iv yb, iv yc, iv yd, rv b32, .unset, rv b26] [])) (fun t k => XS.icmpYes X37.here hx rfl (pc0 := 293) (pc' := 304) rfl (hb hby at_293) rfl (tlt (by decide : (2 : Int32) < (3 : Int32))).1 (by decide) (by decide) k) ?_
          refine own_go (b := T37.setTop (mkF m 306 #[iv qa, iv qb, iv qc, iv qd, iv qs, iv 2, iv ya, iv yb, iv yc, iv yd, rv b32, .unset, rv b26] [(.int 2)])) (fun t k => XS.iload X37.here hx rfl (hb hby at_304) rfl  k) ?_
          refine own_go (b := T37.setTop (mkF m 307 #[iv qa, iv qb, iv qc, iv qd, iv qs, iv 2, iv ya, iv yb, iv yc, iv yd, rv b32, .unset, rv b26] [(.int 4), (.int 2)])) (fun t k => XS.iconst X37.here hx rfl (hb hby at_306) k) ?_
          refine own_go (b := T37.setTop (mkF m 318 #[iv qa, iv qb, iv qc, iv qd, iv qs, iv 2, iv ya, iv yb, iv yc, iv yd, rv b32, .unset, rv b26] [])) (fun t k => XS.icmpYes X37.here hx rfl (pc0 := 307) (pc' := 318) rfl (hb hby at_307) rfl (tlt (by decide : (2 : Int32) < (4 : Int32))).1 (by decide) (by decide) k) ?_
          refine own_go (b := T37.setTop (mkF m 319 #[iv qa, iv qb, iv qc, iv qd, iv qs, iv 2, iv ya, iv yb, iv yc, iv yd, rv b32, .unset, rv b26] [(.int 1)])) (fun t k => XS.iconst X37.here hx rfl (hb hby at_318) k) ?_
          refine own_go (b := T37.setTop (mkF m 323 #[iv qa, iv qb, iv qc, iv qd, iv qs, iv 2, iv ya, iv yb, iv yc, iv yd, rv b32, .unset, rv b26] [(.int 1)])) (fun t k => XS.goto X37.here hx rfl (pc0 := 319) (pc' := 323) rfl (hb hby at_319) (by decide) (by decide) k) ?_
          refine own_go (b := T37.setTop (mkF m 325 #[iv qa, iv qb, iv qc, iv qd, iv qs, iv 2, iv ya, iv yb, iv yc, iv yd, rv b32, iv 1, rv b26] [])) (fun t k => XS.istore X37.here hx rfl (hb hby at_323) rfl (l' := #[iv qa, iv qb, iv qc, iv qd, iv qs, iv 2, iv ya, iv yb, iv yc, iv yd, rv b32, iv 1, rv b26]) rfl k) ?_
          exact J325 T37 T34.heap _ s.vm _ (2 : Int32) ya yb yc yd (1 : Int32) b32 ([ya, yb] : List Int32) (rv b26) (own_mono X37 (by decide) (by decide)) e37 N37 Zs34 Ol34 hS0 (((((Le0.ext E26).wr W28).wr W30).ext E32).keep K34) hZ hown (own_IBm I0 rfl (by simp)) Sx34 (if_pos ⟨Nat.le_of_ble_eq_true rfl, Nat.le_of_ble_eq_true rfl, by intro z hz; simp only [List.mem_cons, List.not_mem_nil, or_false] at hz; rcases hz with rfl | rfl; exact hc36; exact hc38⟩).symm (Or.inr ⟨_, rfl, rfl⟩)
        · rw [own_ok01, if_neg hc38]
          refine own_go (b := T37.setTop (mkF m 322 #[iv qa, iv qb, iv qc, iv qd, iv qs, iv 2, iv ya, iv yb, iv yc, iv yd, rv b32, .unset, rv b26] [])) (fun t k => XS.ifYes X37.here hx rfl (pc0 := 287) (pc' := 322) rfl (hb hby at_287) rfl ((if0 _ _).trans (teq (rfl : (0 : Int32) = (0 : Int32))).1) (by decide) (by decide) k) ?_
          refine own_go (b := T37.setTop (mkF m 323 #[iv qa, iv qb, iv qc, iv qd, iv qs, iv 2, iv ya, iv yb, iv yc, iv yd, rv b32, .unset, rv b26] [(.int 0)])) (fun t k => XS.iconst X37.here hx rfl (hb hby at_322) k) ?_
          refine own_go (b := T37.setTop (mkF m 325 #[iv qa, iv qb, iv qc, iv qd, iv qs, iv 2, iv ya, iv yb, iv yc, iv yd, rv b32, iv 0, rv b26] [])) (fun t k => XS.istore X37.here hx rfl (hb hby at_323) rfl (l' := #[iv qa, iv qb, iv qc, iv qd, iv qs, iv 2, iv ya, iv yb, iv yc, iv yd, rv b32, iv 0, rv b26]) rfl k) ?_
          exact J325 T37 T34.heap _ s.vm _ (2 : Int32) ya yb yc yd (0 : Int32) b32 ([ya, yb] : List Int32) (rv b26) (own_mono X37 (by decide) (by decide)) e37 N37 Zs34 Ol34 hS0 (((((Le0.ext E26).wr W28).wr W30).ext E32).keep K34) hZ hown (own_IBm I0 rfl (by simp)) Sx34 (if_neg (fun q => hc38 (q.2.2 _ (by simp)))).symm (Or.inr ⟨_, rfl, rfl⟩)
      · rw [own_ok01, if_neg hc36]
        refine own_go (b := T35.setTop (mkF m 322 #[iv qa, iv qb, iv qc, iv qd, iv qs, iv 2, iv ya, iv yb, iv yc, iv yd, rv b32, .unset, rv b26] [])) (fun t k => XS.ifYes X35.here hx rfl (pc0 := 273) (pc' := 322) rfl (hb hby at_273) rfl ((if0 _ _).trans (teq (rfl : (0 : Int32) = (0 : Int32))).1) (by decide) (by decide) k) ?_
        refine own_go (b := T35.setTop (mkF m 323 #[iv qa, iv qb, iv qc, iv qd, iv qs, iv 2, iv ya, iv yb, iv yc, iv yd, rv b32, .unset, rv b26] [(.int 0)])) (fun t k => XS.iconst X35.here hx rfl (hb hby at_322) k) ?_
        refine own_go (b := T35.setTop (mkF m 325 #[iv qa, iv qb, iv qc, iv qd, iv qs, iv 2, iv ya, iv yb, iv yc, iv yd, rv b32, iv 0, rv b26] [])) (fun t k => XS.istore X35.here hx rfl (hb hby at_323) rfl (l' := #[iv qa, iv qb, iv qc, iv qd, iv qs, iv 2, iv ya, iv yb, iv yc, iv yd, rv b32, iv 0, rv b26]) rfl k) ?_
        exact J325 T35 T34.heap _ s.vm _ (2 : Int32) ya yb yc yd (0 : Int32) b32 ([ya, yb] : List Int32) (rv b26) (own_mono X35 (by decide) (by decide)) e35 N35 Zs34 Ol34 hS0 (((((Le0.ext E26).wr W28).wr W30).ext E32).keep K34) hZ hown (own_IBm I0 rfl (by simp)) Sx34 (if_neg (fun q => hc36 (q.2.2 _ (by simp)))).symm (Or.inr ⟨_, rfl, rfl⟩)
    · obtain ⟨jj, hj, hgt, hlt⟩ := own_first _ hc33
      obtain ⟨_, _, ⟨T39, L39, k39, n39⟩, -, X39, ⟨Lc39, hQ39, l39, y39, z39⟩, st39⟩ := X32.specialBack hx (y := (⟨"java/lang/String", "<init>", "([C)V"⟩ : MethodName)) rfl hown (mvT hZ (hw _ (List.mem_of_getElem? (i := 6) rfl))) (mvT hZ (hw _ (List.mem_of_getElem? (i := 7) rfl))) (mvT hZ (hw _ (List.mem_of_getElem? (i := 8) rfl))) (by decide) (backOf (W := 1) (rm1w l Z a0 hw [] b32 b26 k26 ([ya, yb] : List Int32) jj G1 h32 n0 Zs32 (Nat.le_of_ble_eq_true rfl) (Nat.le_of_ble_eq_true rfl) Ol32 (Vy31.ext E32) Sad Shi Slo hj hlt hgt hrg O2 P5 A32 F_value_b32 F_coder_b32 g_b32) hZ (hw _ (List.mem_of_getElem? (i := 8) rfl)) (hw _ (List.mem_of_getElem? (i := 5) rfl)) (by decide) (by decide)) (g := (mkF m 251 #[iv qa, iv qb, iv qc, iv qd, iv qs, iv 2, iv ya, iv yb, iv yc, iv yd, .unset, .unset, rv b26] [(.ref b26), (.ref b32), (.ref b32)])) rfl (by rw [hml]; rfl) (Steps.refl _) (a := b32) (argsL := [(.ref b26)]) (rest := [(.ref b32)]) (lenOf pd_26 rfl) rfl (by show 2 * 0 + _ ≤ _; exact Nat.le_of_eq rfl) (hb hby at_251) (fun _ _ => ⟨rfl, e32, (by decide : 2 + 2 ≤ _), (by decide : 6 + 12 ≤ _)⟩)
      dsimp only [Pt.U, Pt.locs, Pt.cells, Pt.slots] at X39 l39 y39 z39 st39 hQ39
      subst l39 y39 z39
      obtain ⟨rfl, N39q, K39, Sx39⟩ := hQ39
      have Zs39 : n0 ≤ T39.heap.size := Nat.le_trans Zs32 K39.1
      have N39 := Fr.app N30 N39q
      have Ol39 := Ol32.keep K39 (allS g_b32 all0)
      obtain ⟨lq39, X39, N39⟩ : ∃ lq, Stand p l e room_1 (s.setVm s.vm) m #[(.int qa), (.int qb), (.int qc), (.int qd), (.int qs)] below meth c T39 lq 4 18 ∧ Fr n0 lq := ⟨_, X39, N39⟩
      refine own_tr (b := T39.setTop (mkF m 254 #[iv qa, iv qb, iv qc, iv qd, iv qs, iv 2, iv ya, iv yb, iv yc, iv yd, .unset, .unset, rv b26] [(.ref b32)])) st39 ?_
      refine own_go (b := T39.setTop (mkF m 256 #[iv qa, iv qb, iv qc, iv qd, iv qs, iv 2, iv ya, iv yb, iv yc, iv yd, rv b32, .unset, rv b26] [])) (fun t k => XS.astore X39.here hx rfl (hb hby at_254) rfl rfl (l' := #[iv qa, iv qb, iv qc, iv qd, iv qs, iv 2, iv ya, iv yb, iv yc, iv yd, rv b32, .unset, rv b26]) rfl k) ?_
      refine own_go (b := T39.setTop (mkF m 258 #[iv qa, iv qb, iv qc, iv qd, iv qs, iv 2, iv ya, iv yb, iv yc, iv yd, rv b32, .unset, rv b26] [(.int 2)])) (fun t k => XS.iload X39.here hx rfl (hb hby at_256) rfl  k) ?_
      refine own_go (b := T39.setTop (mkF m 259 #[iv qa, iv qb, iv qc, iv qd, iv qs, iv 2, iv ya, iv yb, iv yc, iv yd, rv b32, .unset, rv b26] [(.int 1), (.int 2)])) (fun t k => XS.iconst X39.here hx rfl (hb hby at_258) k) ?_
      refine own_go (b := T39.setTop (mkF m 262 #[iv qa, iv qb, iv qc, iv qd, iv qs, iv 2, iv ya, iv yb, iv yc, iv yd, rv b32, .unset, rv b26] [])) (fun t k => XS.icmpNo X39.here hx rfl (hb hby at_259) rfl (flt (by decide : ¬ ((2 : Int32) < (1 : Int32)))).1 k) ?_
      refine own_go (b := T39.setTop (mkF m 264 #[iv qa, iv qb, iv qc, iv qd, iv qs, iv 2, iv ya, iv yb, iv yc, iv yd, rv b32, .unset, rv b26] [(.int 2)])) (fun t k => XS.iload X39.here hx rfl (hb hby at_262) rfl  k) ?_
      refine own_go (b := T39.setTop (mkF m 265 #[iv qa, iv qb, iv qc, iv qd, iv qs, iv 2, iv ya, iv yb, iv yc, iv yd, rv b32, .unset, rv b26] [(.int 1), (.int 2)])) (fun t k => XS.iconst X39.here hx rfl (hb hby at_264) k) ?_
      refine own_go (b := T39.setTop (mkF m 268 #[iv qa, iv qb, iv qc, iv qd, iv qs, iv 2, iv ya, iv yb, iv yc, iv yd, rv b32, .unset, rv b26] [])) (fun t k => XS.icmpNo X39.here hx rfl (hb hby at_265) rfl (flt (by decide : ¬ ((2 : Int32) < (1 : Int32)))).1 k) ?_
      refine own_go (b := T39.setTop (mkF m 270 #[iv qa, iv qb, iv qc, iv qd, iv qs, iv 2, iv ya, iv yb, iv yc, iv yd, rv b32, .unset, rv b26] [(.int ya)])) (fun t k => XS.iload X39.here hx rfl (hb hby at_268) rfl  k) ?_
      obtain ⟨_, _, ⟨T40, L40, k40, n40⟩, -, X40, ⟨Lc40, hQ40, l40, y40, z40⟩, st40⟩ := Jvm.LawKit.callS X39 hx (y := (⟨"com/example/fault/fault/TraceIdParsePinLaw", "ok", "(C)Z"⟩ : MethodName)) hown (mvT hZ (hw _ (List.mem_of_getElem? (i := 71) rfl))) (mvT hZ (hw _ (List.mem_of_getElem? (i := 72) rfl))) (mvT hZ (hw _ (List.mem_of_getElem? (i := 73) rfl))) (mvT hZ (hw _ (List.mem_of_getElem? (i := 74) rfl))) (by decide) (backOf (W := 0) (rm14 l Z a0 hw [] ya  T39.heap n0 Zs39 ) hZ (hw _ (List.mem_of_getElem? (i := 74) rfl)) (hw _ (List.mem_of_getElem? (i := 73) rfl)) (by decide) (by decide)) (g := (mkF m 270 #[iv qa, iv qb, iv qc, iv qd, iv qs, iv 2, iv ya, iv yb, iv yc, iv yd, rv b32, .unset, rv b26] [(.int ya)])) rfl (by rw [hml]; rfl) (argsL := [(.int ya)]) (rest := []) (lenOf pd_27 rfl) rfl (by show 2 * 0 + _ ≤ _; exact Nat.le_of_eq rfl) (hb hby at_270) (fun _ _ => ⟨rfl, rfl, (by decide : 4 + 0 ≤ _), (by decide : 18 + 0 ≤ _)⟩)
      dsimp only [Pt.U, Pt.locs, Pt.cells, Pt.slots] at X40 l40 y40 z40 st40 hQ40
      subst l40 y40 z40
      obtain ⟨rfl, N40q, e40⟩ := hQ40
      have N40 := Fr.app N39 N40q
      obtain ⟨lq40, X40, N40⟩ : ∃ lq, Stand p l e room_1 (s.setVm s.vm) m #[(.int qa), (.int qb), (.int qc), (.int qd), (.int qs)] below meth c T40 lq 4 18 ∧ Fr n0 lq := ⟨_, X40, N40⟩
      refine own_go (b := T40.setTop (mkF m 273 #[iv qa, iv qb, iv qc, iv qd, iv qs, iv 2, iv ya, iv yb, iv yc, iv yd, rv b32, .unset, rv b26] [(.int (own_ok01 ya))])) st40 ?_
      by_cases hc41 : own_okP ya
      · rw [own_ok01, if_pos hc41]
        refine own_go (b := T40.setTop (mkF m 276 #[iv qa, iv qb, iv qc, iv qd, iv qs, iv 2, iv ya, iv yb, iv yc, iv yd, rv b32, .unset, rv b26] [])) (fun t k => XS.ifNo X40.here hx rfl (hb hby at_273) rfl ((if0 _ _).trans (feq (by decide : ¬ ((1 : Int32) = (0 : Int32)))).1) k) ?_
        refine own_go (b := T40.setTop (mkF m 278 #[iv qa, iv qb, iv qc, iv qd, iv qs, iv 2, iv ya, iv yb, iv yc, iv yd, rv b32, .unset, rv b26] [(.int 2)])) (fun t k => XS.iload X40.here hx rfl (hb hby at_276) rfl  k) ?_
        refine own_go (b := T40.setTop (mkF m 279 #[iv qa, iv qb, iv qc, iv qd, iv qs, iv 2, iv ya, iv yb, iv yc, iv yd, rv b32, .unset, rv b26] [(.int 2), (.int 2)])) (fun t k => XS.iconst X40.here hx rfl (hb hby at_278) k) ?_
        refine own_go (b := T40.setTop (mkF m 282 #[iv qa, iv qb, iv qc, iv qd, iv qs, iv 2, iv ya, iv yb, iv yc, iv yd, rv b32, .unset, rv b26] [])) (fun t k => XS.icmpNo X40.here hx rfl (hb hby at_279) rfl (flt (by decide : ¬ ((2 : Int32) < (2 : Int32)))).1 k) ?_
        refine own_go (b := T40.setTop (mkF m 284 #[iv qa, iv qb, iv qc, iv qd, iv qs, iv 2, iv ya, iv yb, iv yc, iv yd, rv b32, .unset, rv b26] [(.int yb)])) (fun t k => XS.iload X40.here hx rfl (hb hby at_282) rfl  k) ?_
        obtain ⟨_, _, ⟨T42, L42, k42, n42⟩, -, X42, ⟨Lc42, hQ42, l42, y42, z42⟩, st42⟩ := Jvm.LawKit.callS X40 hx (y := (⟨"com/example/fault/fault/TraceIdParsePinLaw", "ok", "(C)Z"⟩ : MethodName)) hown (mvT hZ (hw _ (List.mem_of_getElem? (i := 71) rfl))) (mvT hZ (hw _ (List.mem_of_getElem? (i := 72) rfl))) (mvT hZ (hw _ (List.mem_of_getElem? (i := 73) rfl))) (mvT hZ (hw _ (List.mem_of_getElem? (i := 74) rfl))) (by decide) (backOf (W := 0) (rm14 l Z a0 hw [] yb  T39.heap n0 Zs39 ) hZ (hw _ (List.mem_of_getElem? (i := 74) rfl)) (hw _ (List.mem_of_getElem? (i := 73) rfl)) (by decide) (by decide)) (g := (mkF m 284 #[iv qa, iv qb, iv qc, iv qd, iv qs, iv 2, iv ya, iv yb, iv yc, iv yd, rv b32, .unset, rv b26] [(.int yb)])) rfl (by rw [hml]; rfl) (argsL := [(.int yb)]) (rest := []) (lenOf pd_27 rfl) rfl (by show 2 * 0 + _ ≤ _; exact Nat.le_of_eq rfl) (hb hby at_284) (fun _ _ => ⟨rfl, e40, (by decide : 4 + 0 ≤ _), (by decide : 18 + 0 ≤ _)⟩)
        dsimp only [Pt.U, Pt.locs, Pt.cells, Pt.slots] at X42 l42 y42 z42 st42 hQ42
        subst l42 y42 z42
        obtain ⟨rfl, N42q, e42⟩ := hQ42
        have N42 := Fr.app N40 N42q
        obtain ⟨lq42, X42, N42⟩ : ∃ lq, Stand p l e room_1 (s.setVm s.vm) m #[(.int qa), (.int qb), (.int qc), (.int qd), (.int qs)] below meth c T42 lq 4 18 ∧ Fr n0 lq := ⟨_, X42, N42⟩
        refine own_go (b := T42.setTop (mkF m 287 #[iv qa, iv qb, iv qc, iv qd, iv qs, iv 2, iv ya, iv yb, iv yc, iv yd, rv b32, .unset, rv b26] [(.int (own_ok01 yb))])) st42 ?_
        by_cases hc43 : own_okP yb
        · rw [own_ok01, if_pos hc43]
          refine own_go (b := T42.setTop (mkF m 290 #[iv qa, iv qb, iv qc, iv qd, iv qs, iv 2, iv ya, iv yb, iv yc, iv yd, rv b32, .unset, rv b26] [])) (fun t k => XS.ifNo X42.here hx rfl (hb hby at_287) rfl ((if0 _ _).trans (feq (by decide : ¬ ((1 : Int32) = (0 : Int32)))).1) k) ?_
          refine own_go (b := T42.setTop (mkF m 292 #[iv qa, iv qb, iv qc, iv qd, iv qs, iv 2, iv ya, iv yb, iv yc, iv yd, rv b32, .unset, rv b26] [(.int 2)])) (fun t k => XS.iload X42.here hx rfl (hb hby at_290) rfl  k) ?_
          refine own_go (b := T42.setTop (mkF m 293 #[iv qa, iv qb, iv qc, iv qd, iv qs, iv 2, iv ya, iv yb, iv yc, iv yd, rv b32, .unset, rv b26] [(.int 3), (.int 2)])) (fun t k => XS.iconst X42.here hx rfl (hb hby at_292) k) ?_
          refine own_go (b := T42.setTop (mkF m 304 #[iv qa, iv qb, iv qc, iv qd, iv qs, iv 2, iv ya, iv yb, iv yc, iv yd, rv b32, .unset, rv b26] [])) (fun t k => XS.icmpYes X42.here hx rfl (pc0 := 293) (pc' := 304) rfl (hb hby at_293) rfl (tlt (by decide : (2 : Int32) < (3 : Int32))).1 (by decide) (by decide) k) ?_
          refine own_go (b := T42.setTop (mkF m 306 #[iv qa, iv qb, iv qc, iv qd, iv qs, iv 2, iv ya, iv yb, iv yc, iv yd, rv b32, .unset, rv b26] [(.int 2)])) (fun t k => XS.iload X42.here hx rfl (hb hby at_304) rfl  k) ?_
          refine own_go (b := T42.setTop (mkF m 307 #[iv qa, iv qb, iv qc, iv qd, iv qs, iv 2, iv ya, iv yb, iv yc, iv yd, rv b32, .unset, rv b26] [(.int 4), (.int 2)])) (fun t k => XS.iconst X42.here hx rfl (hb hby at_306) k) ?_
          refine own_go (b := T42.setTop (mkF m 318 #[iv qa, iv qb, iv qc, iv qd, iv qs, iv 2, iv ya, iv yb, iv yc, iv yd, rv b32, .unset, rv b26] [])) (fun t k => XS.icmpYes X42.here hx rfl (pc0 := 307) (pc' := 318) rfl (hb hby at_307) rfl (tlt (by decide : (2 : Int32) < (4 : Int32))).1 (by decide) (by decide) k) ?_
          refine own_go (b := T42.setTop (mkF m 319 #[iv qa, iv qb, iv qc, iv qd, iv qs, iv 2, iv ya, iv yb, iv yc, iv yd, rv b32, .unset, rv b26] [(.int 1)])) (fun t k => XS.iconst X42.here hx rfl (hb hby at_318) k) ?_
          refine own_go (b := T42.setTop (mkF m 323 #[iv qa, iv qb, iv qc, iv qd, iv qs, iv 2, iv ya, iv yb, iv yc, iv yd, rv b32, .unset, rv b26] [(.int 1)])) (fun t k => XS.goto X42.here hx rfl (pc0 := 319) (pc' := 323) rfl (hb hby at_319) (by decide) (by decide) k) ?_
          refine own_go (b := T42.setTop (mkF m 325 #[iv qa, iv qb, iv qc, iv qd, iv qs, iv 2, iv ya, iv yb, iv yc, iv yd, rv b32, iv 1, rv b26] [])) (fun t k => XS.istore X42.here hx rfl (hb hby at_323) rfl (l' := #[iv qa, iv qb, iv qc, iv qd, iv qs, iv 2, iv ya, iv yb, iv yc, iv yd, rv b32, iv 1, rv b26]) rfl k) ?_
          exact J325 T42 T39.heap _ s.vm _ (2 : Int32) ya yb yc yd (1 : Int32) b32 ([ya, yb] : List Int32) (rv b26) (own_mono X42 (by decide) (by decide)) e42 N42 Zs39 Ol39 hS0 (((((Le0.ext E26).wr W28).wr W30).ext E32).keep K39) hZ hown (own_IBm I0 rfl (by simp)) Sx39 (if_pos ⟨Nat.le_of_ble_eq_true rfl, Nat.le_of_ble_eq_true rfl, by intro z hz; simp only [List.mem_cons, List.not_mem_nil, or_false] at hz; rcases hz with rfl | rfl; exact hc41; exact hc43⟩).symm (Or.inr ⟨_, rfl, rfl⟩)
        · rw [own_ok01, if_neg hc43]
          refine own_go (b := T42.setTop (mkF m 322 #[iv qa, iv qb, iv qc, iv qd, iv qs, iv 2, iv ya, iv yb, iv yc, iv yd, rv b32, .unset, rv b26] [])) (fun t k => XS.ifYes X42.here hx rfl (pc0 := 287) (pc' := 322) rfl (hb hby at_287) rfl ((if0 _ _).trans (teq (rfl : (0 : Int32) = (0 : Int32))).1) (by decide) (by decide) k) ?_
          refine own_go (b := T42.setTop (mkF m 323 #[iv qa, iv qb, iv qc, iv qd, iv qs, iv 2, iv ya, iv yb, iv yc, iv yd, rv b32, .unset, rv b26] [(.int 0)])) (fun t k => XS.iconst X42.here hx rfl (hb hby at_322) k) ?_
          refine own_go (b := T42.setTop (mkF m 325 #[iv qa, iv qb, iv qc, iv qd, iv qs, iv 2, iv ya, iv yb, iv yc, iv yd, rv b32, iv 0, rv b26] [])) (fun t k => XS.istore X42.here hx rfl (hb hby at_323) rfl (l' := #[iv qa, iv qb, iv qc, iv qd, iv qs, iv 2, iv ya, iv yb, iv yc, iv yd, rv b32, iv 0, rv b26]) rfl k) ?_
          exact J325 T42 T39.heap _ s.vm _ (2 : Int32) ya yb yc yd (0 : Int32) b32 ([ya, yb] : List Int32) (rv b26) (own_mono X42 (by decide) (by decide)) e42 N42 Zs39 Ol39 hS0 (((((Le0.ext E26).wr W28).wr W30).ext E32).keep K39) hZ hown (own_IBm I0 rfl (by simp)) Sx39 (if_neg (fun q => hc43 (q.2.2 _ (by simp)))).symm (Or.inr ⟨_, rfl, rfl⟩)
      · rw [own_ok01, if_neg hc41]
        refine own_go (b := T40.setTop (mkF m 322 #[iv qa, iv qb, iv qc, iv qd, iv qs, iv 2, iv ya, iv yb, iv yc, iv yd, rv b32, .unset, rv b26] [])) (fun t k => XS.ifYes X40.here hx rfl (pc0 := 273) (pc' := 322) rfl (hb hby at_273) rfl ((if0 _ _).trans (teq (rfl : (0 : Int32) = (0 : Int32))).1) (by decide) (by decide) k) ?_
        refine own_go (b := T40.setTop (mkF m 323 #[iv qa, iv qb, iv qc, iv qd, iv qs, iv 2, iv ya, iv yb, iv yc, iv yd, rv b32, .unset, rv b26] [(.int 0)])) (fun t k => XS.iconst X40.here hx rfl (hb hby at_322) k) ?_
        refine own_go (b := T40.setTop (mkF m 325 #[iv qa, iv qb, iv qc, iv qd, iv qs, iv 2, iv ya, iv yb, iv yc, iv yd, rv b32, iv 0, rv b26] [])) (fun t k => XS.istore X40.here hx rfl (hb hby at_323) rfl (l' := #[iv qa, iv qb, iv qc, iv qd, iv qs, iv 2, iv ya, iv yb, iv yc, iv yd, rv b32, iv 0, rv b26]) rfl k) ?_
        exact J325 T40 T39.heap _ s.vm _ (2 : Int32) ya yb yc yd (0 : Int32) b32 ([ya, yb] : List Int32) (rv b26) (own_mono X40 (by decide) (by decide)) e40 N40 Zs39 Ol39 hS0 (((((Le0.ext E26).wr W28).wr W30).ext E32).keep K39) hZ hown (own_IBm I0 rfl (by simp)) Sx39 (if_neg (fun q => hc41 (q.2.2 _ (by simp)))).symm (Or.inr ⟨_, rfl, rfl⟩)
  | 3, _, hX10 =>
    replace hX10 : ((qs &&& (2147483647 : Int32)) % (8 : Int32)) = (3 : Int32) := hX10
    rw [hX10]
    refine own_go (b := s₁.setTop (mkF m 40 #[iv qa, iv qb, iv qc, iv qd, iv qs, iv 3, iv ya, iv yb, iv yc, iv yd, .unset, .unset, .unset] [(.int 3)])) (fun t k => XS.iload X0.here hx rfl (hb hby at_38) rfl  k) ?_
    refine own_go (b := s₁.setTop (mkF m 41 #[iv qa, iv qb, iv qc, iv qd, iv qs, iv 3, iv ya, iv yb, iv yc, iv yd, .unset, .unset, .unset] [(.int 5), (.int 3)])) (fun t k => XS.iconst X0.here hx rfl (hb hby at_40) k) ?_
    refine own_go (b := s₁.setTop (mkF m 53 #[iv qa, iv qb, iv qc, iv qd, iv qs, iv 3, iv ya, iv yb, iv yc, iv yd, .unset, .unset, .unset] [])) (fun t k => XS.icmpYes X0.here hx rfl (pc0 := 41) (pc' := 53) rfl (hb hby at_41) rfl (feq (by decide : ¬ ((3 : Int32) = (5 : Int32)))).2 (by decide) (by decide) k) ?_
    refine own_go (b := s₁.setTop (mkF m 55 #[iv qa, iv qb, iv qc, iv qd, iv qs, iv 3, iv ya, iv yb, iv yc, iv yd, .unset, .unset, .unset] [(.int 3)])) (fun t k => XS.iload X0.here hx rfl (hb hby at_53) rfl  k) ?_
    refine own_go (b := s₁.setTop (mkF m 57 #[iv qa, iv qb, iv qc, iv qd, iv qs, iv 3, iv ya, iv yb, iv yc, iv yd, .unset, .unset, .unset] [(.int 6), (.int 3)])) (fun t k => XS.bipush X0.here hx rfl (hb hby at_55) k) ?_
    refine own_go (b := s₁.setTop (mkF m 94 #[iv qa, iv qb, iv qc, iv qd, iv qs, iv 3, iv ya, iv yb, iv yc, iv yd, .unset, .unset, .unset] [])) (fun t k => XS.icmpYes X0.here hx rfl (pc0 := 57) (pc' := 94) rfl (hb hby at_57) rfl (feq (by decide : ¬ ((3 : Int32) = (6 : Int32)))).2 (by decide) (by decide) k) ?_
    refine own_go (b := s₁.setTop (mkF m 96 #[iv qa, iv qb, iv qc, iv qd, iv qs, iv 3, iv ya, iv yb, iv yc, iv yd, .unset, .unset, .unset] [(.int 3)])) (fun t k => XS.iload X0.here hx rfl (hb hby at_94) rfl  k) ?_
    refine own_go (b := s₁.setTop (mkF m 98 #[iv qa, iv qb, iv qc, iv qd, iv qs, iv 3, iv ya, iv yb, iv yc, iv yd, .unset, .unset, .unset] [(.int 7), (.int 3)])) (fun t k => XS.bipush X0.here hx rfl (hb hby at_96) k) ?_
    refine own_go (b := s₁.setTop (mkF m 135 #[iv qa, iv qb, iv qc, iv qd, iv qs, iv 3, iv ya, iv yb, iv yc, iv yd, .unset, .unset, .unset] [])) (fun t k => XS.icmpYes X0.here hx rfl (pc0 := 98) (pc' := 135) rfl (hb hby at_98) rfl (feq (by decide : ¬ ((3 : Int32) = (7 : Int32)))).2 (by decide) (by decide) k) ?_
    refine own_go (b := s₁.setTop (mkF m 137 #[iv qa, iv qb, iv qc, iv qd, iv qs, iv 3, iv ya, iv yb, iv yc, iv yd, .unset, .unset, .unset] [(.int 3)])) (fun t k => XS.iload X0.here hx rfl (hb hby at_135) rfl  k) ?_
    refine own_go (b := s₁.setTop (mkF m 148 #[iv qa, iv qb, iv qc, iv qd, iv qs, iv 3, iv ya, iv yb, iv yc, iv yd, .unset, .unset, .unset] [])) (fun t k => XS.ifYes X0.here hx rfl (pc0 := 137) (pc' := 148) rfl (hb hby at_137) rfl ((if0 _ _).trans (feq (by decide : ¬ ((3 : Int32) = (0 : Int32)))).2) (by decide) (by decide) k) ?_
    refine own_go (b := s₁.setTop (mkF m 150 #[iv qa, iv qb, iv qc, iv qd, iv qs, iv 3, iv ya, iv yb, iv yc, iv yd, .unset, .unset, .unset] [(.int 3)])) (fun t k => XS.iload X0.here hx rfl (hb hby at_148) rfl  k) ?_
    refine own_go (b := s₁.setTop (mkF m 151 #[iv qa, iv qb, iv qc, iv qd, iv qs, iv 3, iv ya, iv yb, iv yc, iv yd, .unset, .unset, .unset] [(.int 1), (.int 3)])) (fun t k => XS.iconst X0.here hx rfl (hb hby at_150) k) ?_
    refine own_go (b := s₁.setTop (mkF m 167 #[iv qa, iv qb, iv qc, iv qd, iv qs, iv 3, iv ya, iv yb, iv yc, iv yd, .unset, .unset, .unset] [])) (fun t k => XS.icmpYes X0.here hx rfl (pc0 := 151) (pc' := 167) rfl (hb hby at_151) rfl (feq (by decide : ¬ ((3 : Int32) = (1 : Int32)))).2 (by decide) (by decide) k) ?_
    refine own_go (b := s₁.setTop (mkF m 169 #[iv qa, iv qb, iv qc, iv qd, iv qs, iv 3, iv ya, iv yb, iv yc, iv yd, .unset, .unset, .unset] [(.int 3)])) (fun t k => XS.iload X0.here hx rfl (hb hby at_167) rfl  k) ?_
    refine own_go (b := s₁.setTop (mkF m 170 #[iv qa, iv qb, iv qc, iv qd, iv qs, iv 3, iv ya, iv yb, iv yc, iv yd, .unset, .unset, .unset] [(.int 2), (.int 3)])) (fun t k => XS.iconst X0.here hx rfl (hb hby at_169) k) ?_
    refine own_go (b := s₁.setTop (mkF m 191 #[iv qa, iv qb, iv qc, iv qd, iv qs, iv 3, iv ya, iv yb, iv yc, iv yd, .unset, .unset, .unset] [])) (fun t k => XS.icmpYes X0.here hx rfl (pc0 := 170) (pc' := 191) rfl (hb hby at_170) rfl (feq (by decide : ¬ ((3 : Int32) = (2 : Int32)))).2 (by decide) (by decide) k) ?_
    refine own_go (b := s₁.setTop (mkF m 193 #[iv qa, iv qb, iv qc, iv qd, iv qs, iv 3, iv ya, iv yb, iv yc, iv yd, .unset, .unset, .unset] [(.int 3)])) (fun t k => XS.iload X0.here hx rfl (hb hby at_191) rfl  k) ?_
    refine own_go (b := s₁.setTop (mkF m 194 #[iv qa, iv qb, iv qc, iv qd, iv qs, iv 3, iv ya, iv yb, iv yc, iv yd, .unset, .unset, .unset] [(.int 3), (.int 3)])) (fun t k => XS.iconst X0.here hx rfl (hb hby at_193) k) ?_
    refine own_go (b := s₁.setTop (mkF m 197 #[iv qa, iv qb, iv qc, iv qd, iv qs, iv 3, iv ya, iv yb, iv yc, iv yd, .unset, .unset, .unset] [])) (fun t k => XS.icmpNo X0.here hx rfl (hb hby at_194) rfl (teq (rfl : (3 : Int32) = (3 : Int32))).2 k) ?_
    refine own_go (b := s₁.setTop (mkF m 198 #[iv qa, iv qb, iv qc, iv qd, iv qs, iv 3, iv ya, iv yb, iv yc, iv yd, .unset, .unset, .unset] [(.int 3)])) (fun t k => XS.iconst X0.here hx rfl (hb hby at_197) k) ?_
    obtain ⟨T44, h44, k44, X44, e44, E44, A44, st44⟩ := newP X0 hx hZ (hw _ (List.mem_of_getElem? (i := 2) rfl)) e0 (g := (mkF m 198 #[iv qa, iv qb, iv qc, iv qd, iv qs, iv 3, iv ya, iv yb, iv yc, iv yd, .unset, .unset, .unset] [(.int 3)])) rfl (hb hby at_198) rfl (by decide) (cap := 3) (by decide) (by decide) (by decide) (by decide)
    obtain ⟨b44, g44⟩ : ∃ z, z = h0.size := ⟨_, rfl⟩
    rw [← g44] at A44 st44
    have g_b44 : n0 ≤ b44 := Nat.le_trans Z0 (Nat.le_of_eq g44.symm)
    have Zs44 : n0 ≤ h44.size := Nat.le_trans Z0 E44.1
    have Ol44 := Od.ext E44
    have V_b44 : Arv Z h44 b44 k44 .char (3 : Int32) [(.int (0 : Int32)), (.int (0 : Int32)), (.int (0 : Int32))] (.int (0 : Int32)) := (Arv.new A44 (by decide)).pad (pad_rep [] (.int (0 : Int32)) 3)
    refine own_go (b := T44.setTop (mkF m 200 #[iv qa, iv qb, iv qc, iv qd, iv qs, iv 3, iv ya, iv yb, iv yc, iv yd, .unset, .unset, .unset] [(.ref b44)])) st44 ?_
    refine own_go (b := T44.setTop (mkF m 201 #[iv qa, iv qb, iv qc, iv qd, iv qs, iv 3, iv ya, iv yb, iv yc, iv yd, .unset, .unset, .unset] [(.ref b44), (.ref b44)])) (fun t k => XS.dup X44.here hx rfl (hb hby at_200) rfl rfl k) ?_
    refine own_go (b := T44.setTop (mkF m 202 #[iv qa, iv qb, iv qc, iv qd, iv qs, iv 3, iv ya, iv yb, iv yc, iv yd, .unset, .unset, .unset] [(.int 0), (.ref b44), (.ref b44)])) (fun t k => XS.iconst X44.here hx rfl (hb hby at_201) k) ?_
    refine own_go (b := T44.setTop (mkF m 204 #[iv qa, iv qb, iv qc, iv qd, iv qs, iv 3, iv ya, iv yb, iv yc, iv yd, .unset, .unset, .unset] [(.int ya), (.int 0), (.ref b44), (.ref b44)])) (fun t k => XS.iload X44.here hx rfl (hb hby at_202) rfl  k) ?_
    obtain ⟨cl45, Ar45, qc45, Sz45, Ng45, Hs45, Ft45⟩ := id V_b44
    have hin45 : ¬ ((0 : Int32) < 0 ∨ cl45.slots.size ≤ ((0 : Int32)).toNatClampNeg) := inb_of Sz45 ⟨by decide, by decide⟩
    obtain ⟨T46, h46, X46, e46, W46, st46⟩ := stC X44 hx hZ e44 Ar45 (j := (0 : Int32)) hin45 (g := (mkF m 204 #[iv qa, iv qb, iv qc, iv qd, iv qs, iv 3, iv ya, iv yb, iv yc, iv yd, .unset, .unset, .unset] [(.int ya), (.int 0), (.ref b44), (.ref b44)])) rfl rfl (hb hby at_204)
    have V_b44_46 : Arv Z h46 b44 k44 .char (3 : Int32) [(.int (nar .char ya)), (.int 0), (.int 0)] (.int (0 : Int32)) := Arv.set Ar45 qc45 Sz45 Ng45 Hs45 Ft45 (fits_nar_char _) W46 0 rfl (Nat.le_of_ble_eq_true rfl)
    have Zs46 : n0 ≤ h46.size := Nat.le_trans Zs44 (Keep.of_wr W46).1
    have N46 := Fr.snoc X46 N0 g_b44
    have Ol46 := Ol44.wr W46 g_b44
    refine own_go (b := T46.setTop (mkF m 205 #[iv qa, iv qb, iv qc, iv qd, iv qs, iv 3, iv ya, iv yb, iv yc, iv yd, .unset, .unset, .unset] [(.ref b44)])) st46 ?_
    refine own_go (b := T46.setTop (mkF m 206 #[iv qa, iv qb, iv qc, iv qd, iv qs, iv 3, iv ya, iv yb, iv yc, iv yd, .unset, .unset, .unset] [(.ref b44), (.ref b44)])) (fun t k => XS.dup X46.here hx rfl (hb hby at_205) rfl rfl k) ?_
    refine own_go (b := T46.setTop (mkF m 207 #[iv qa, iv qb, iv qc, iv qd, iv qs, iv 3, iv ya, iv yb, iv yc, iv yd, .unset, .unset, .unset] [(.int 1), (.ref b44), (.ref b44)])) (fun t k => XS.iconst X46.here hx rfl (hb hby at_206) k) ?_
    refine own_go (b := T46.setTop (mkF m 209 #[iv qa, iv qb, iv qc, iv qd, iv qs, iv 3, iv ya, iv yb, iv yc, iv yd, .unset, .unset, .unset] [(.int yb), (.int 1), (.ref b44), (.ref b44)])) (fun t k => XS.iload X46.here hx rfl (hb hby at_207) rfl  k) ?_
    obtain ⟨cl47, Ar47, qc47, Sz47, Ng47, Hs47, Ft47⟩ := id V_b44_46
    have hin47 : ¬ ((1 : Int32) < 0 ∨ cl47.slots.size ≤ ((1 : Int32)).toNatClampNeg) := inb_of Sz47 ⟨by decide, by decide⟩
    obtain ⟨T48, h48, X48, e48, W48, st48⟩ := stC X46 hx hZ e46 Ar47 (j := (1 : Int32)) hin47 (g := (mkF m 209 #[iv qa, iv qb, iv qc, iv qd, iv qs, iv 3, iv ya, iv yb, iv yc, iv yd, .unset, .unset, .unset] [(.int yb), (.int 1), (.ref b44), (.ref b44)])) rfl rfl (hb hby at_209)
    have V_b44_48 : Arv Z h48 b44 k44 .char (3 : Int32) [(.int (nar .char ya)), (.int (nar .char yb)), (.int 0)] (.int (0 : Int32)) := Arv.set Ar47 qc47 Sz47 Ng47 Hs47 Ft47 (fits_nar_char _) W48 1 rfl (Nat.le_of_ble_eq_true rfl)
    have Zs48 : n0 ≤ h48.size := Nat.le_trans Zs46 (Keep.of_wr W48).1
    have N48 := Fr.snoc X48 N46 g_b44
    have Ol48 := Ol46.wr W48 g_b44
    refine own_go (b := T48.setTop (mkF m 210 #[iv qa, iv qb, iv qc, iv qd, iv qs, iv 3, iv ya, iv yb, iv yc, iv yd, .unset, .unset, .unset] [(.ref b44)])) st48 ?_
    refine own_go (b := T48.setTop (mkF m 211 #[iv qa, iv qb, iv qc, iv qd, iv qs, iv 3, iv ya, iv yb, iv yc, iv yd, .unset, .unset, .unset] [(.ref b44), (.ref b44)])) (fun t k => XS.dup X48.here hx rfl (hb hby at_210) rfl rfl k) ?_
    refine own_go (b := T48.setTop (mkF m 212 #[iv qa, iv qb, iv qc, iv qd, iv qs, iv 3, iv ya, iv yb, iv yc, iv yd, .unset, .unset, .unset] [(.int 2), (.ref b44), (.ref b44)])) (fun t k => XS.iconst X48.here hx rfl (hb hby at_211) k) ?_
    refine own_go (b := T48.setTop (mkF m 214 #[iv qa, iv qb, iv qc, iv qd, iv qs, iv 3, iv ya, iv yb, iv yc, iv yd, .unset, .unset, .unset] [(.int yc), (.int 2), (.ref b44), (.ref b44)])) (fun t k => XS.iload X48.here hx rfl (hb hby at_212) rfl  k) ?_
    obtain ⟨cl49, Ar49, qc49, Sz49, Ng49, Hs49, Ft49⟩ := id V_b44_48
    have hin49 : ¬ ((2 : Int32) < 0 ∨ cl49.slots.size ≤ ((2 : Int32)).toNatClampNeg) := inb_of Sz49 ⟨by decide, by decide⟩
    obtain ⟨T50, h50, X50, e50, W50, st50⟩ := stC X48 hx hZ e48 Ar49 (j := (2 : Int32)) hin49 (g := (mkF m 214 #[iv qa, iv qb, iv qc, iv qd, iv qs, iv 3, iv ya, iv yb, iv yc, iv yd, .unset, .unset, .unset] [(.int yc), (.int 2), (.ref b44), (.ref b44)])) rfl rfl (hb hby at_214)
    have V_b44_50 : Arv Z h50 b44 k44 .char (3 : Int32) [(.int (nar .char ya)), (.int (nar .char yb)), (.int (nar .char yc))] (.int (0 : Int32)) := Arv.set Ar49 qc49 Sz49 Ng49 Hs49 Ft49 (fits_nar_char _) W50 2 rfl (Nat.le_of_ble_eq_true rfl)
    have Zs50 : n0 ≤ h50.size := Nat.le_trans Zs48 (Keep.of_wr W50).1
    have N50 := Fr.snoc X50 N48 g_b44
    have Ol50 := Ol48.wr W50 g_b44
    refine own_go (b := T50.setTop (mkF m 215 #[iv qa, iv qb, iv qc, iv qd, iv qs, iv 3, iv ya, iv yb, iv yc, iv yd, .unset, .unset, .unset] [(.ref b44)])) st50 ?_
    refine own_go (b := T50.setTop (mkF m 217 #[iv qa, iv qb, iv qc, iv qd, iv qs, iv 3, iv ya, iv yb, iv yc, iv yd, .unset, .unset, rv b44] [])) (fun t k => XS.astore X50.here hx rfl (hb hby at_215) rfl rfl (l' := #[iv qa, iv qb, iv qc, iv qd, iv qs, iv 3, iv ya, iv yb, iv yc, iv yd, .unset, .unset, rv b44]) rfl k) ?_
    refine own_go (b := T50.setTop (mkF m 245 #[iv qa, iv qb, iv qc, iv qd, iv qs, iv 3, iv ya, iv yb, iv yc, iv yd, .unset, .unset, rv b44] [])) (fun t k => XS.goto X50.here hx rfl (pc0 := 217) (pc' := 245) rfl (hb hby at_217) (by decide) (by decide) k) ?_
    have Vy51 : Arv Z h50 b44 k44 .char (([ya, yb, yc] : List Int32).length.toInt32) (([ya, yb, yc] : List Int32).map Value.int) (.int (0 : Int32)) := by
      have q := V_b44_50
      rw [cya, cyb, cyc] at q
      exact q
    have hrg : ∀ c ∈ ([ya, yb, yc] : List Int32), ¬ c < 0 ∧ ¬ (65535 : Int32) < c := by
      intro z hz
      simp only [List.mem_cons, List.not_mem_nil, or_false] at hz
      rcases hz with rfl | rfl | rfl
      · exact rya
      · exact ryb
      · exact ryc
    obtain ⟨T52, h52, X52, e52, E52, A52, D52, -, st52⟩ := newO X50 hx hZ hown (hw _ (List.mem_of_getElem? (i := 3) rfl)) (hw _ (List.mem_of_getElem? (i := 4) rfl)) (hw _ (List.mem_of_getElem? (i := 5) rfl)) e50 (g := (mkF m 245 #[iv qa, iv qb, iv qc, iv qd, iv qs, iv 3, iv ya, iv yb, iv yc, iv yd, .unset, .unset, rv b44] [])) rfl (hb hby at_245) (by decide) (by decide)
    obtain ⟨b52, g52⟩ : ∃ z, z = h50.size := ⟨_, rfl⟩
    rw [← g52] at A52 D52 st52
    have g_b52 : n0 ≤ b52 := Nat.le_trans Zs50 (Nat.le_of_eq g52.symm)
    have Zs52 : n0 ≤ h52.size := Nat.le_trans Zs50 E52.1
    have Ol52 := Ol50.ext E52
    have F_value_b52 : Fld Z h52 b52 "java/lang/String" "value" "[B" .null := D52 (Or.inr (hw _ (List.mem_of_getElem? (i := 18) rfl))) (ty := (.array .byte)) (by decide)
    have F_coder_b52 : Fld Z h52 b52 "java/lang/String" "coder" "B" (.int 0) := D52 (Or.inr (hw _ (List.mem_of_getElem? (i := 19) rfl))) (ty := .byte) (by decide)
    refine own_go (b := T52.setTop (mkF m 248 #[iv qa, iv qb, iv qc, iv qd, iv qs, iv 3, iv ya, iv yb, iv yc, iv yd, .unset, .unset, rv b44] [(.ref b52)])) st52 ?_
    refine own_go (b := T52.setTop (mkF m 249 #[iv qa, iv qb, iv qc, iv qd, iv qs, iv 3, iv ya, iv yb, iv yc, iv yd, .unset, .unset, rv b44] [(.ref b52), (.ref b52)])) (fun t k => XS.dup X52.here hx rfl (hb hby at_248) rfl rfl k) ?_
    refine own_go (b := T52.setTop (mkF m 251 #[iv qa, iv qb, iv qc, iv qd, iv qs, iv 3, iv ya, iv yb, iv yc, iv yd, .unset, .unset, rv b44] [(.ref b44), (.ref b52), (.ref b52)])) (fun t k => XS.aload X52.here hx rfl (hb hby at_249) rfl rfl k) ?_
    by_cases hc53 : ∀ c ∈ ([ya, yb, yc] : List Int32), ¬ (255 : Int32) < c
    · obtain ⟨_, _, ⟨T54, L54, k54, n54⟩, -, X54, ⟨Lc54, hQ54, l54, y54, z54⟩, st54⟩ := X52.specialBack hx (y := (⟨"java/lang/String", "<init>", "([C)V"⟩ : MethodName)) rfl hown (mvT hZ (hw _ (List.mem_of_getElem? (i := 6) rfl))) (mvT hZ (hw _ (List.mem_of_getElem? (i := 7) rfl))) (mvT hZ (hw _ (List.mem_of_getElem? (i := 8) rfl))) (by decide) (StrChars.Road.backV (W := 1) hZ hws (kI := 4) (hw _ (List.mem_of_getElem? (i := 4) rfl)) (cs := ([ya, yb, yc] : List Int32)) (bs := (([ya, yb, yc] : List Int32)).map (fun c => c.toInt8.toInt32)) (n := 3) g_b52 Zs52 A52 F_value_b52 F_coder_b52 (Vy51.ext E52) (O2.ext Ol52.2) P5 rfl rfl (by decide) (by decide) (fun c hc => ⟨(hrg c hc).1, hc53 c hc⟩) rfl (by decide) (by decide)) (g := (mkF m 251 #[iv qa, iv qb, iv qc, iv qd, iv qs, iv 3, iv ya, iv yb, iv yc, iv yd, .unset, .unset, rv b44] [(.ref b44), (.ref b52), (.ref b52)])) rfl (by rw [hml]; rfl) (Steps.refl _) (a := b52) (argsL := [(.ref b44)]) (rest := [(.ref b52)]) (lenOf pd_26 rfl) rfl (by show 2 * 0 + _ ≤ _; exact Nat.le_of_eq rfl) (hb hby at_251) (fun _ _ => ⟨rfl, e52, (by decide : 2 + 1 ≤ _), (by decide : 7 + 3 ≤ _)⟩)
      dsimp only [Pt.U, Pt.locs, Pt.cells, Pt.slots] at X54 l54 y54 z54 st54 hQ54
      subst l54 y54 z54
      obtain ⟨rfl, N54q, K54, Es54, Cs54, t54, kb54, ua54, ub54, uc54, Vs54, Ks54⟩ := hQ54
      have Zs54 : n0 ≤ T54.heap.size := Nat.le_trans Zs52 K54.1
      have N54 := Fr.app N50 N54q
      have Ol54 := Ol52.keep K54 (allS g_b52 all0)
      have Sx54 : own_Sx Z T54.heap b52 ([ya, yb, yc] : List Int32) := ⟨t54, kb54, 0, _, _, Es54, Vs54, Cs54, Ks54, StrChars.Road.codOf rfl fun c hc => hc53 c hc, hrg, Nat.le_of_ble_eq_true rfl, fun q => absurd q (by decide)⟩
      obtain ⟨lq54, X54, N54⟩ : ∃ lq, Stand p l e room_1 (s.setVm s.vm) m #[(.int qa), (.int qb), (.int qc), (.int qd), (.int qs)] below meth c T54 lq 3 10 ∧ Fr n0 lq := ⟨_, X54, N54⟩
      refine own_tr (b := T54.setTop (mkF m 254 #[iv qa, iv qb, iv qc, iv qd, iv qs, iv 3, iv ya, iv yb, iv yc, iv yd, .unset, .unset, rv b44] [(.ref b52)])) st54 ?_
      refine own_go (b := T54.setTop (mkF m 256 #[iv qa, iv qb, iv qc, iv qd, iv qs, iv 3, iv ya, iv yb, iv yc, iv yd, rv b52, .unset, rv b44] [])) (fun t k => XS.astore X54.here hx rfl (hb hby at_254) rfl rfl (l' := #[iv qa, iv qb, iv qc, iv qd, iv qs, iv 3, iv ya, iv yb, iv yc, iv yd, rv b52, .unset, rv b44]) rfl k) ?_
      refine own_go (b := T54.setTop (mkF m 258 #[iv qa, iv qb, iv qc, iv qd, iv qs, iv 3, iv ya, iv yb, iv yc, iv yd, rv b52, .unset, rv b44] [(.int 3)])) (fun t k => XS.iload X54.here hx rfl (hb hby at_256) rfl  k) ?_
      refine own_go (b := T54.setTop (mkF m 259 #[iv qa, iv qb, iv qc, iv qd, iv qs, iv 3, iv ya, iv yb, iv yc, iv yd, rv b52, .unset, rv b44] [(.int 1), (.int 3)])) (fun t k => XS.iconst X54.here hx rfl (hb hby at_258) k) ?_
      refine own_go (b := T54.setTop (mkF m 262 #[iv qa, iv qb, iv qc, iv qd, iv qs, iv 3, iv ya, iv yb, iv yc, iv yd, rv b52, .unset, rv b44] [])) (fun t k => XS.icmpNo X54.here hx rfl (hb hby at_259) rfl (flt (by decide : ¬ ((3 : Int32) < (1 : Int32)))).1 k) ?_
      refine own_go (b := T54.setTop (mkF m 264 #[iv qa, iv qb, iv qc, iv qd, iv qs, iv 3, iv ya, iv yb, iv yc, iv yd, rv b52, .unset, rv b44] [(.int 3)])) (fun t k => XS.iload X54.here hx rfl (hb hby at_262) rfl  k) ?_
      refine own_go (b := T54.setTop (mkF m 265 #[iv qa, iv qb, iv qc, iv qd, iv qs, iv 3, iv ya, iv yb, iv yc, iv yd, rv b52, .unset, rv b44] [(.int 1), (.int 3)])) (fun t k => XS.iconst X54.here hx rfl (hb hby at_264) k) ?_
      refine own_go (b := T54.setTop (mkF m 268 #[iv qa, iv qb, iv qc, iv qd, iv qs, iv 3, iv ya, iv yb, iv yc, iv yd, rv b52, .unset, rv b44] [])) (fun t k => XS.icmpNo X54.here hx rfl (hb hby at_265) rfl (flt (by decide : ¬ ((3 : Int32) < (1 : Int32)))).1 k) ?_
      refine own_go (b := T54.setTop (mkF m 270 #[iv qa, iv qb, iv qc, iv qd, iv qs, iv 3, iv ya, iv yb, iv yc, iv yd, rv b52, .unset, rv b44] [(.int ya)])) (fun t k => XS.iload X54.here hx rfl (hb hby at_268) rfl  k) ?_
      obtain ⟨_, _, ⟨T55, L55, k55, n55⟩, -, X55, ⟨Lc55, hQ55, l55, y55, z55⟩, st55⟩ := Jvm.LawKit.callS X54 hx (y := (⟨"com/example/fault/fault/TraceIdParsePinLaw", "ok", "(C)Z"⟩ : MethodName)) hown (mvT hZ (hw _ (List.mem_of_getElem? (i := 71) rfl))) (mvT hZ (hw _ (List.mem_of_getElem? (i := 72) rfl))) (mvT hZ (hw _ (List.mem_of_getElem? (i := 73) rfl))) (mvT hZ (hw _ (List.mem_of_getElem? (i := 74) rfl))) (by decide) (backOf (W := 0) (rm14 l Z a0 hw [] ya  T54.heap n0 Zs54 ) hZ (hw _ (List.mem_of_getElem? (i := 74) rfl)) (hw _ (List.mem_of_getElem? (i := 73) rfl)) (by decide) (by decide)) (g := (mkF m 270 #[iv qa, iv qb, iv qc, iv qd, iv qs, iv 3, iv ya, iv yb, iv yc, iv yd, rv b52, .unset, rv b44] [(.int ya)])) rfl (by rw [hml]; rfl) (argsL := [(.int ya)]) (rest := []) (lenOf pd_27 rfl) rfl (by show 2 * 0 + _ ≤ _; exact Nat.le_of_eq rfl) (hb hby at_270) (fun _ _ => ⟨rfl, rfl, (by decide : 3 + 0 ≤ _), (by decide : 10 + 0 ≤ _)⟩)
      dsimp only [Pt.U, Pt.locs, Pt.cells, Pt.slots] at X55 l55 y55 z55 st55 hQ55
      subst l55 y55 z55
      obtain ⟨rfl, N55q, e55⟩ := hQ55
      have N55 := Fr.app N54 N55q
      obtain ⟨lq55, X55, N55⟩ : ∃ lq, Stand p l e room_1 (s.setVm s.vm) m #[(.int qa), (.int qb), (.int qc), (.int qd), (.int qs)] below meth c T55 lq 3 10 ∧ Fr n0 lq := ⟨_, X55, N55⟩
      refine own_go (b := T55.setTop (mkF m 273 #[iv qa, iv qb, iv qc, iv qd, iv qs, iv 3, iv ya, iv yb, iv yc, iv yd, rv b52, .unset, rv b44] [(.int (own_ok01 ya))])) st55 ?_
      by_cases hc56 : own_okP ya
      · rw [own_ok01, if_pos hc56]
        refine own_go (b := T55.setTop (mkF m 276 #[iv qa, iv qb, iv qc, iv qd, iv qs, iv 3, iv ya, iv yb, iv yc, iv yd, rv b52, .unset, rv b44] [])) (fun t k => XS.ifNo X55.here hx rfl (hb hby at_273) rfl ((if0 _ _).trans (feq (by decide : ¬ ((1 : Int32) = (0 : Int32)))).1) k) ?_
        refine own_go (b := T55.setTop (mkF m 278 #[iv qa, iv qb, iv qc, iv qd, iv qs, iv 3, iv ya, iv yb, iv yc, iv yd, rv b52, .unset, rv b44] [(.int 3)])) (fun t k => XS.iload X55.here hx rfl (hb hby at_276) rfl  k) ?_
        refine own_go (b := T55.setTop (mkF m 279 #[iv qa, iv qb, iv qc, iv qd, iv qs, iv 3, iv ya, iv yb, iv yc, iv yd, rv b52, .unset, rv b44] [(.int 2), (.int 3)])) (fun t k => XS.iconst X55.here hx rfl (hb hby at_278) k) ?_
        refine own_go (b := T55.setTop (mkF m 282 #[iv qa, iv qb, iv qc, iv qd, iv qs, iv 3, iv ya, iv yb, iv yc, iv yd, rv b52, .unset, rv b44] [])) (fun t k => XS.icmpNo X55.here hx rfl (hb hby at_279) rfl (flt (by decide : ¬ ((3 : Int32) < (2 : Int32)))).1 k) ?_
        refine own_go (b := T55.setTop (mkF m 284 #[iv qa, iv qb, iv qc, iv qd, iv qs, iv 3, iv ya, iv yb, iv yc, iv yd, rv b52, .unset, rv b44] [(.int yb)])) (fun t k => XS.iload X55.here hx rfl (hb hby at_282) rfl  k) ?_
        obtain ⟨_, _, ⟨T57, L57, k57, n57⟩, -, X57, ⟨Lc57, hQ57, l57, y57, z57⟩, st57⟩ := Jvm.LawKit.callS X55 hx (y := (⟨"com/example/fault/fault/TraceIdParsePinLaw", "ok", "(C)Z"⟩ : MethodName)) hown (mvT hZ (hw _ (List.mem_of_getElem? (i := 71) rfl))) (mvT hZ (hw _ (List.mem_of_getElem? (i := 72) rfl))) (mvT hZ (hw _ (List.mem_of_getElem? (i := 73) rfl))) (mvT hZ (hw _ (List.mem_of_getElem? (i := 74) rfl))) (by decide) (backOf (W := 0) (rm14 l Z a0 hw [] yb  T54.heap n0 Zs54 ) hZ (hw _ (List.mem_of_getElem? (i := 74) rfl)) (hw _ (List.mem_of_getElem? (i := 73) rfl)) (by decide) (by decide)) (g := (mkF m 284 #[iv qa, iv qb, iv qc, iv qd, iv qs, iv 3, iv ya, iv yb, iv yc, iv yd, rv b52, .unset, rv b44] [(.int yb)])) rfl (by rw [hml]; rfl) (argsL := [(.int yb)]) (rest := []) (lenOf pd_27 rfl) rfl (by show 2 * 0 + _ ≤ _; exact Nat.le_of_eq rfl) (hb hby at_284) (fun _ _ => ⟨rfl, e55, (by decide : 3 + 0 ≤ _), (by decide : 10 + 0 ≤ _)⟩)
        dsimp only [Pt.U, Pt.locs, Pt.cells, Pt.slots] at X57 l57 y57 z57 st57 hQ57
        subst l57 y57 z57
        obtain ⟨rfl, N57q, e57⟩ := hQ57
        have N57 := Fr.app N55 N57q
        obtain ⟨lq57, X57, N57⟩ : ∃ lq, Stand p l e room_1 (s.setVm s.vm) m #[(.int qa), (.int qb), (.int qc), (.int qd), (.int qs)] below meth c T57 lq 3 10 ∧ Fr n0 lq := ⟨_, X57, N57⟩
        refine own_go (b := T57.setTop (mkF m 287 #[iv qa, iv qb, iv qc, iv qd, iv qs, iv 3, iv ya, iv yb, iv yc, iv yd, rv b52, .unset, rv b44] [(.int (own_ok01 yb))])) st57 ?_
        by_cases hc58 : own_okP yb
        · rw [own_ok01, if_pos hc58]
          refine own_go (b := T57.setTop (mkF m 290 #[iv qa, iv qb, iv qc, iv qd, iv qs, iv 3, iv ya, iv yb, iv yc, iv yd, rv b52, .unset, rv b44] [])) (fun t k => XS.ifNo X57.here hx rfl (hb hby at_287) rfl ((if0 _ _).trans (feq (by decide : ¬ ((1 : Int32) = (0 : Int32)))).1) k) ?_
          refine own_go (b := T57.setTop (mkF m 292 #[iv qa, iv qb, iv qc, iv qd, iv qs, iv 3, iv ya, iv yb, iv yc, iv yd, rv b52, .unset, rv b44] [(.int 3)])) (fun t k => XS.iload X57.here hx rfl (hb hby at_290) rfl  k) ?_
          refine own_go (b := T57.setTop (mkF m 293 #[iv qa, iv qb, iv qc, iv qd, iv qs, iv 3, iv ya, iv yb, iv yc, iv yd, rv b52, .unset, rv b44] [(.int 3), (.int 3)])) (fun t k => XS.iconst X57.here hx rfl (hb hby at_292) k) ?_
          refine own_go (b := T57.setTop (mkF m 296 #[iv qa, iv qb, iv qc, iv qd, iv qs, iv 3, iv ya, iv yb, iv yc, iv yd, rv b52, .unset, rv b44] [])) (fun t k => XS.icmpNo X57.here hx rfl (hb hby at_293) rfl (flt (by decide : ¬ ((3 : Int32) < (3 : Int32)))).1 k) ?_
          refine own_go (b := T57.setTop (mkF m 298 #[iv qa, iv qb, iv qc, iv qd, iv qs, iv 3, iv ya, iv yb, iv yc, iv yd, rv b52, .unset, rv b44] [(.int yc)])) (fun t k => XS.iload X57.here hx rfl (hb hby at_296) rfl  k) ?_
          obtain ⟨_, _, ⟨T59, L59, k59, n59⟩, -, X59, ⟨Lc59, hQ59, l59, y59, z59⟩, st59⟩ := Jvm.LawKit.callS X57 hx (y := (⟨"com/example/fault/fault/TraceIdParsePinLaw", "ok", "(C)Z"⟩ : MethodName)) hown (mvT hZ (hw _ (List.mem_of_getElem? (i := 71) rfl))) (mvT hZ (hw _ (List.mem_of_getElem? (i := 72) rfl))) (mvT hZ (hw _ (List.mem_of_getElem? (i := 73) rfl))) (mvT hZ (hw _ (List.mem_of_getElem? (i := 74) rfl))) (by decide) (backOf (W := 0) (rm14 l Z a0 hw [] yc  T54.heap n0 Zs54 ) hZ (hw _ (List.mem_of_getElem? (i := 74) rfl)) (hw _ (List.mem_of_getElem? (i := 73) rfl)) (by decide) (by decide)) (g := (mkF m 298 #[iv qa, iv qb, iv qc, iv qd, iv qs, iv 3, iv ya, iv yb, iv yc, iv yd, rv b52, .unset, rv b44] [(.int yc)])) rfl (by rw [hml]; rfl) (argsL := [(.int yc)]) (rest := []) (lenOf pd_27 rfl) rfl (by show 2 * 0 + _ ≤ _; exact Nat.le_of_eq rfl) (hb hby at_298) (fun _ _ => ⟨rfl, e57, (by decide : 3 + 0 ≤ _), (by decide : 10 + 0 ≤ _)⟩)
          dsimp only [Pt.U, Pt.locs, Pt.cells, Pt.slots] at X59 l59 y59 z59 st59 hQ59
          subst l59 y59 z59
          obtain ⟨rfl, N59q, e59⟩ := hQ59
          have N59 := Fr.app N57 N59q
          obtain ⟨lq59, X59, N59⟩ : ∃ lq, Stand p l e room_1 (s.setVm s.vm) m #[(.int qa), (.int qb), (.int qc), (.int qd), (.int qs)] below meth c T59 lq 3 10 ∧ Fr n0 lq := ⟨_, X59, N59⟩
          refine own_go (b := T59.setTop (mkF m 301 #[iv qa, iv qb, iv qc, iv qd, iv qs, iv 3, iv ya, iv yb, iv yc, iv yd, rv b52, .unset, rv b44] [(.int (own_ok01 yc))])) st59 ?_
          by_cases hc60 : own_okP yc
          · rw [own_ok01, if_pos hc60]
            refine own_go (b := T59.setTop (mkF m 304 #[iv qa, iv qb, iv qc, iv qd, iv qs, iv 3, iv ya, iv yb, iv yc, iv yd, rv b52, .unset, rv b44] [])) (fun t k => XS.ifNo X59.here hx rfl (hb hby at_301) rfl ((if0 _ _).trans (feq (by decide : ¬ ((1 : Int32) = (0 : Int32)))).1) k) ?_
            refine own_go (b := T59.setTop (mkF m 306 #[iv qa, iv qb, iv qc, iv qd, iv qs, iv 3, iv ya, iv yb, iv yc, iv yd, rv b52, .unset, rv b44] [(.int 3)])) (fun t k => XS.iload X59.here hx rfl (hb hby at_304) rfl  k) ?_
            refine own_go (b := T59.setTop (mkF m 307 #[iv qa, iv qb, iv qc, iv qd, iv qs, iv 3, iv ya, iv yb, iv yc, iv yd, rv b52, .unset, rv b44] [(.int 4), (.int 3)])) (fun t k => XS.iconst X59.here hx rfl (hb hby at_306) k) ?_
            refine own_go (b := T59.setTop (mkF m 318 #[iv qa, iv qb, iv qc, iv qd, iv qs, iv 3, iv ya, iv yb, iv yc, iv yd, rv b52, .unset, rv b44] [])) (fun t k => XS.icmpYes X59.here hx rfl (pc0 := 307) (pc' := 318) rfl (hb hby at_307) rfl (tlt (by decide : (3 : Int32) < (4 : Int32))).1 (by decide) (by decide) k) ?_
            refine own_go (b := T59.setTop (mkF m 319 #[iv qa, iv qb, iv qc, iv qd, iv qs, iv 3, iv ya, iv yb, iv yc, iv yd, rv b52, .unset, rv b44] [(.int 1)])) (fun t k => XS.iconst X59.here hx rfl (hb hby at_318) k) ?_
            refine own_go (b := T59.setTop (mkF m 323 #[iv qa, iv qb, iv qc, iv qd, iv qs, iv 3, iv ya, iv yb, iv yc, iv yd, rv b52, .unset, rv b44] [(.int 1)])) (fun t k => XS.goto X59.here hx rfl (pc0 := 319) (pc' := 323) rfl (hb hby at_319) (by decide) (by decide) k) ?_
            refine own_go (b := T59.setTop (mkF m 325 #[iv qa, iv qb, iv qc, iv qd, iv qs, iv 3, iv ya, iv yb, iv yc, iv yd, rv b52, iv 1, rv b44] [])) (fun t k => XS.istore X59.here hx rfl (hb hby at_323) rfl (l' := #[iv qa, iv qb, iv qc, iv qd, iv qs, iv 3, iv ya, iv yb, iv yc, iv yd, rv b52, iv 1, rv b44]) rfl k) ?_
            exact J325 T59 T54.heap _ s.vm _ (3 : Int32) ya yb yc yd (1 : Int32) b52 ([ya, yb, yc] : List Int32) (rv b44) (own_mono X59 (by decide) (by decide)) e59 N59 Zs54 Ol54 hS0 ((((((Le0.ext E44).wr W46).wr W48).wr W50).ext E52).keep K54) hZ hown (own_IBm I0 rfl (by simp)) Sx54 (if_pos ⟨Nat.le_of_ble_eq_true rfl, Nat.le_of_ble_eq_true rfl, by intro z hz; simp only [List.mem_cons, List.not_mem_nil, or_false] at hz; rcases hz with rfl | rfl | rfl; exact hc56; exact hc58; exact hc60⟩).symm (Or.inr ⟨_, rfl, rfl⟩)
          · rw [own_ok01, if_neg hc60]
            refine own_go (b := T59.setTop (mkF m 322 #[iv qa, iv qb, iv qc, iv qd, iv qs, iv 3, iv ya, iv yb, iv yc, iv yd, rv b52, .unset, rv b44] [])) (fun t k => XS.ifYes X59.here hx rfl (pc0 := 301) (pc' := 322) rfl (hb hby at_301) rfl ((if0 _ _).trans (teq (rfl : (0 : Int32) = (0 : Int32))).1) (by decide) (by decide) k) ?_
            refine own_go (b := T59.setTop (mkF m 323 #[iv qa, iv qb, iv qc, iv qd, iv qs, iv 3, iv ya, iv yb, iv yc, iv yd, rv b52, .unset, rv b44] [(.int 0)])) (fun t k => XS.iconst X59.here hx rfl (hb hby at_322) k) ?_
            refine own_go (b := T59.setTop (mkF m 325 #[iv qa, iv qb, iv qc, iv qd, iv qs, iv 3, iv ya, iv yb, iv yc, iv yd, rv b52, iv 0, rv b44] [])) (fun t k => XS.istore X59.here hx rfl (hb hby at_323) rfl (l' := #[iv qa, iv qb, iv qc, iv qd, iv qs, iv 3, iv ya, iv yb, iv yc, iv yd, rv b52, iv 0, rv b44]) rfl k) ?_
            exact J325 T59 T54.heap _ s.vm _ (3 : Int32) ya yb yc yd (0 : Int32) b52 ([ya, yb, yc] : List Int32) (rv b44) (own_mono X59 (by decide) (by decide)) e59 N59 Zs54 Ol54 hS0 ((((((Le0.ext E44).wr W46).wr W48).wr W50).ext E52).keep K54) hZ hown (own_IBm I0 rfl (by simp)) Sx54 (if_neg (fun q => hc60 (q.2.2 _ (by simp)))).symm (Or.inr ⟨_, rfl, rfl⟩)
        · rw [own_ok01, if_neg hc58]
          refine own_go (b := T57.setTop (mkF m 322 #[iv qa, iv qb, iv qc, iv qd, iv qs, iv 3, iv ya, iv yb, iv yc, iv yd, rv b52, .unset, rv b44] [])) (fun t k => XS.ifYes X57.here hx rfl (pc0 := 287) (pc' := 322) rfl (hb hby at_287) rfl ((if0 _ _).trans (teq (rfl : (0 : Int32) = (0 : Int32))).1) (by decide) (by decide) k) ?_
          refine own_go (b := T57.setTop (mkF m 323 #[iv qa, iv qb, iv qc, iv qd, iv qs, iv 3, iv ya, iv yb, iv yc, iv yd, rv b52, .unset, rv b44] [(.int 0)])) (fun t k => XS.iconst X57.here hx rfl (hb hby at_322) k) ?_
          refine own_go (b := T57.setTop (mkF m 325 #[iv qa, iv qb, iv qc, iv qd, iv qs, iv 3, iv ya, iv yb, iv yc, iv yd, rv b52, iv 0, rv b44] [])) (fun t k => XS.istore X57.here hx rfl (hb hby at_323) rfl (l' := #[iv qa, iv qb, iv qc, iv qd, iv qs, iv 3, iv ya, iv yb, iv yc, iv yd, rv b52, iv 0, rv b44]) rfl k) ?_
          exact J325 T57 T54.heap _ s.vm _ (3 : Int32) ya yb yc yd (0 : Int32) b52 ([ya, yb, yc] : List Int32) (rv b44) (own_mono X57 (by decide) (by decide)) e57 N57 Zs54 Ol54 hS0 ((((((Le0.ext E44).wr W46).wr W48).wr W50).ext E52).keep K54) hZ hown (own_IBm I0 rfl (by simp)) Sx54 (if_neg (fun q => hc58 (q.2.2 _ (by simp)))).symm (Or.inr ⟨_, rfl, rfl⟩)
      · rw [own_ok01, if_neg hc56]
        refine own_go (b := T55.setTop (mkF m 322 #[iv qa, iv qb, iv qc, iv qd, iv qs, iv 3, iv ya, iv yb, iv yc, iv yd, rv b52, .unset, rv b44] [])) (fun t k => XS.ifYes X55.here hx rfl (pc0 := 273) (pc' := 322) rfl (hb hby at_273) rfl ((if0 _ _).trans (teq (rfl : (0 : Int32) = (0 : Int32))).1) (by decide) (by decide) k) ?_
        refine own_go (b := T55.setTop (mkF m 323 #[iv qa, iv qb, iv qc, iv qd, iv qs, iv 3, iv ya, iv yb, iv yc, iv yd, rv b52, .unset, rv b44] [(.int 0)])) (fun t k => XS.iconst X55.here hx rfl (hb hby at_322) k) ?_
        refine own_go (b := T55.setTop (mkF m 325 #[iv qa, iv qb, iv qc, iv qd, iv qs, iv 3, iv ya, iv yb, iv yc, iv yd, rv b52, iv 0, rv b44] [])) (fun t k => XS.istore X55.here hx rfl (hb hby at_323) rfl (l' := #[iv qa, iv qb, iv qc, iv qd, iv qs, iv 3, iv ya, iv yb, iv yc, iv yd, rv b52, iv 0, rv b44]) rfl k) ?_
        exact J325 T55 T54.heap _ s.vm _ (3 : Int32) ya yb yc yd (0 : Int32) b52 ([ya, yb, yc] : List Int32) (rv b44) (own_mono X55 (by decide) (by decide)) e55 N55 Zs54 Ol54 hS0 ((((((Le0.ext E44).wr W46).wr W48).wr W50).ext E52).keep K54) hZ hown (own_IBm I0 rfl (by simp)) Sx54 (if_neg (fun q => hc56 (q.2.2 _ (by simp)))).symm (Or.inr ⟨_, rfl, rfl⟩)
    · obtain ⟨jj, hj, hgt, hlt⟩ := own_first _ hc53
      obtain ⟨_, _, ⟨T61, L61, k61, n61⟩, -, X61, ⟨Lc61, hQ61, l61, y61, z61⟩, st61⟩ := X52.specialBack hx (y := (⟨"java/lang/String", "<init>", "([C)V"⟩ : MethodName)) rfl hown (mvT hZ (hw _ (List.mem_of_getElem? (i := 6) rfl))) (mvT hZ (hw _ (List.mem_of_getElem? (i := 7) rfl))) (mvT hZ (hw _ (List.mem_of_getElem? (i := 8) rfl))) (by decide) (backOf (W := 1) (rm1w l Z a0 hw [] b52 b44 k44 ([ya, yb, yc] : List Int32) jj G1 h52 n0 Zs52 (Nat.le_of_ble_eq_true rfl) (Nat.le_of_ble_eq_true rfl) Ol52 (Vy51.ext E52) Sad Shi Slo hj hlt hgt hrg O2 P5 A52 F_value_b52 F_coder_b52 g_b52) hZ (hw _ (List.mem_of_getElem? (i := 8) rfl)) (hw _ (List.mem_of_getElem? (i := 5) rfl)) (by decide) (by decide)) (g := (mkF m 251 #[iv qa, iv qb, iv qc, iv qd, iv qs, iv 3, iv ya, iv yb, iv yc, iv yd, .unset, .unset, rv b44] [(.ref b44), (.ref b52), (.ref b52)])) rfl (by rw [hml]; rfl) (Steps.refl _) (a := b52) (argsL := [(.ref b44)]) (rest := [(.ref b52)]) (lenOf pd_26 rfl) rfl (by show 2 * 0 + _ ≤ _; exact Nat.le_of_eq rfl) (hb hby at_251) (fun _ _ => ⟨rfl, e52, (by decide : 2 + 2 ≤ _), (by decide : 7 + 12 ≤ _)⟩)
      dsimp only [Pt.U, Pt.locs, Pt.cells, Pt.slots] at X61 l61 y61 z61 st61 hQ61
      subst l61 y61 z61
      obtain ⟨rfl, N61q, K61, Sx61⟩ := hQ61
      have Zs61 : n0 ≤ T61.heap.size := Nat.le_trans Zs52 K61.1
      have N61 := Fr.app N50 N61q
      have Ol61 := Ol52.keep K61 (allS g_b52 all0)
      obtain ⟨lq61, X61, N61⟩ : ∃ lq, Stand p l e room_1 (s.setVm s.vm) m #[(.int qa), (.int qb), (.int qc), (.int qd), (.int qs)] below meth c T61 lq 4 19 ∧ Fr n0 lq := ⟨_, X61, N61⟩
      refine own_tr (b := T61.setTop (mkF m 254 #[iv qa, iv qb, iv qc, iv qd, iv qs, iv 3, iv ya, iv yb, iv yc, iv yd, .unset, .unset, rv b44] [(.ref b52)])) st61 ?_
      refine own_go (b := T61.setTop (mkF m 256 #[iv qa, iv qb, iv qc, iv qd, iv qs, iv 3, iv ya, iv yb, iv yc, iv yd, rv b52, .unset, rv b44] [])) (fun t k => XS.astore X61.here hx rfl (hb hby at_254) rfl rfl (l' := #[iv qa, iv qb, iv qc, iv qd, iv qs, iv 3, iv ya, iv yb, iv yc, iv yd, rv b52, .unset, rv b44]) rfl k) ?_
      refine own_go (b := T61.setTop (mkF m 258 #[iv qa, iv qb, iv qc, iv qd, iv qs, iv 3, iv ya, iv yb, iv yc, iv yd, rv b52, .unset, rv b44] [(.int 3)])) (fun t k => XS.iload X61.here hx rfl (hb hby at_256) rfl  k) ?_
      refine own_go (b := T61.setTop (mkF m 259 #[iv qa, iv qb, iv qc, iv qd, iv qs, iv 3, iv ya, iv yb, iv yc, iv yd, rv b52, .unset, rv b44] [(.int 1), (.int 3)])) (fun t k => XS.iconst X61.here hx rfl (hb hby at_258) k) ?_
      refine own_go (b := T61.setTop (mkF m 262 #[iv qa, iv qb, iv qc, iv qd, iv qs, iv 3, iv ya, iv yb, iv yc, iv yd, rv b52, .unset, rv b44] [])) (fun t k => XS.icmpNo X61.here hx rfl (hb hby at_259) rfl (flt (by decide : ¬ ((3 : Int32) < (1 : Int32)))).1 k) ?_
      refine own_go (b := T61.setTop (mkF m 264 #[iv qa, iv qb, iv qc, iv qd, iv qs, iv 3, iv ya, iv yb, iv yc, iv yd, rv b52, .unset, rv b44] [(.int 3)])) (fun t k => XS.iload X61.here hx rfl (hb hby at_262) rfl  k) ?_
      refine own_go (b := T61.setTop (mkF m 265 #[iv qa, iv qb, iv qc, iv qd, iv qs, iv 3, iv ya, iv yb, iv yc, iv yd, rv b52, .unset, rv b44] [(.int 1), (.int 3)])) (fun t k => XS.iconst X61.here hx rfl (hb hby at_264) k) ?_
      refine own_go (b := T61.setTop (mkF m 268 #[iv qa, iv qb, iv qc, iv qd, iv qs, iv 3, iv ya, iv yb, iv yc, iv yd, rv b52, .unset, rv b44] [])) (fun t k => XS.icmpNo X61.here hx rfl (hb hby at_265) rfl (flt (by decide : ¬ ((3 : Int32) < (1 : Int32)))).1 k) ?_
      refine own_go (b := T61.setTop (mkF m 270 #[iv qa, iv qb, iv qc, iv qd, iv qs, iv 3, iv ya, iv yb, iv yc, iv yd, rv b52, .unset, rv b44] [(.int ya)])) (fun t k => XS.iload X61.here hx rfl (hb hby at_268) rfl  k) ?_
      obtain ⟨_, _, ⟨T62, L62, k62, n62⟩, -, X62, ⟨Lc62, hQ62, l62, y62, z62⟩, st62⟩ := Jvm.LawKit.callS X61 hx (y := (⟨"com/example/fault/fault/TraceIdParsePinLaw", "ok", "(C)Z"⟩ : MethodName)) hown (mvT hZ (hw _ (List.mem_of_getElem? (i := 71) rfl))) (mvT hZ (hw _ (List.mem_of_getElem? (i := 72) rfl))) (mvT hZ (hw _ (List.mem_of_getElem? (i := 73) rfl))) (mvT hZ (hw _ (List.mem_of_getElem? (i := 74) rfl))) (by decide) (backOf (W := 0) (rm14 l Z a0 hw [] ya  T61.heap n0 Zs61 ) hZ (hw _ (List.mem_of_getElem? (i := 74) rfl)) (hw _ (List.mem_of_getElem? (i := 73) rfl)) (by decide) (by decide)) (g := (mkF m 270 #[iv qa, iv qb, iv qc, iv qd, iv qs, iv 3, iv ya, iv yb, iv yc, iv yd, rv b52, .unset, rv b44] [(.int ya)])) rfl (by rw [hml]; rfl) (argsL := [(.int ya)]) (rest := []) (lenOf pd_27 rfl) rfl (by show 2 * 0 + _ ≤ _; exact Nat.le_of_eq rfl) (hb hby at_270) (fun _ _ => ⟨rfl, rfl, (by decide : 4 + 0 ≤ _), (by decide : 19 + 0 ≤ _)⟩)
      dsimp only [Pt.U, Pt.locs, Pt.cells, Pt.slots] at X62 l62 y62 z62 st62 hQ62
      subst l62 y62 z62
      obtain ⟨rfl, N62q, e62⟩ := hQ62
      have N62 := Fr.app N61 N62q
      obtain ⟨lq62, X62, N62⟩ : ∃ lq, Stand p l e room_1 (s.setVm s.vm) m #[(.int qa), (.int qb), (.int qc), (.int qd), (.int qs)] below meth c T62 lq 4 19 ∧ Fr n0 lq := ⟨_, X62, N62⟩
      refine own_go (b := T62.setTop (mkF m 273 #[iv qa, iv qb, iv qc, iv qd, iv qs, iv 3, iv ya, iv yb, iv yc, iv yd, rv b52, .unset, rv b44] [(.int (own_ok01 ya))])) st62 ?_
      by_cases hc63 : own_okP ya
      · rw [own_ok01, if_pos hc63]
        refine own_go (b := T62.setTop (mkF m 276 #[iv qa, iv qb, iv qc, iv qd, iv qs, iv 3, iv ya, iv yb, iv yc, iv yd, rv b52, .unset, rv b44] [])) (fun t k => XS.ifNo X62.here hx rfl (hb hby at_273) rfl ((if0 _ _).trans (feq (by decide : ¬ ((1 : Int32) = (0 : Int32)))).1) k) ?_
        refine own_go (b := T62.setTop (mkF m 278 #[iv qa, iv qb, iv qc, iv qd, iv qs, iv 3, iv ya, iv yb, iv yc, iv yd, rv b52, .unset, rv b44] [(.int 3)])) (fun t k => XS.iload X62.here hx rfl (hb hby at_276) rfl  k) ?_
        refine own_go (b := T62.setTop (mkF m 279 #[iv qa, iv qb, iv qc, iv qd, iv qs, iv 3, iv ya, iv yb, iv yc, iv yd, rv b52, .unset, rv b44] [(.int 2), (.int 3)])) (fun t k => XS.iconst X62.here hx rfl (hb hby at_278) k) ?_
        refine own_go (b := T62.setTop (mkF m 282 #[iv qa, iv qb, iv qc, iv qd, iv qs, iv 3, iv ya, iv yb, iv yc, iv yd, rv b52, .unset, rv b44] [])) (fun t k => XS.icmpNo X62.here hx rfl (hb hby at_279) rfl (flt (by decide : ¬ ((3 : Int32) < (2 : Int32)))).1 k) ?_
        refine own_go (b := T62.setTop (mkF m 284 #[iv qa, iv qb, iv qc, iv qd, iv qs, iv 3, iv ya, iv yb, iv yc, iv yd, rv b52, .unset, rv b44] [(.int yb)])) (fun t k => XS.iload X62.here hx rfl (hb hby at_282) rfl  k) ?_
        obtain ⟨_, _, ⟨T64, L64, k64, n64⟩, -, X64, ⟨Lc64, hQ64, l64, y64, z64⟩, st64⟩ := Jvm.LawKit.callS X62 hx (y := (⟨"com/example/fault/fault/TraceIdParsePinLaw", "ok", "(C)Z"⟩ : MethodName)) hown (mvT hZ (hw _ (List.mem_of_getElem? (i := 71) rfl))) (mvT hZ (hw _ (List.mem_of_getElem? (i := 72) rfl))) (mvT hZ (hw _ (List.mem_of_getElem? (i := 73) rfl))) (mvT hZ (hw _ (List.mem_of_getElem? (i := 74) rfl))) (by decide) (backOf (W := 0) (rm14 l Z a0 hw [] yb  T61.heap n0 Zs61 ) hZ (hw _ (List.mem_of_getElem? (i := 74) rfl)) (hw _ (List.mem_of_getElem? (i := 73) rfl)) (by decide) (by decide)) (g := (mkF m 284 #[iv qa, iv qb, iv qc, iv qd, iv qs, iv 3, iv ya, iv yb, iv yc, iv yd, rv b52, .unset, rv b44] [(.int yb)])) rfl (by rw [hml]; rfl) (argsL := [(.int yb)]) (rest := []) (lenOf pd_27 rfl) rfl (by show 2 * 0 + _ ≤ _; exact Nat.le_of_eq rfl) (hb hby at_284) (fun _ _ => ⟨rfl, e62, (by decide : 4 + 0 ≤ _), (by decide : 19 + 0 ≤ _)⟩)
        dsimp only [Pt.U, Pt.locs, Pt.cells, Pt.slots] at X64 l64 y64 z64 st64 hQ64
        subst l64 y64 z64
        obtain ⟨rfl, N64q, e64⟩ := hQ64
        have N64 := Fr.app N62 N64q
        obtain ⟨lq64, X64, N64⟩ : ∃ lq, Stand p l e room_1 (s.setVm s.vm) m #[(.int qa), (.int qb), (.int qc), (.int qd), (.int qs)] below meth c T64 lq 4 19 ∧ Fr n0 lq := ⟨_, X64, N64⟩
        refine own_go (b := T64.setTop (mkF m 287 #[iv qa, iv qb, iv qc, iv qd, iv qs, iv 3, iv ya, iv yb, iv yc, iv yd, rv b52, .unset, rv b44] [(.int (own_ok01 yb))])) st64 ?_
        by_cases hc65 : own_okP yb
        · rw [own_ok01, if_pos hc65]
          refine own_go (b := T64.setTop (mkF m 290 #[iv qa, iv qb, iv qc, iv qd, iv qs, iv 3, iv ya, iv yb, iv yc, iv yd, rv b52, .unset, rv b44] [])) (fun t k => XS.ifNo X64.here hx rfl (hb hby at_287) rfl ((if0 _ _).trans (feq (by decide : ¬ ((1 : Int32) = (0 : Int32)))).1) k) ?_
          refine own_go (b := T64.setTop (mkF m 292 #[iv qa, iv qb, iv qc, iv qd, iv qs, iv 3, iv ya, iv yb, iv yc, iv yd, rv b52, .unset, rv b44] [(.int 3)])) (fun t k => XS.iload X64.here hx rfl (hb hby at_290) rfl  k) ?_
          refine own_go (b := T64.setTop (mkF m 293 #[iv qa, iv qb, iv qc, iv qd, iv qs, iv 3, iv ya, iv yb, iv yc, iv yd, rv b52, .unset, rv b44] [(.int 3), (.int 3)])) (fun t k => XS.iconst X64.here hx rfl (hb hby at_292) k) ?_
          refine own_go (b := T64.setTop (mkF m 296 #[iv qa, iv qb, iv qc, iv qd, iv qs, iv 3, iv ya, iv yb, iv yc, iv yd, rv b52, .unset, rv b44] [])) (fun t k => XS.icmpNo X64.here hx rfl (hb hby at_293) rfl (flt (by decide : ¬ ((3 : Int32) < (3 : Int32)))).1 k) ?_
          refine own_go (b := T64.setTop (mkF m 298 #[iv qa, iv qb, iv qc, iv qd, iv qs, iv 3, iv ya, iv yb, iv yc, iv yd, rv b52, .unset, rv b44] [(.int yc)])) (fun t k => XS.iload X64.here hx rfl (hb hby at_296) rfl  k) ?_
          obtain ⟨_, _, ⟨T66, L66, k66, n66⟩, -, X66, ⟨Lc66, hQ66, l66, y66, z66⟩, st66⟩ := Jvm.LawKit.callS X64 hx (y := (⟨"com/example/fault/fault/TraceIdParsePinLaw", "ok", "(C)Z"⟩ : MethodName)) hown (mvT hZ (hw _ (List.mem_of_getElem? (i := 71) rfl))) (mvT hZ (hw _ (List.mem_of_getElem? (i := 72) rfl))) (mvT hZ (hw _ (List.mem_of_getElem? (i := 73) rfl))) (mvT hZ (hw _ (List.mem_of_getElem? (i := 74) rfl))) (by decide) (backOf (W := 0) (rm14 l Z a0 hw [] yc  T61.heap n0 Zs61 ) hZ (hw _ (List.mem_of_getElem? (i := 74) rfl)) (hw _ (List.mem_of_getElem? (i := 73) rfl)) (by decide) (by decide)) (g := (mkF m 298 #[iv qa, iv qb, iv qc, iv qd, iv qs, iv 3, iv ya, iv yb, iv yc, iv yd, rv b52, .unset, rv b44] [(.int yc)])) rfl (by rw [hml]; rfl) (argsL := [(.int yc)]) (rest := []) (lenOf pd_27 rfl) rfl (by show 2 * 0 + _ ≤ _; exact Nat.le_of_eq rfl) (hb hby at_298) (fun _ _ => ⟨rfl, e64, (by decide : 4 + 0 ≤ _), (by decide : 19 + 0 ≤ _)⟩)
          dsimp only [Pt.U, Pt.locs, Pt.cells, Pt.slots] at X66 l66 y66 z66 st66 hQ66
          subst l66 y66 z66
          obtain ⟨rfl, N66q, e66⟩ := hQ66
          have N66 := Fr.app N64 N66q
          obtain ⟨lq66, X66, N66⟩ : ∃ lq, Stand p l e room_1 (s.setVm s.vm) m #[(.int qa), (.int qb), (.int qc), (.int qd), (.int qs)] below meth c T66 lq 4 19 ∧ Fr n0 lq := ⟨_, X66, N66⟩
          refine own_go (b := T66.setTop (mkF m 301 #[iv qa, iv qb, iv qc, iv qd, iv qs, iv 3, iv ya, iv yb, iv yc, iv yd, rv b52, .unset, rv b44] [(.int (own_ok01 yc))])) st66 ?_
          by_cases hc67 : own_okP yc
          · rw [own_ok01, if_pos hc67]
            refine own_go (b := T66.setTop (mkF m 304 #[iv qa, iv qb, iv qc, iv qd, iv qs, iv 3, iv ya, iv yb, iv yc, iv yd, rv b52, .unset, rv b44] [])) (fun t k => XS.ifNo X66.here hx rfl (hb hby at_301) rfl ((if0 _ _).trans (feq (by decide : ¬ ((1 : Int32) = (0 : Int32)))).1) k) ?_
            refine own_go (b := T66.setTop (mkF m 306 #[iv qa, iv qb, iv qc, iv qd, iv qs, iv 3, iv ya, iv yb, iv yc, iv yd, rv b52, .unset, rv b44] [(.int 3)])) (fun t k => XS.iload X66.here hx rfl (hb hby at_304) rfl  k) ?_
            refine own_go (b := T66.setTop (mkF m 307 #[iv qa, iv qb, iv qc, iv qd, iv qs, iv 3, iv ya, iv yb, iv yc, iv yd, rv b52, .unset, rv b44] [(.int 4), (.int 3)])) (fun t k => XS.iconst X66.here hx rfl (hb hby at_306) k) ?_
            refine own_go (b := T66.setTop (mkF m 318 #[iv qa, iv qb, iv qc, iv qd, iv qs, iv 3, iv ya, iv yb, iv yc, iv yd, rv b52, .unset, rv b44] [])) (fun t k => XS.icmpYes X66.here hx rfl (pc0 := 307) (pc' := 318) rfl (hb hby at_307) rfl (tlt (by decide : (3 : Int32) < (4 : Int32))).1 (by decide) (by decide) k) ?_
            refine own_go (b := T66.setTop (mkF m 319 #[iv qa, iv qb, iv qc, iv qd, iv qs, iv 3, iv ya, iv yb, iv yc, iv yd, rv b52, .unset, rv b44] [(.int 1)])) (fun t k => XS.iconst X66.here hx rfl (hb hby at_318) k) ?_
            refine own_go (b := T66.setTop (mkF m 323 #[iv qa, iv qb, iv qc, iv qd, iv qs, iv 3, iv ya, iv yb, iv yc, iv yd, rv b52, .unset, rv b44] [(.int 1)])) (fun t k => XS.goto X66.here hx rfl (pc0 := 319) (pc' := 323) rfl (hb hby at_319) (by decide) (by decide) k) ?_
            refine own_go (b := T66.setTop (mkF m 325 #[iv qa, iv qb, iv qc, iv qd, iv qs, iv 3, iv ya, iv yb, iv yc, iv yd, rv b52, iv 1, rv b44] [])) (fun t k => XS.istore X66.here hx rfl (hb hby at_323) rfl (l' := #[iv qa, iv qb, iv qc, iv qd, iv qs, iv 3, iv ya, iv yb, iv yc, iv yd, rv b52, iv 1, rv b44]) rfl k) ?_
            exact J325 T66 T61.heap _ s.vm _ (3 : Int32) ya yb yc yd (1 : Int32) b52 ([ya, yb, yc] : List Int32) (rv b44) (own_mono X66 (by decide) (by decide)) e66 N66 Zs61 Ol61 hS0 ((((((Le0.ext E44).wr W46).wr W48).wr W50).ext E52).keep K61) hZ hown (own_IBm I0 rfl (by simp)) Sx61 (if_pos ⟨Nat.le_of_ble_eq_true rfl, Nat.le_of_ble_eq_true rfl, by intro z hz; simp only [List.mem_cons, List.not_mem_nil, or_false] at hz; rcases hz with rfl | rfl | rfl; exact hc63; exact hc65; exact hc67⟩).symm (Or.inr ⟨_, rfl, rfl⟩)
          · rw [own_ok01, if_neg hc67]
            refine own_go (b := T66.setTop (mkF m 322 #[iv qa, iv qb, iv qc, iv qd, iv qs, iv 3, iv ya, iv yb, iv yc, iv yd, rv b52, .unset, rv b44] [])) (fun t k => XS.ifYes X66.here hx rfl (pc0 := 301) (pc' := 322) rfl (hb hby at_301) rfl ((if0 _ _).trans (teq (rfl : (0 : Int32) = (0 : Int32))).1) (by decide) (by decide) k) ?_
            refine own_go (b := T66.setTop (mkF m 323 #[iv qa, iv qb, iv qc, iv qd, iv qs, iv 3, iv ya, iv yb, iv yc, iv yd, rv b52, .unset, rv b44] [(.int 0)])) (fun t k => XS.iconst X66.here hx rfl (hb hby at_322) k) ?_
            refine own_go (b := T66.setTop (mkF m 325 #[iv qa, iv qb, iv qc, iv qd, iv qs, iv 3, iv ya, iv yb, iv yc, iv yd, rv b52, iv 0, rv b44] [])) (fun t k => XS.istore X66.here hx rfl (hb hby at_323) rfl (l' := #[iv qa, iv qb, iv qc, iv qd, iv qs, iv 3, iv ya, iv yb, iv yc, iv yd, rv b52, iv 0, rv b44]) rfl k) ?_
            exact J325 T66 T61.heap _ s.vm _ (3 : Int32) ya yb yc yd (0 : Int32) b52 ([ya, yb, yc] : List Int32) (rv b44) (own_mono X66 (by decide) (by decide)) e66 N66 Zs61 Ol61 hS0 ((((((Le0.ext E44).wr W46).wr W48).wr W50).ext E52).keep K61) hZ hown (own_IBm I0 rfl (by simp)) Sx61 (if_neg (fun q => hc67 (q.2.2 _ (by simp)))).symm (Or.inr ⟨_, rfl, rfl⟩)
        · rw [own_ok01, if_neg hc65]
          refine own_go (b := T64.setTop (mkF m 322 #[iv qa, iv qb, iv qc, iv qd, iv qs, iv 3, iv ya, iv yb, iv yc, iv yd, rv b52, .unset, rv b44] [])) (fun t k => XS.ifYes X64.here hx rfl (pc0 := 287) (pc' := 322) rfl (hb hby at_287) rfl ((if0 _ _).trans (teq (rfl : (0 : Int32) = (0 : Int32))).1) (by decide) (by decide) k) ?_
          refine own_go (b := T64.setTop (mkF m 323 #[iv qa, iv qb, iv qc, iv qd, iv qs, iv 3, iv ya, iv yb, iv yc, iv yd, rv b52, .unset, rv b44] [(.int 0)])) (fun t k => XS.iconst X64.here hx rfl (hb hby at_322) k) ?_
          refine own_go (b := T64.setTop (mkF m 325 #[iv qa, iv qb, iv qc, iv qd, iv qs, iv 3, iv ya, iv yb, iv yc, iv yd, rv b52, iv 0, rv b44] [])) (fun t k => XS.istore X64.here hx rfl (hb hby at_323) rfl (l' := #[iv qa, iv qb, iv qc, iv qd, iv qs, iv 3, iv ya, iv yb, iv yc, iv yd, rv b52, iv 0, rv b44]) rfl k) ?_
          exact J325 T64 T61.heap _ s.vm _ (3 : Int32) ya yb yc yd (0 : Int32) b52 ([ya, yb, yc] : List Int32) (rv b44) (own_mono X64 (by decide) (by decide)) e64 N64 Zs61 Ol61 hS0 ((((((Le0.ext E44).wr W46).wr W48).wr W50).ext E52).keep K61) hZ hown (own_IBm I0 rfl (by simp)) Sx61 (if_neg (fun q => hc65 (q.2.2 _ (by simp)))).symm (Or.inr ⟨_, rfl, rfl⟩)
      · rw [own_ok01, if_neg hc63]
        refine own_go (b := T62.setTop (mkF m 322 #[iv qa, iv qb, iv qc, iv qd, iv qs, iv 3, iv ya, iv yb, iv yc, iv yd, rv b52, .unset, rv b44] [])) (fun t k => XS.ifYes X62.here hx rfl (pc0 := 273) (pc' := 322) rfl (hb hby at_273) rfl ((if0 _ _).trans (teq (rfl : (0 : Int32) = (0 : Int32))).1) (by decide) (by decide) k) ?_
        refine own_go (b := T62.setTop (mkF m 323 #[iv qa, iv qb, iv qc, iv qd, iv qs, iv 3, iv ya, iv yb, iv yc, iv yd, rv b52, .unset, rv b44] [(.int 0)])) (fun t k => XS.iconst X62.here hx rfl (hb hby at_322) k) ?_
        refine own_go (b := T62.setTop (mkF m 325 #[iv qa, iv qb, iv qc, iv qd, iv qs, iv 3, iv ya, iv yb, iv yc, iv yd, rv b52, iv 0, rv b44] [])) (fun t k => XS.istore X62.here hx rfl (hb hby at_323) rfl (l' := #[iv qa, iv qb, iv qc, iv qd, iv qs, iv 3, iv ya, iv yb, iv yc, iv yd, rv b52, iv 0, rv b44]) rfl k) ?_
        exact J325 T62 T61.heap _ s.vm _ (3 : Int32) ya yb yc yd (0 : Int32) b52 ([ya, yb, yc] : List Int32) (rv b44) (own_mono X62 (by decide) (by decide)) e62 N62 Zs61 Ol61 hS0 ((((((Le0.ext E44).wr W46).wr W48).wr W50).ext E52).keep K61) hZ hown (own_IBm I0 rfl (by simp)) Sx61 (if_neg (fun q => hc63 (q.2.2 _ (by simp)))).symm (Or.inr ⟨_, rfl, rfl⟩)
  | 4, _, hX10 =>
    replace hX10 : ((qs &&& (2147483647 : Int32)) % (8 : Int32)) = (4 : Int32) := hX10
    rw [hX10]
    refine own_go (b := s₁.setTop (mkF m 40 #[iv qa, iv qb, iv qc, iv qd, iv qs, iv 4, iv ya, iv yb, iv yc, iv yd, .unset, .unset, .unset] [(.int 4)])) (fun t k => XS.iload X0.here hx rfl (hb hby at_38) rfl  k) ?_
    refine own_go (b := s₁.setTop (mkF m 41 #[iv qa, iv qb, iv qc, iv qd, iv qs, iv 4, iv ya, iv yb, iv yc, iv yd, .unset, .unset, .unset] [(.int 5), (.int 4)])) (fun t k => XS.iconst X0.here hx rfl (hb hby at_40) k) ?_
    refine own_go (b := s₁.setTop (mkF m 53 #[iv qa, iv qb, iv qc, iv qd, iv qs, iv 4, iv ya, iv yb, iv yc, iv yd, .unset, .unset, .unset] [])) (fun t k => XS.icmpYes X0.here hx rfl (pc0 := 41) (pc' := 53) rfl (hb hby at_41) rfl (feq (by decide : ¬ ((4 : Int32) = (5 : Int32)))).2 (by decide) (by decide) k) ?_
    refine own_go (b := s₁.setTop (mkF m 55 #[iv qa, iv qb, iv qc, iv qd, iv qs, iv 4, iv ya, iv yb, iv yc, iv yd, .unset, .unset, .unset] [(.int 4)])) (fun t k => XS.iload X0.here hx rfl (hb hby at_53) rfl  k) ?_
    refine own_go (b := s₁.setTop (mkF m 57 #[iv qa, iv qb, iv qc, iv qd, iv qs, iv 4, iv ya, iv yb, iv yc, iv yd, .unset, .unset, .unset] [(.int 6), (.int 4)])) (fun t k => XS.bipush X0.here hx rfl (hb hby at_55) k) ?_
    refine own_go (b := s₁.setTop (mkF m 94 #[iv qa, iv qb, iv qc, iv qd, iv qs, iv 4, iv ya, iv yb, iv yc, iv yd, .unset, .unset, .unset] [])) (fun t k => XS.icmpYes X0.here hx rfl (pc0 := 57) (pc' := 94) rfl (hb hby at_57) rfl (feq (by decide : ¬ ((4 : Int32) = (6 : Int32)))).2 (by decide) (by decide) k) ?_
    refine own_go (b := s₁.setTop (mkF m 96 #[iv qa, iv qb, iv qc, iv qd, iv qs, iv 4, iv ya, iv yb, iv yc, iv yd, .unset, .unset, .unset] [(.int 4)])) (fun t k => XS.iload X0.here hx rfl (hb hby at_94) rfl  k) ?_
    refine own_go (b := s₁.setTop (mkF m 98 #[iv qa, iv qb, iv qc, iv qd, iv qs, iv 4, iv ya, iv yb, iv yc, iv yd, .unset, .unset, .unset] [(.int 7), (.int 4)])) (fun t k => XS.bipush X0.here hx rfl (hb hby at_96) k) ?_
    refine own_go (b := s₁.setTop (mkF m 135 #[iv qa, iv qb, iv qc, iv qd, iv qs, iv 4, iv ya, iv yb, iv yc, iv yd, .unset, .unset, .unset] [])) (fun t k => XS.icmpYes X0.here hx rfl (pc0 := 98) (pc' := 135) rfl (hb hby at_98) rfl (feq (by decide : ¬ ((4 : Int32) = (7 : Int32)))).2 (by decide) (by decide) k) ?_
    refine own_go (b := s₁.setTop (mkF m 137 #[iv qa, iv qb, iv qc, iv qd, iv qs, iv 4, iv ya, iv yb, iv yc, iv yd, .unset, .unset, .unset] [(.int 4)])) (fun t k => XS.iload X0.here hx rfl (hb hby at_135) rfl  k) ?_
    refine own_go (b := s₁.setTop (mkF m 148 #[iv qa, iv qb, iv qc, iv qd, iv qs, iv 4, iv ya, iv yb, iv yc, iv yd, .unset, .unset, .unset] [])) (fun t k => XS.ifYes X0.here hx rfl (pc0 := 137) (pc' := 148) rfl (hb hby at_137) rfl ((if0 _ _).trans (feq (by decide : ¬ ((4 : Int32) = (0 : Int32)))).2) (by decide) (by decide) k) ?_
    refine own_go (b := s₁.setTop (mkF m 150 #[iv qa, iv qb, iv qc, iv qd, iv qs, iv 4, iv ya, iv yb, iv yc, iv yd, .unset, .unset, .unset] [(.int 4)])) (fun t k => XS.iload X0.here hx rfl (hb hby at_148) rfl  k) ?_
    refine own_go (b := s₁.setTop (mkF m 151 #[iv qa, iv qb, iv qc, iv qd, iv qs, iv 4, iv ya, iv yb, iv yc, iv yd, .unset, .unset, .unset] [(.int 1), (.int 4)])) (fun t k => XS.iconst X0.here hx rfl (hb hby at_150) k) ?_
    refine own_go (b := s₁.setTop (mkF m 167 #[iv qa, iv qb, iv qc, iv qd, iv qs, iv 4, iv ya, iv yb, iv yc, iv yd, .unset, .unset, .unset] [])) (fun t k => XS.icmpYes X0.here hx rfl (pc0 := 151) (pc' := 167) rfl (hb hby at_151) rfl (feq (by decide : ¬ ((4 : Int32) = (1 : Int32)))).2 (by decide) (by decide) k) ?_
    refine own_go (b := s₁.setTop (mkF m 169 #[iv qa, iv qb, iv qc, iv qd, iv qs, iv 4, iv ya, iv yb, iv yc, iv yd, .unset, .unset, .unset] [(.int 4)])) (fun t k => XS.iload X0.here hx rfl (hb hby at_167) rfl  k) ?_
    refine own_go (b := s₁.setTop (mkF m 170 #[iv qa, iv qb, iv qc, iv qd, iv qs, iv 4, iv ya, iv yb, iv yc, iv yd, .unset, .unset, .unset] [(.int 2), (.int 4)])) (fun t k => XS.iconst X0.here hx rfl (hb hby at_169) k) ?_
    refine own_go (b := s₁.setTop (mkF m 191 #[iv qa, iv qb, iv qc, iv qd, iv qs, iv 4, iv ya, iv yb, iv yc, iv yd, .unset, .unset, .unset] [])) (fun t k => XS.icmpYes X0.here hx rfl (pc0 := 170) (pc' := 191) rfl (hb hby at_170) rfl (feq (by decide : ¬ ((4 : Int32) = (2 : Int32)))).2 (by decide) (by decide) k) ?_
    refine own_go (b := s₁.setTop (mkF m 193 #[iv qa, iv qb, iv qc, iv qd, iv qs, iv 4, iv ya, iv yb, iv yc, iv yd, .unset, .unset, .unset] [(.int 4)])) (fun t k => XS.iload X0.here hx rfl (hb hby at_191) rfl  k) ?_
    refine own_go (b := s₁.setTop (mkF m 194 #[iv qa, iv qb, iv qc, iv qd, iv qs, iv 4, iv ya, iv yb, iv yc, iv yd, .unset, .unset, .unset] [(.int 3), (.int 4)])) (fun t k => XS.iconst X0.here hx rfl (hb hby at_193) k) ?_
    refine own_go (b := s₁.setTop (mkF m 220 #[iv qa, iv qb, iv qc, iv qd, iv qs, iv 4, iv ya, iv yb, iv yc, iv yd, .unset, .unset, .unset] [])) (fun t k => XS.icmpYes X0.here hx rfl (pc0 := 194) (pc' := 220) rfl (hb hby at_194) rfl (feq (by decide : ¬ ((4 : Int32) = (3 : Int32)))).2 (by decide) (by decide) k) ?_
    refine own_go (b := s₁.setTop (mkF m 221 #[iv qa, iv qb, iv qc, iv qd, iv qs, iv 4, iv ya, iv yb, iv yc, iv yd, .unset, .unset, .unset] [(.int 4)])) (fun t k => XS.iconst X0.here hx rfl (hb hby at_220) k) ?_
    obtain ⟨T68, h68, k68, X68, e68, E68, A68, st68⟩ := newP X0 hx hZ (hw _ (List.mem_of_getElem? (i := 2) rfl)) e0 (g := (mkF m 221 #[iv qa, iv qb, iv qc, iv qd, iv qs, iv 4, iv ya, iv yb, iv yc, iv yd, .unset, .unset, .unset] [(.int 4)])) rfl (hb hby at_221) rfl (by decide) (cap := 4) (by decide) (by decide) (by decide) (by decide)
    obtain ⟨b68, g68⟩ : ∃ z, z = h0.size := ⟨_, rfl⟩
    rw [← g68] at A68 st68
    have g_b68 : n0 ≤ b68 := Nat.le_trans Z0 (Nat.le_of_eq g68.symm)
    have Zs68 : n0 ≤ h68.size := Nat.le_trans Z0 E68.1
    have Ol68 := Od.ext E68
    have V_b68 : Arv Z h68 b68 k68 .char (4 : Int32) [(.int (0 : Int32)), (.int (0 : Int32)), (.int (0 : Int32)), (.int (0 : Int32))] (.int (0 : Int32)) := (Arv.new A68 (by decide)).pad (pad_rep [] (.int (0 : Int32)) 4)
    refine own_go (b := T68.setTop (mkF m 223 #[iv qa, iv qb, iv qc, iv qd, iv qs, iv 4, iv ya, iv yb, iv yc, iv yd, .unset, .unset, .unset] [(.ref b68)])) st68 ?_
    refine own_go (b := T68.setTop (mkF m 224 #[iv qa, iv qb, iv qc, iv qd, iv qs, iv 4, iv ya, iv yb, iv yc, iv yd, .unset, .unset, .unset] [(.ref b68), (.ref b68)])) (fun t k => XS.dup X68.here hx rfl (hb hby at_223) rfl rfl k) ?_
    refine own_go (b := T68.setTop (mkF m 225 #[iv qa, iv qb, iv qc, iv qd, iv qs, iv 4, iv ya, iv yb, iv yc, iv yd, .unset, .unset, .unset] [(.int 0), (.ref b68), (.ref b68)])) (fun t k => XS.iconst X68.here hx rfl (hb hby at_224) k) ?_
    refine own_go (b := T68.setTop (mkF m 227 #[iv qa, iv qb, iv qc, iv qd, iv qs, iv 4, iv ya, iv yb, iv yc, iv yd, .unset, .unset, .unset] [(.int ya), (.int 0), (.ref b68), (.ref b68)])) (fun t k => XS.iload X68.here hx rfl (hb hby at_225) rfl  k) ?_
    obtain ⟨cl69, Ar69, qc69, Sz69, Ng69, Hs69, Ft69⟩ := id V_b68
    have hin69 : ¬ ((0 : Int32) < 0 ∨ cl69.slots.size ≤ ((0 : Int32)).toNatClampNeg) := inb_of Sz69 ⟨by decide, by decide⟩
    obtain ⟨T70, h70, X70, e70, W70, st70⟩ := stC X68 hx hZ e68 Ar69 (j := (0 : Int32)) hin69 (g := (mkF m 227 #[iv qa, iv qb, iv qc, iv qd, iv qs, iv 4, iv ya, iv yb, iv yc, iv yd, .unset, .unset, .unset] [(.int ya), (.int 0), (.ref b68), (.ref b68)])) rfl rfl (hb hby at_227)
    have V_b68_70 : Arv Z h70 b68 k68 .char (4 : Int32) [(.int (nar .char ya)), (.int 0), (.int 0), (.int 0)] (.int (0 : Int32)) := Arv.set Ar69 qc69 Sz69 Ng69 Hs69 Ft69 (fits_nar_char _) W70 0 rfl (Nat.le_of_ble_eq_true rfl)
    have Zs70 : n0 ≤ h70.size := Nat.le_trans Zs68 (Keep.of_wr W70).1
    have N70 := Fr.snoc X70 N0 g_b68
    have Ol70 := Ol68.wr W70 g_b68
    refine own_go (b := T70.setTop (mkF m 228 #[iv qa, iv qb, iv qc, iv qd, iv qs, iv 4, iv ya, iv yb, iv yc, iv yd, .unset, .unset, .unset] [(.ref b68)])) st70 ?_
    refine own_go (b := T70.setTop (mkF m 229 #[iv qa, iv qb, iv qc, iv qd, iv qs, iv 4, iv ya, iv yb, iv yc, iv yd, .unset, .unset, .unset] [(.ref b68), (.ref b68)])) (fun t k => XS.dup X70.here hx rfl (hb hby at_228) rfl rfl k) ?_
    refine own_go (b := T70.setTop (mkF m 230 #[iv qa, iv qb, iv qc, iv qd, iv qs, iv 4, iv ya, iv yb, iv yc, iv yd, .unset, .unset, .unset] [(.int 1), (.ref b68), (.ref b68)])) (fun t k => XS.iconst X70.here hx rfl (hb hby at_229) k) ?_
    refine own_go (b := T70.setTop (mkF m 232 #[iv qa, iv qb, iv qc, iv qd, iv qs, iv 4, iv ya, iv yb, iv yc, iv yd, .unset, .unset, .unset] [(.int yb), (.int 1), (.ref b68), (.ref b68)])) (fun t k => XS.iload X70.here hx rfl (hb hby at_230) rfl  k) ?_
    obtain ⟨cl71, Ar71, qc71, Sz71, Ng71, Hs71, Ft71⟩ := id V_b68_70
    have hin71 : ¬ ((1 : Int32) < 0 ∨ cl71.slots.size ≤ ((1 : Int32)).toNatClampNeg) := inb_of Sz71 ⟨by decide, by decide⟩
    obtain ⟨T72, h72, X72, e72, W72, st72⟩ := stC X70 hx hZ e70 Ar71 (j := (1 : Int32)) hin71 (g := (mkF m 232 #[iv qa, iv qb, iv qc, iv qd, iv qs, iv 4, iv ya, iv yb, iv yc, iv yd, .unset, .unset, .unset] [(.int yb), (.int 1), (.ref b68), (.ref b68)])) rfl rfl (hb hby at_232)
    have V_b68_72 : Arv Z h72 b68 k68 .char (4 : Int32) [(.int (nar .char ya)), (.int (nar .char yb)), (.int 0), (.int 0)] (.int (0 : Int32)) := Arv.set Ar71 qc71 Sz71 Ng71 Hs71 Ft71 (fits_nar_char _) W72 1 rfl (Nat.le_of_ble_eq_true rfl)
    have Zs72 : n0 ≤ h72.size := Nat.le_trans Zs70 (Keep.of_wr W72).1
    have N72 := Fr.snoc X72 N70 g_b68
    have Ol72 := Ol70.wr W72 g_b68
    refine own_go (b := T72.setTop (mkF m 233 #[iv qa, iv qb, iv qc, iv qd, iv qs, iv 4, iv ya, iv yb, iv yc, iv yd, .unset, .unset, .unset] [(.ref b68)])) st72 ?_
    refine own_go (b := T72.setTop (mkF m 234 #[iv qa, iv qb, iv qc, iv qd, iv qs, iv 4, iv ya, iv yb, iv yc, iv yd, .unset, .unset, .unset] [(.ref b68), (.ref b68)])) (fun t k => XS.dup X72.here hx rfl (hb hby at_233) rfl rfl k) ?_
    refine own_go (b := T72.setTop (mkF m 235 #[iv qa, iv qb, iv qc, iv qd, iv qs, iv 4, iv ya, iv yb, iv yc, iv yd, .unset, .unset, .unset] [(.int 2), (.ref b68), (.ref b68)])) (fun t k => XS.iconst X72.here hx rfl (hb hby at_234) k) ?_
    refine own_go (b := T72.setTop (mkF m 237 #[iv qa, iv qb, iv qc, iv qd, iv qs, iv 4, iv ya, iv yb, iv yc, iv yd, .unset, .unset, .unset] [(.int yc), (.int 2), (.ref b68), (.ref b68)])) (fun t k => XS.iload X72.here hx rfl (hb hby at_235) rfl  k) ?_
    obtain ⟨cl73, Ar73, qc73, Sz73, Ng73, Hs73, Ft73⟩ := id V_b68_72
    have hin73 : ¬ ((2 : Int32) < 0 ∨ cl73.slots.size ≤ ((2 : Int32)).toNatClampNeg) := inb_of Sz73 ⟨by decide, by decide⟩
    obtain ⟨T74, h74, X74, e74, W74, st74⟩ := stC X72 hx hZ e72 Ar73 (j := (2 : Int32)) hin73 (g := (mkF m 237 #[iv qa, iv qb, iv qc, iv qd, iv qs, iv 4, iv ya, iv yb, iv yc, iv yd, .unset, .unset, .unset] [(.int yc), (.int 2), (.ref b68), (.ref b68)])) rfl rfl (hb hby at_237)
    have V_b68_74 : Arv Z h74 b68 k68 .char (4 : Int32) [(.int (nar .char ya)), (.int (nar .char yb)), (.int (nar .char yc)), (.int 0)] (.int (0 : Int32)) := Arv.set Ar73 qc73 Sz73 Ng73 Hs73 Ft73 (fits_nar_char _) W74 2 rfl (Nat.le_of_ble_eq_true rfl)
    have Zs74 : n0 ≤ h74.size := Nat.le_trans Zs72 (Keep.of_wr W74).1
    have N74 := Fr.snoc X74 N72 g_b68
    have Ol74 := Ol72.wr W74 g_b68
    refine own_go (b := T74.setTop (mkF m 238 #[iv qa, iv qb, iv qc, iv qd, iv qs, iv 4, iv ya, iv yb, iv yc, iv yd, .unset, .unset, .unset] [(.ref b68)])) st74 ?_
    refine own_go (b := T74.setTop (mkF m 239 #[iv qa, iv qb, iv qc, iv qd, iv qs, iv 4, iv ya, iv yb, iv yc, iv yd, .unset, .unset, .unset] [(.ref b68), (.ref b68)])) (fun t k => XS.dup X74.here hx rfl (hb hby at_238) rfl rfl k) ?_
    refine own_go (b := T74.setTop (mkF m 240 #[iv qa, iv qb, iv qc, iv qd, iv qs, iv 4, iv ya, iv yb, iv yc, iv yd, .unset, .unset, .unset] [(.int 3), (.ref b68), (.ref b68)])) (fun t k => XS.iconst X74.here hx rfl (hb hby at_239) k) ?_
    refine own_go (b := T74.setTop (mkF m 242 #[iv qa, iv qb, iv qc, iv qd, iv qs, iv 4, iv ya, iv yb, iv yc, iv yd, .unset, .unset, .unset] [(.int yd), (.int 3), (.ref b68), (.ref b68)])) (fun t k => XS.iload X74.here hx rfl (hb hby at_240) rfl  k) ?_
    obtain ⟨cl75, Ar75, qc75, Sz75, Ng75, Hs75, Ft75⟩ := id V_b68_74
    have hin75 : ¬ ((3 : Int32) < 0 ∨ cl75.slots.size ≤ ((3 : Int32)).toNatClampNeg) := inb_of Sz75 ⟨by decide, by decide⟩
    obtain ⟨T76, h76, X76, e76, W76, st76⟩ := stC X74 hx hZ e74 Ar75 (j := (3 : Int32)) hin75 (g := (mkF m 242 #[iv qa, iv qb, iv qc, iv qd, iv qs, iv 4, iv ya, iv yb, iv yc, iv yd, .unset, .unset, .unset] [(.int yd), (.int 3), (.ref b68), (.ref b68)])) rfl rfl (hb hby at_242)
    have V_b68_76 : Arv Z h76 b68 k68 .char (4 : Int32) [(.int (nar .char ya)), (.int (nar .char yb)), (.int (nar .char yc)), (.int (nar .char yd))] (.int (0 : Int32)) := Arv.set Ar75 qc75 Sz75 Ng75 Hs75 Ft75 (fits_nar_char _) W76 3 rfl (Nat.le_of_ble_eq_true rfl)
    have Zs76 : n0 ≤ h76.size := Nat.le_trans Zs74 (Keep.of_wr W76).1
    have N76 := Fr.snoc X76 N74 g_b68
    have Ol76 := Ol74.wr W76 g_b68
    refine own_go (b := T76.setTop (mkF m 243 #[iv qa, iv qb, iv qc, iv qd, iv qs, iv 4, iv ya, iv yb, iv yc, iv yd, .unset, .unset, .unset] [(.ref b68)])) st76 ?_
    refine own_go (b := T76.setTop (mkF m 245 #[iv qa, iv qb, iv qc, iv qd, iv qs, iv 4, iv ya, iv yb, iv yc, iv yd, .unset, .unset, rv b68] [])) (fun t k => XS.astore X76.here hx rfl (hb hby at_243) rfl rfl (l' := #[iv qa, iv qb, iv qc, iv qd, iv qs, iv 4, iv ya, iv yb, iv yc, iv yd, .unset, .unset, rv b68]) rfl k) ?_
    have Vy77 : Arv Z h76 b68 k68 .char (([ya, yb, yc, yd] : List Int32).length.toInt32) (([ya, yb, yc, yd] : List Int32).map Value.int) (.int (0 : Int32)) := by
      have q := V_b68_76
      rw [cya, cyb, cyc, cyd] at q
      exact q
    have hrg : ∀ c ∈ ([ya, yb, yc, yd] : List Int32), ¬ c < 0 ∧ ¬ (65535 : Int32) < c := by
      intro z hz
      simp only [List.mem_cons, List.not_mem_nil, or_false] at hz
      rcases hz with rfl | rfl | rfl | rfl
      · exact rya
      · exact ryb
      · exact ryc
      · exact ryd
    obtain ⟨T78, h78, X78, e78, E78, A78, D78, -, st78⟩ := newO X76 hx hZ hown (hw _ (List.mem_of_getElem? (i := 3) rfl)) (hw _ (List.mem_of_getElem? (i := 4) rfl)) (hw _ (List.mem_of_getElem? (i := 5) rfl)) e76 (g := (mkF m 245 #[iv qa, iv qb, iv qc, iv qd, iv qs, iv 4, iv ya, iv yb, iv yc, iv yd, .unset, .unset, rv b68] [])) rfl (hb hby at_245) (by decide) (by decide)
    obtain ⟨b78, g78⟩ : ∃ z, z = h76.size := ⟨_, rfl⟩
    rw [← g78] at A78 D78 st78
    have g_b78 : n0 ≤ b78 := Nat.le_trans Zs76 (Nat.le_of_eq g78.symm)
    have Zs78 : n0 ≤ h78.size := Nat.le_trans Zs76 E78.1
    have Ol78 := Ol76.ext E78
    have F_value_b78 : Fld Z h78 b78 "java/lang/String" "value" "[B" .null := D78 (Or.inr (hw _ (List.mem_of_getElem? (i := 18) rfl))) (ty := (.array .byte)) (by decide)
    have F_coder_b78 : Fld Z h78 b78 "java/lang/String" "coder" "B" (.int 0) := D78 (Or.inr (hw _ (List.mem_of_getElem? (i := 19) rfl))) (ty := .byte) (by decide)
    refine own_go (b := T78.setTop (mkF m 248 #[iv qa, iv qb, iv qc, iv qd, iv qs, iv 4, iv ya, iv yb, iv yc, iv yd, .unset, .unset, rv b68] [(.ref b78)])) st78 ?_
    refine own_go (b := T78.setTop (mkF m 249 #[iv qa, iv qb, iv qc, iv qd, iv qs, iv 4, iv ya, iv yb, iv yc, iv yd, .unset, .unset, rv b68] [(.ref b78), (.ref b78)])) (fun t k => XS.dup X78.here hx rfl (hb hby at_248) rfl rfl k) ?_
    refine own_go (b := T78.setTop (mkF m 251 #[iv qa, iv qb, iv qc, iv qd, iv qs, iv 4, iv ya, iv yb, iv yc, iv yd, .unset, .unset, rv b68] [(.ref b68), (.ref b78), (.ref b78)])) (fun t k => XS.aload X78.here hx rfl (hb hby at_249) rfl rfl k) ?_
    by_cases hc79 : ∀ c ∈ ([ya, yb, yc, yd] : List Int32), ¬ (255 : Int32) < c
    · obtain ⟨_, _, ⟨T80, L80, k80, n80⟩, -, X80, ⟨Lc80, hQ80, l80, y80, z80⟩, st80⟩ := X78.specialBack hx (y := (⟨"java/lang/String", "<init>", "([C)V"⟩ : MethodName)) rfl hown (mvT hZ (hw _ (List.mem_of_getElem? (i := 6) rfl))) (mvT hZ (hw _ (List.mem_of_getElem? (i := 7) rfl))) (mvT hZ (hw _ (List.mem_of_getElem? (i := 8) rfl))) (by decide) (StrChars.Road.backV (W := 1) hZ hws (kI := 4) (hw _ (List.mem_of_getElem? (i := 4) rfl)) (cs := ([ya, yb, yc, yd] : List Int32)) (bs := (([ya, yb, yc, yd] : List Int32)).map (fun c => c.toInt8.toInt32)) (n := 4) g_b78 Zs78 A78 F_value_b78 F_coder_b78 (Vy77.ext E78) (O2.ext Ol78.2) P5 rfl rfl (by decide) (by decide) (fun c hc => ⟨(hrg c hc).1, hc79 c hc⟩) rfl (by decide) (by decide)) (g := (mkF m 251 #[iv qa, iv qb, iv qc, iv qd, iv qs, iv 4, iv ya, iv yb, iv yc, iv yd, .unset, .unset, rv b68] [(.ref b68), (.ref b78), (.ref b78)])) rfl (by rw [hml]; rfl) (Steps.refl _) (a := b78) (argsL := [(.ref b68)]) (rest := [(.ref b78)]) (lenOf pd_26 rfl) rfl (by show 2 * 0 + _ ≤ _; exact Nat.le_of_eq rfl) (hb hby at_251) (fun _ _ => ⟨rfl, e78, (by decide : 2 + 1 ≤ _), (by decide : 8 + 4 ≤ _)⟩)
      dsimp only [Pt.U, Pt.locs, Pt.cells, Pt.slots] at X80 l80 y80 z80 st80 hQ80
      subst l80 y80 z80
      obtain ⟨rfl, N80q, K80, Es80, Cs80, t80, kb80, ua80, ub80, uc80, Vs80, Ks80⟩ := hQ80
      have Zs80 : n0 ≤ T80.heap.size := Nat.le_trans Zs78 K80.1
      have N80 := Fr.app N76 N80q
      have Ol80 := Ol78.keep K80 (allS g_b78 all0)
      have Sx80 : own_Sx Z T80.heap b78 ([ya, yb, yc, yd] : List Int32) := ⟨t80, kb80, 0, _, _, Es80, Vs80, Cs80, Ks80, StrChars.Road.codOf rfl fun c hc => hc79 c hc, hrg, Nat.le_of_ble_eq_true rfl, fun q => absurd q (by decide)⟩
      obtain ⟨lq80, X80, N80⟩ : ∃ lq, Stand p l e room_1 (s.setVm s.vm) m #[(.int qa), (.int qb), (.int qc), (.int qd), (.int qs)] below meth c T80 lq 3 12 ∧ Fr n0 lq := ⟨_, X80, N80⟩
      refine own_tr (b := T80.setTop (mkF m 254 #[iv qa, iv qb, iv qc, iv qd, iv qs, iv 4, iv ya, iv yb, iv yc, iv yd, .unset, .unset, rv b68] [(.ref b78)])) st80 ?_
      refine own_go (b := T80.setTop (mkF m 256 #[iv qa, iv qb, iv qc, iv qd, iv qs, iv 4, iv ya, iv yb, iv yc, iv yd, rv b78, .unset, rv b68] [])) (fun t k => XS.astore X80.here hx rfl (hb hby at_254) rfl rfl (l' := #[iv qa, iv qb, iv qc, iv qd, iv qs, iv 4, iv ya, iv yb, iv yc, iv yd, rv b78, .unset, rv b68]) rfl k) ?_
      refine own_go (b := T80.setTop (mkF m 258 #[iv qa, iv qb, iv qc, iv qd, iv qs, iv 4, iv ya, iv yb, iv yc, iv yd, rv b78, .unset, rv b68] [(.int 4)])) (fun t k => XS.iload X80.here hx rfl (hb hby at_256) rfl  k) ?_
      refine own_go (b := T80.setTop (mkF m 259 #[iv qa, iv qb, iv qc, iv qd, iv qs, iv 4, iv ya, iv yb, iv yc, iv yd, rv b78, .unset, rv b68] [(.int 1), (.int 4)])) (fun t k => XS.iconst X80.here hx rfl (hb hby at_258) k) ?_
      refine own_go (b := T80.setTop (mkF m 262 #[iv qa, iv qb, iv qc, iv qd, iv qs, iv 4, iv ya, iv yb, iv yc, iv yd, rv b78, .unset, rv b68] [])) (fun t k => XS.icmpNo X80.here hx rfl (hb hby at_259) rfl (flt (by decide : ¬ ((4 : Int32) < (1 : Int32)))).1 k) ?_
      refine own_go (b := T80.setTop (mkF m 264 #[iv qa, iv qb, iv qc, iv qd, iv qs, iv 4, iv ya, iv yb, iv yc, iv yd, rv b78, .unset, rv b68] [(.int 4)])) (fun t k => XS.iload X80.here hx rfl (hb hby at_262) rfl  k) ?_
      refine own_go (b := T80.setTop (mkF m 265 #[iv qa, iv qb, iv qc, iv qd, iv qs, iv 4, iv ya, iv yb, iv yc, iv yd, rv b78, .unset, rv b68] [(.int 1), (.int 4)])) (fun t k => XS.iconst X80.here hx rfl (hb hby at_264) k) ?_
      refine own_go (b := T80.setTop (mkF m 268 #[iv qa, iv qb, iv qc, iv qd, iv qs, iv 4, iv ya, iv yb, iv yc, iv yd, rv b78, .unset, rv b68] [])) (fun t k => XS.icmpNo X80.here hx rfl (hb hby at_265) rfl (flt (by decide : ¬ ((4 : Int32) < (1 : Int32)))).1 k) ?_
      refine own_go (b := T80.setTop (mkF m 270 #[iv qa, iv qb, iv qc, iv qd, iv qs, iv 4, iv ya, iv yb, iv yc, iv yd, rv b78, .unset, rv b68] [(.int ya)])) (fun t k => XS.iload X80.here hx rfl (hb hby at_268) rfl  k) ?_
      obtain ⟨_, _, ⟨T81, L81, k81, n81⟩, -, X81, ⟨Lc81, hQ81, l81, y81, z81⟩, st81⟩ := Jvm.LawKit.callS X80 hx (y := (⟨"com/example/fault/fault/TraceIdParsePinLaw", "ok", "(C)Z"⟩ : MethodName)) hown (mvT hZ (hw _ (List.mem_of_getElem? (i := 71) rfl))) (mvT hZ (hw _ (List.mem_of_getElem? (i := 72) rfl))) (mvT hZ (hw _ (List.mem_of_getElem? (i := 73) rfl))) (mvT hZ (hw _ (List.mem_of_getElem? (i := 74) rfl))) (by decide) (backOf (W := 0) (rm14 l Z a0 hw [] ya  T80.heap n0 Zs80 ) hZ (hw _ (List.mem_of_getElem? (i := 74) rfl)) (hw _ (List.mem_of_getElem? (i := 73) rfl)) (by decide) (by decide)) (g := (mkF m 270 #[iv qa, iv qb, iv qc, iv qd, iv qs, iv 4, iv ya, iv yb, iv yc, iv yd, rv b78, .unset, rv b68] [(.int ya)])) rfl (by rw [hml]; rfl) (argsL := [(.int ya)]) (rest := []) (lenOf pd_27 rfl) rfl (by show 2 * 0 + _ ≤ _; exact Nat.le_of_eq rfl) (hb hby at_270) (fun _ _ => ⟨rfl, rfl, (by decide : 3 + 0 ≤ _), (by decide : 12 + 0 ≤ _)⟩)
      dsimp only [Pt.U, Pt.locs, Pt.cells, Pt.slots] at X81 l81 y81 z81 st81 hQ81
      subst l81 y81 z81
      obtain ⟨rfl, N81q, e81⟩ := hQ81
      have N81 := Fr.app N80 N81q
      obtain ⟨lq81, X81, N81⟩ : ∃ lq, Stand p l e room_1 (s.setVm s.vm) m #[(.int qa), (.int qb), (.int qc), (.int qd), (.int qs)] below meth c T81 lq 3 12 ∧ Fr n0 lq := ⟨_, X81, N81⟩
      refine own_go (b := T81.setTop (mkF m 273 #[iv qa, iv qb, iv qc, iv qd, iv qs, iv 4, iv ya, iv yb, iv yc, iv yd, rv b78, .unset, rv b68] [(.int (own_ok01 ya))])) st81 ?_
      by_cases hc82 : own_okP ya
      · rw [own_ok01, if_pos hc82]
        refine own_go (b := T81.setTop (mkF m 276 #[iv qa, iv qb, iv qc, iv qd, iv qs, iv 4, iv ya, iv yb, iv yc, iv yd, rv b78, .unset, rv b68] [])) (fun t k => XS.ifNo X81.here hx rfl (hb hby at_273) rfl ((if0 _ _).trans (feq (by decide : ¬ ((1 : Int32) = (0 : Int32)))).1) k) ?_
        refine own_go (b := T81.setTop (mkF m 278 #[iv qa, iv qb, iv qc, iv qd, iv qs, iv 4, iv ya, iv yb, iv yc, iv yd, rv b78, .unset, rv b68] [(.int 4)])) (fun t k => XS.iload X81.here hx rfl (hb hby at_276) rfl  k) ?_
        refine own_go (b := T81.setTop (mkF m 279 #[iv qa, iv qb, iv qc, iv qd, iv qs, iv 4, iv ya, iv yb, iv yc, iv yd, rv b78, .unset, rv b68] [(.int 2), (.int 4)])) (fun t k => XS.iconst X81.here hx rfl (hb hby at_278) k) ?_
        refine own_go (b := T81.setTop (mkF m 282 #[iv qa, iv qb, iv qc, iv qd, iv qs, iv 4, iv ya, iv yb, iv yc, iv yd, rv b78, .unset, rv b68] [])) (fun t k => XS.icmpNo X81.here hx rfl (hb hby at_279) rfl (flt (by decide : ¬ ((4 : Int32) < (2 : Int32)))).1 k) ?_
        refine own_go (b := T81.setTop (mkF m 284 #[iv qa, iv qb, iv qc, iv qd, iv qs, iv 4, iv ya, iv yb, iv yc, iv yd, rv b78, .unset, rv b68] [(.int yb)])) (fun t k => XS.iload X81.here hx rfl (hb hby at_282) rfl  k) ?_
        obtain ⟨_, _, ⟨T83, L83, k83, n83⟩, -, X83, ⟨Lc83, hQ83, l83, y83, z83⟩, st83⟩ := Jvm.LawKit.callS X81 hx (y := (⟨"com/example/fault/fault/TraceIdParsePinLaw", "ok", "(C)Z"⟩ : MethodName)) hown (mvT hZ (hw _ (List.mem_of_getElem? (i := 71) rfl))) (mvT hZ (hw _ (List.mem_of_getElem? (i := 72) rfl))) (mvT hZ (hw _ (List.mem_of_getElem? (i := 73) rfl))) (mvT hZ (hw _ (List.mem_of_getElem? (i := 74) rfl))) (by decide) (backOf (W := 0) (rm14 l Z a0 hw [] yb  T80.heap n0 Zs80 ) hZ (hw _ (List.mem_of_getElem? (i := 74) rfl)) (hw _ (List.mem_of_getElem? (i := 73) rfl)) (by decide) (by decide)) (g := (mkF m 284 #[iv qa, iv qb, iv qc, iv qd, iv qs, iv 4, iv ya, iv yb, iv yc, iv yd, rv b78, .unset, rv b68] [(.int yb)])) rfl (by rw [hml]; rfl) (argsL := [(.int yb)]) (rest := []) (lenOf pd_27 rfl) rfl (by show 2 * 0 + _ ≤ _; exact Nat.le_of_eq rfl) (hb hby at_284) (fun _ _ => ⟨rfl, e81, (by decide : 3 + 0 ≤ _), (by decide : 12 + 0 ≤ _)⟩)
        dsimp only [Pt.U, Pt.locs, Pt.cells, Pt.slots] at X83 l83 y83 z83 st83 hQ83
        subst l83 y83 z83
        obtain ⟨rfl, N83q, e83⟩ := hQ83
        have N83 := Fr.app N81 N83q
        obtain ⟨lq83, X83, N83⟩ : ∃ lq, Stand p l e room_1 (s.setVm s.vm) m #[(.int qa), (.int qb), (.int qc), (.int qd), (.int qs)] below meth c T83 lq 3 12 ∧ Fr n0 lq := ⟨_, X83, N83⟩
        refine own_go (b := T83.setTop (mkF m 287 #[iv qa, iv qb, iv qc, iv qd, iv qs, iv 4, iv ya, iv yb, iv yc, iv yd, rv b78, .unset, rv b68] [(.int (own_ok01 yb))])) st83 ?_
        by_cases hc84 : own_okP yb
        · rw [own_ok01, if_pos hc84]
          refine own_go (b := T83.setTop (mkF m 290 #[iv qa, iv qb, iv qc, iv qd, iv qs, iv 4, iv ya, iv yb, iv yc, iv yd, rv b78, .unset, rv b68] [])) (fun t k => XS.ifNo X83.here hx rfl (hb hby at_287) rfl ((if0 _ _).trans (feq (by decide : ¬ ((1 : Int32) = (0 : Int32)))).1) k) ?_
          refine own_go (b := T83.setTop (mkF m 292 #[iv qa, iv qb, iv qc, iv qd, iv qs, iv 4, iv ya, iv yb, iv yc, iv yd, rv b78, .unset, rv b68] [(.int 4)])) (fun t k => XS.iload X83.here hx rfl (hb hby at_290) rfl  k) ?_
          refine own_go (b := T83.setTop (mkF m 293 #[iv qa, iv qb, iv qc, iv qd, iv qs, iv 4, iv ya, iv yb, iv yc, iv yd, rv b78, .unset, rv b68] [(.int 3), (.int 4)])) (fun t k => XS.iconst X83.here hx rfl (hb hby at_292) k) ?_
          refine own_go (b := T83.setTop (mkF m 296 #[iv qa, iv qb, iv qc, iv qd, iv qs, iv 4, iv ya, iv yb, iv yc, iv yd, rv b78, .unset, rv b68] [])) (fun t k => XS.icmpNo X83.here hx rfl (hb hby at_293) rfl (flt (by decide : ¬ ((4 : Int32) < (3 : Int32)))).1 k) ?_
          refine own_go (b := T83.setTop (mkF m 298 #[iv qa, iv qb, iv qc, iv qd, iv qs, iv 4, iv ya, iv yb, iv yc, iv yd, rv b78, .unset, rv b68] [(.int yc)])) (fun t k => XS.iload X83.here hx rfl (hb hby at_296) rfl  k) ?_
          obtain ⟨_, _, ⟨T85, L85, k85, n85⟩, -, X85, ⟨Lc85, hQ85, l85, y85, z85⟩, st85⟩ := Jvm.LawKit.callS X83 hx (y := (⟨"com/example/fault/fault/TraceIdParsePinLaw", "ok", "(C)Z"⟩ : MethodName)) hown (mvT hZ (hw _ (List.mem_of_getElem? (i := 71) rfl))) (mvT hZ (hw _ (List.mem_of_getElem? (i := 72) rfl))) (mvT hZ (hw _ (List.mem_of_getElem? (i := 73) rfl))) (mvT hZ (hw _ (List.mem_of_getElem? (i := 74) rfl))) (by decide) (backOf (W := 0) (rm14 l Z a0 hw [] yc  T80.heap n0 Zs80 ) hZ (hw _ (List.mem_of_getElem? (i := 74) rfl)) (hw _ (List.mem_of_getElem? (i := 73) rfl)) (by decide) (by decide)) (g := (mkF m 298 #[iv qa, iv qb, iv qc, iv qd, iv qs, iv 4, iv ya, iv yb, iv yc, iv yd, rv b78, .unset, rv b68] [(.int yc)])) rfl (by rw [hml]; rfl) (argsL := [(.int yc)]) (rest := []) (lenOf pd_27 rfl) rfl (by show 2 * 0 + _ ≤ _; exact Nat.le_of_eq rfl) (hb hby at_298) (fun _ _ => ⟨rfl, e83, (by decide : 3 + 0 ≤ _), (by decide : 12 + 0 ≤ _)⟩)
          dsimp only [Pt.U, Pt.locs, Pt.cells, Pt.slots] at X85 l85 y85 z85 st85 hQ85
          subst l85 y85 z85
          obtain ⟨rfl, N85q, e85⟩ := hQ85
          have N85 := Fr.app N83 N85q
          obtain ⟨lq85, X85, N85⟩ : ∃ lq, Stand p l e room_1 (s.setVm s.vm) m #[(.int qa), (.int qb), (.int qc), (.int qd), (.int qs)] below meth c T85 lq 3 12 ∧ Fr n0 lq := ⟨_, X85, N85⟩
          refine own_go (b := T85.setTop (mkF m 301 #[iv qa, iv qb, iv qc, iv qd, iv qs, iv 4, iv ya, iv yb, iv yc, iv yd, rv b78, .unset, rv b68] [(.int (own_ok01 yc))])) st85 ?_
          by_cases hc86 : own_okP yc
          · rw [own_ok01, if_pos hc86]
            refine own_go (b := T85.setTop (mkF m 304 #[iv qa, iv qb, iv qc, iv qd, iv qs, iv 4, iv ya, iv yb, iv yc, iv yd, rv b78, .unset, rv b68] [])) (fun t k => XS.ifNo X85.here hx rfl (hb hby at_301) rfl ((if0 _ _).trans (feq (by decide : ¬ ((1 : Int32) = (0 : Int32)))).1) k) ?_
            refine own_go (b := T85.setTop (mkF m 306 #[iv qa, iv qb, iv qc, iv qd, iv qs, iv 4, iv ya, iv yb, iv yc, iv yd, rv b78, .unset, rv b68] [(.int 4)])) (fun t k => XS.iload X85.here hx rfl (hb hby at_304) rfl  k) ?_
            refine own_go (b := T85.setTop (mkF m 307 #[iv qa, iv qb, iv qc, iv qd, iv qs, iv 4, iv ya, iv yb, iv yc, iv yd, rv b78, .unset, rv b68] [(.int 4), (.int 4)])) (fun t k => XS.iconst X85.here hx rfl (hb hby at_306) k) ?_
            refine own_go (b := T85.setTop (mkF m 310 #[iv qa, iv qb, iv qc, iv qd, iv qs, iv 4, iv ya, iv yb, iv yc, iv yd, rv b78, .unset, rv b68] [])) (fun t k => XS.icmpNo X85.here hx rfl (hb hby at_307) rfl (flt (by decide : ¬ ((4 : Int32) < (4 : Int32)))).1 k) ?_
            refine own_go (b := T85.setTop (mkF m 312 #[iv qa, iv qb, iv qc, iv qd, iv qs, iv 4, iv ya, iv yb, iv yc, iv yd, rv b78, .unset, rv b68] [(.int yd)])) (fun t k => XS.iload X85.here hx rfl (hb hby at_310) rfl  k) ?_
            obtain ⟨_, _, ⟨T87, L87, k87, n87⟩, -, X87, ⟨Lc87, hQ87, l87, y87, z87⟩, st87⟩ := Jvm.LawKit.callS X85 hx (y := (⟨"com/example/fault/fault/TraceIdParsePinLaw", "ok", "(C)Z"⟩ : MethodName)) hown (mvT hZ (hw _ (List.mem_of_getElem? (i := 71) rfl))) (mvT hZ (hw _ (List.mem_of_getElem? (i := 72) rfl))) (mvT hZ (hw _ (List.mem_of_getElem? (i := 73) rfl))) (mvT hZ (hw _ (List.mem_of_getElem? (i := 74) rfl))) (by decide) (backOf (W := 0) (rm14 l Z a0 hw [] yd  T80.heap n0 Zs80 ) hZ (hw _ (List.mem_of_getElem? (i := 74) rfl)) (hw _ (List.mem_of_getElem? (i := 73) rfl)) (by decide) (by decide)) (g := (mkF m 312 #[iv qa, iv qb, iv qc, iv qd, iv qs, iv 4, iv ya, iv yb, iv yc, iv yd, rv b78, .unset, rv b68] [(.int yd)])) rfl (by rw [hml]; rfl) (argsL := [(.int yd)]) (rest := []) (lenOf pd_27 rfl) rfl (by show 2 * 0 + _ ≤ _; exact Nat.le_of_eq rfl) (hb hby at_312) (fun _ _ => ⟨rfl, e85, (by decide : 3 + 0 ≤ _), (by decide : 12 + 0 ≤ _)⟩)
            dsimp only [Pt.U, Pt.locs, Pt.cells, Pt.slots] at X87 l87 y87 z87 st87 hQ87
            subst l87 y87 z87
            obtain ⟨rfl, N87q, e87⟩ := hQ87
            have N87 := Fr.app N85 N87q
            obtain ⟨lq87, X87, N87⟩ : ∃ lq, Stand p l e room_1 (s.setVm s.vm) m #[(.int qa), (.int qb), (.int qc), (.int qd), (.int qs)] below meth c T87 lq 3 12 ∧ Fr n0 lq := ⟨_, X87, N87⟩
            refine own_go (b := T87.setTop (mkF m 315 #[iv qa, iv qb, iv qc, iv qd, iv qs, iv 4, iv ya, iv yb, iv yc, iv yd, rv b78, .unset, rv b68] [(.int (own_ok01 yd))])) st87 ?_
            by_cases hc88 : own_okP yd
            · rw [own_ok01, if_pos hc88]
              refine own_go (b := T87.setTop (mkF m 318 #[iv qa, iv qb, iv qc, iv qd, iv qs, iv 4, iv ya, iv yb, iv yc, iv yd, rv b78, .unset, rv b68] [])) (fun t k => XS.ifNo X87.here hx rfl (hb hby at_315) rfl ((if0 _ _).trans (feq (by decide : ¬ ((1 : Int32) = (0 : Int32)))).1) k) ?_
              refine own_go (b := T87.setTop (mkF m 319 #[iv qa, iv qb, iv qc, iv qd, iv qs, iv 4, iv ya, iv yb, iv yc, iv yd, rv b78, .unset, rv b68] [(.int 1)])) (fun t k => XS.iconst X87.here hx rfl (hb hby at_318) k) ?_
              refine own_go (b := T87.setTop (mkF m 323 #[iv qa, iv qb, iv qc, iv qd, iv qs, iv 4, iv ya, iv yb, iv yc, iv yd, rv b78, .unset, rv b68] [(.int 1)])) (fun t k => XS.goto X87.here hx rfl (pc0 := 319) (pc' := 323) rfl (hb hby at_319) (by decide) (by decide) k) ?_
              refine own_go (b := T87.setTop (mkF m 325 #[iv qa, iv qb, iv qc, iv qd, iv qs, iv 4, iv ya, iv yb, iv yc, iv yd, rv b78, iv 1, rv b68] [])) (fun t k => XS.istore X87.here hx rfl (hb hby at_323) rfl (l' := #[iv qa, iv qb, iv qc, iv qd, iv qs, iv 4, iv ya, iv yb, iv yc, iv yd, rv b78, iv 1, rv b68]) rfl k) ?_
              exact J325 T87 T80.heap _ s.vm _ (4 : Int32) ya yb yc yd (1 : Int32) b78 ([ya, yb, yc, yd] : List Int32) (rv b68) (own_mono X87 (by decide) (by decide)) e87 N87 Zs80 Ol80 hS0 (((((((Le0.ext E68).wr W70).wr W72).wr W74).wr W76).ext E78).keep K80) hZ hown (own_IBm I0 rfl (by simp)) Sx80 (if_pos ⟨Nat.le_of_ble_eq_true rfl, Nat.le_of_ble_eq_true rfl, by intro z hz; simp only [List.mem_cons, List.not_mem_nil, or_false] at hz; rcases hz with rfl | rfl | rfl | rfl; exact hc82; exact hc84; exact hc86; exact hc88⟩).symm (Or.inr ⟨_, rfl, rfl⟩)
            · rw [own_ok01, if_neg hc88]
              refine own_go (b := T87.setTop (mkF m 322 #[iv qa, iv qb, iv qc, iv qd, iv qs, iv 4, iv ya, iv yb, iv yc, iv yd, rv b78, .unset, rv b68] [])) (fun t k => XS.ifYes X87.here hx rfl (pc0 := 315) (pc' := 322) rfl (hb hby at_315) rfl ((if0 _ _).trans (teq (rfl : (0 : Int32) = (0 : Int32))).1) (by decide) (by decide) k) ?_
              refine own_go (b := T87.setTop (mkF m 323 #[iv qa, iv qb, iv qc, iv qd, iv qs, iv 4, iv ya, iv yb, iv yc, iv yd, rv b78, .unset, rv b68] [(.int 0)])) (fun t k => XS.iconst X87.here hx rfl (hb hby at_322) k) ?_
              refine own_go (b := T87.setTop (mkF m 325 #[iv qa, iv qb, iv qc, iv qd, iv qs, iv 4, iv ya, iv yb, iv yc, iv yd, rv b78, iv 0, rv b68] [])) (fun t k => XS.istore X87.here hx rfl (hb hby at_323) rfl (l' := #[iv qa, iv qb, iv qc, iv qd, iv qs, iv 4, iv ya, iv yb, iv yc, iv yd, rv b78, iv 0, rv b68]) rfl k) ?_
              exact J325 T87 T80.heap _ s.vm _ (4 : Int32) ya yb yc yd (0 : Int32) b78 ([ya, yb, yc, yd] : List Int32) (rv b68) (own_mono X87 (by decide) (by decide)) e87 N87 Zs80 Ol80 hS0 (((((((Le0.ext E68).wr W70).wr W72).wr W74).wr W76).ext E78).keep K80) hZ hown (own_IBm I0 rfl (by simp)) Sx80 (if_neg (fun q => hc88 (q.2.2 _ (by simp)))).symm (Or.inr ⟨_, rfl, rfl⟩)
          · rw [own_ok01, if_neg hc86]
            refine own_go (b := T85.setTop (mkF m 322 #[iv qa, iv qb, iv qc, iv qd, iv qs, iv 4, iv ya, iv yb, iv yc, iv yd, rv b78, .unset, rv b68] [])) (fun t k => XS.ifYes X85.here hx rfl (pc0 := 301) (pc' := 322) rfl (hb hby at_301) rfl ((if0 _ _).trans (teq (rfl : (0 : Int32) = (0 : Int32))).1) (by decide) (by decide) k) ?_
            refine own_go (b := T85.setTop (mkF m 323 #[iv qa, iv qb, iv qc, iv qd, iv qs, iv 4, iv ya, iv yb, iv yc, iv yd, rv b78, .unset, rv b68] [(.int 0)])) (fun t k => XS.iconst X85.here hx rfl (hb hby at_322) k) ?_
            refine own_go (b := T85.setTop (mkF m 325 #[iv qa, iv qb, iv qc, iv qd, iv qs, iv 4, iv ya, iv yb, iv yc, iv yd, rv b78, iv 0, rv b68] [])) (fun t k => XS.istore X85.here hx rfl (hb hby at_323) rfl (l' := #[iv qa, iv qb, iv qc, iv qd, iv qs, iv 4, iv ya, iv yb, iv yc, iv yd, rv b78, iv 0, rv b68]) rfl k) ?_
            exact J325 T85 T80.heap _ s.vm _ (4 : Int32) ya yb yc yd (0 : Int32) b78 ([ya, yb, yc, yd] : List Int32) (rv b68) (own_mono X85 (by decide) (by decide)) e85 N85 Zs80 Ol80 hS0 (((((((Le0.ext E68).wr W70).wr W72).wr W74).wr W76).ext E78).keep K80) hZ hown (own_IBm I0 rfl (by simp)) Sx80 (if_neg (fun q => hc86 (q.2.2 _ (by simp)))).symm (Or.inr ⟨_, rfl, rfl⟩)
        · rw [own_ok01, if_neg hc84]
          refine own_go (b := T83.setTop (mkF m 322 #[iv qa, iv qb, iv qc, iv qd, iv qs, iv 4, iv ya, iv yb, iv yc, iv yd, rv b78, .unset, rv b68] [])) (fun t k => XS.ifYes X83.here hx rfl (pc0 := 287) (pc' := 322) rfl (hb hby at_287) rfl ((if0 _ _).trans (teq (rfl : (0 : Int32) = (0 : Int32))).1) (by decide) (by decide) k) ?_
          refine own_go (b := T83.setTop (mkF m 323 #[iv qa, iv qb, iv qc, iv qd, iv qs, iv 4, iv ya, iv yb, iv yc, iv yd, rv b78, .unset, rv b68] [(.int 0)])) (fun t k => XS.iconst X83.here hx rfl (hb hby at_322) k) ?_
          refine own_go (b := T83.setTop (mkF m 325 #[iv qa, iv qb, iv qc, iv qd, iv qs, iv 4, iv ya, iv yb, iv yc, iv yd, rv b78, iv 0, rv b68] [])) (fun t k => XS.istore X83.here hx rfl (hb hby at_323) rfl (l' := #[iv qa, iv qb, iv qc, iv qd, iv qs, iv 4, iv ya, iv yb, iv yc, iv yd, rv b78, iv 0, rv b68]) rfl k) ?_
          exact J325 T83 T80.heap _ s.vm _ (4 : Int32) ya yb yc yd (0 : Int32) b78 ([ya, yb, yc, yd] : List Int32) (rv b68) (own_mono X83 (by decide) (by decide)) e83 N83 Zs80 Ol80 hS0 (((((((Le0.ext E68).wr W70).wr W72).wr W74).wr W76).ext E78).keep K80) hZ hown (own_IBm I0 rfl (by simp)) Sx80 (if_neg (fun q => hc84 (q.2.2 _ (by simp)))).symm (Or.inr ⟨_, rfl, rfl⟩)
      · rw [own_ok01, if_neg hc82]
        refine own_go (b := T81.setTop (mkF m 322 #[iv qa, iv qb, iv qc, iv qd, iv qs, iv 4, iv ya, iv yb, iv yc, iv yd, rv b78, .unset, rv b68] [])) (fun t k => XS.ifYes X81.here hx rfl (pc0 := 273) (pc' := 322) rfl (hb hby at_273) rfl ((if0 _ _).trans (teq (rfl : (0 : Int32) = (0 : Int32))).1) (by decide) (by decide) k) ?_
        refine own_go (b := T81.setTop (mkF m 323 #[iv qa, iv qb, iv qc, iv qd, iv qs, iv 4, iv ya, iv yb, iv yc, iv yd, rv b78, .unset, rv b68] [(.int 0)])) (fun t k => XS.iconst X81.here hx rfl (hb hby at_322) k) ?_
        refine own_go (b := T81.setTop (mkF m 325 #[iv qa, iv qb, iv qc, iv qd, iv qs, iv 4, iv ya, iv yb, iv yc, iv yd, rv b78, iv 0, rv b68] [])) (fun t k => XS.istore X81.here hx rfl (hb hby at_323) rfl (l' := #[iv qa, iv qb, iv qc, iv qd, iv qs, iv 4, iv ya, iv yb, iv yc, iv yd, rv b78, iv 0, rv b68]) rfl k) ?_
        exact J325 T81 T80.heap _ s.vm _ (4 : Int32) ya yb yc yd (0 : Int32) b78 ([ya, yb, yc, yd] : List Int32) (rv b68) (own_mono X81 (by decide) (by decide)) e81 N81 Zs80 Ol80 hS0 (((((((Le0.ext E68).wr W70).wr W72).wr W74).wr W76).ext E78).keep K80) hZ hown (own_IBm I0 rfl (by simp)) Sx80 (if_neg (fun q => hc82 (q.2.2 _ (by simp)))).symm (Or.inr ⟨_, rfl, rfl⟩)
    · obtain ⟨jj, hj, hgt, hlt⟩ := own_first _ hc79
      obtain ⟨_, _, ⟨T89, L89, k89, n89⟩, -, X89, ⟨Lc89, hQ89, l89, y89, z89⟩, st89⟩ := X78.specialBack hx (y := (⟨"java/lang/String", "<init>", "([C)V"⟩ : MethodName)) rfl hown (mvT hZ (hw _ (List.mem_of_getElem? (i := 6) rfl))) (mvT hZ (hw _ (List.mem_of_getElem? (i := 7) rfl))) (mvT hZ (hw _ (List.mem_of_getElem? (i := 8) rfl))) (by decide) (backOf (W := 1) (rm1w l Z a0 hw [] b78 b68 k68 ([ya, yb, yc, yd] : List Int32) jj G1 h78 n0 Zs78 (Nat.le_of_ble_eq_true rfl) (Nat.le_of_ble_eq_true rfl) Ol78 (Vy77.ext E78) Sad Shi Slo hj hlt hgt hrg O2 P5 A78 F_value_b78 F_coder_b78 g_b78) hZ (hw _ (List.mem_of_getElem? (i := 8) rfl)) (hw _ (List.mem_of_getElem? (i := 5) rfl)) (by decide) (by decide)) (g := (mkF m 251 #[iv qa, iv qb, iv qc, iv qd, iv qs, iv 4, iv ya, iv yb, iv yc, iv yd, .unset, .unset, rv b68] [(.ref b68), (.ref b78), (.ref b78)])) rfl (by rw [hml]; rfl) (Steps.refl _) (a := b78) (argsL := [(.ref b68)]) (rest := [(.ref b78)]) (lenOf pd_26 rfl) rfl (by show 2 * 0 + _ ≤ _; exact Nat.le_of_eq rfl) (hb hby at_251) (fun _ _ => ⟨rfl, e78, (by decide : 2 + 2 ≤ _), (by decide : 8 + 12 ≤ _)⟩)
      dsimp only [Pt.U, Pt.locs, Pt.cells, Pt.slots] at X89 l89 y89 z89 st89 hQ89
      subst l89 y89 z89
      obtain ⟨rfl, N89q, K89, Sx89⟩ := hQ89
      have Zs89 : n0 ≤ T89.heap.size := Nat.le_trans Zs78 K89.1
      have N89 := Fr.app N76 N89q
      have Ol89 := Ol78.keep K89 (allS g_b78 all0)
      obtain ⟨lq89, X89, N89⟩ : ∃ lq, Stand p l e room_1 (s.setVm s.vm) m #[(.int qa), (.int qb), (.int qc), (.int qd), (.int qs)] below meth c T89 lq 4 20 ∧ Fr n0 lq := ⟨_, X89, N89⟩
      refine own_tr (b := T89.setTop (mkF m 254 #[iv qa, iv qb, iv qc, iv qd, iv qs, iv 4, iv ya, iv yb, iv yc, iv yd, .unset, .unset, rv b68] [(.ref b78)])) st89 ?_
      refine own_go (b := T89.setTop (mkF m 256 #[iv qa, iv qb, iv qc, iv qd, iv qs, iv 4, iv ya, iv yb, iv yc, iv yd, rv b78, .unset, rv b68] [])) (fun t k => XS.astore X89.here hx rfl (hb hby at_254) rfl rfl (l' := #[iv qa, iv qb, iv qc, iv qd, iv qs, iv 4, iv ya, iv yb, iv yc, iv yd, rv b78, .unset, rv b68]) rfl k) ?_
      refine own_go (b := T89.setTop (mkF m 258 #[iv qa, iv qb, iv qc, iv qd, iv qs, iv 4, iv ya, iv yb, iv yc, iv yd, rv b78, .unset, rv b68] [(.int 4)])) (fun t k => XS.iload X89.here hx rfl (hb hby at_256) rfl  k) ?_
      refine own_go (b := T89.setTop (mkF m 259 #[iv qa, iv qb, iv qc, iv qd, iv qs, iv 4, iv ya, iv yb, iv yc, iv yd, rv b78, .unset, rv b68] [(.int 1), (.int 4)])) (fun t k => XS.iconst X89.here hx rfl (hb hby at_258) k) ?_
      refine own_go (b := T89.setTop (mkF m 262 #[iv qa, iv qb, iv qc, iv qd, iv qs, iv 4, iv ya, iv yb, iv yc, iv yd, rv b78, .unset, rv b68] [])) (fun t k => XS.icmpNo X89.here hx rfl (hb hby at_259) rfl (flt (by decide : ¬ ((4 : Int32) < (1 : Int32)))).1 k) ?_
      refine own_go (b := T89.setTop (mkF m 264 #[iv qa, iv qb, iv qc, iv qd, iv qs, iv 4, iv ya, iv yb, iv yc, iv yd, rv b78, .unset, rv b68] [(.int 4)])) (fun t k => XS.iload X89.here hx rfl (hb hby at_262) rfl  k) ?_
      refine own_go (b := T89.setTop (mkF m 265 #[iv qa, iv qb, iv qc, iv qd, iv qs, iv 4, iv ya, iv yb, iv yc, iv yd, rv b78, .unset, rv b68] [(.int 1), (.int 4)])) (fun t k => XS.iconst X89.here hx rfl (hb hby at_264) k) ?_
      refine own_go (b := T89.setTop (mkF m 268 #[iv qa, iv qb, iv qc, iv qd, iv qs, iv 4, iv ya, iv yb, iv yc, iv yd, rv b78, .unset, rv b68] [])) (fun t k => XS.icmpNo X89.here hx rfl (hb hby at_265) rfl (flt (by decide : ¬ ((4 : Int32) < (1 : Int32)))).1 k) ?_
      refine own_go (b := T89.setTop (mkF m 270 #[iv qa, iv qb, iv qc, iv qd, iv qs, iv 4, iv ya, iv yb, iv yc, iv yd, rv b78, .unset, rv b68] [(.int ya)])) (fun t k => XS.iload X89.here hx rfl (hb hby at_268) rfl  k) ?_
      obtain ⟨_, _, ⟨T90, L90, k90, n90⟩, -, X90, ⟨Lc90, hQ90, l90, y90, z90⟩, st90⟩ := Jvm.LawKit.callS X89 hx (y := (⟨"com/example/fault/fault/TraceIdParsePinLaw", "ok", "(C)Z"⟩ : MethodName)) hown (mvT hZ (hw _ (List.mem_of_getElem? (i := 71) rfl))) (mvT hZ (hw _ (List.mem_of_getElem? (i := 72) rfl))) (mvT hZ (hw _ (List.mem_of_getElem? (i := 73) rfl))) (mvT hZ (hw _ (List.mem_of_getElem? (i := 74) rfl))) (by decide) (backOf (W := 0) (rm14 l Z a0 hw [] ya  T89.heap n0 Zs89 ) hZ (hw _ (List.mem_of_getElem? (i := 74) rfl)) (hw _ (List.mem_of_getElem? (i := 73) rfl)) (by decide) (by decide)) (g := (mkF m 270 #[iv qa, iv qb, iv qc, iv qd, iv qs, iv 4, iv ya, iv yb, iv yc, iv yd, rv b78, .unset, rv b68] [(.int ya)])) rfl (by rw [hml]; rfl) (argsL := [(.int ya)]) (rest := []) (lenOf pd_27 rfl) rfl (by show 2 * 0 + _ ≤ _; exact Nat.le_of_eq rfl) (hb hby at_270) (fun _ _ => ⟨rfl, rfl, (by decide : 4 + 0 ≤ _), (by decide : 20 + 0 ≤ _)⟩)
      dsimp only [Pt.U, Pt.locs, Pt.cells, Pt.slots] at X90 l90 y90 z90 st90 hQ90
      subst l90 y90 z90
      obtain ⟨rfl, N90q, e90⟩ := hQ90
      have N90 := Fr.app N89 N90q
      obtain ⟨lq90, X90, N90⟩ : ∃ lq, Stand p l e room_1 (s.setVm s.vm) m #[(.int qa), (.int qb), (.int qc), (.int qd), (.int qs)] below meth c T90 lq 4 20 ∧ Fr n0 lq := ⟨_, X90, N90⟩
      refine own_go (b := T90.setTop (mkF m 273 #[iv qa, iv qb, iv qc, iv qd, iv qs, iv 4, iv ya, iv yb, iv yc, iv yd, rv b78, .unset, rv b68] [(.int (own_ok01 ya))])) st90 ?_
      by_cases hc91 : own_okP ya
      · rw [own_ok01, if_pos hc91]
        refine own_go (b := T90.setTop (mkF m 276 #[iv qa, iv qb, iv qc, iv qd, iv qs, iv 4, iv ya, iv yb, iv yc, iv yd, rv b78, .unset, rv b68] [])) (fun t k => XS.ifNo X90.here hx rfl (hb hby at_273) rfl ((if0 _ _).trans (feq (by decide : ¬ ((1 : Int32) = (0 : Int32)))).1) k) ?_
        refine own_go (b := T90.setTop (mkF m 278 #[iv qa, iv qb, iv qc, iv qd, iv qs, iv 4, iv ya, iv yb, iv yc, iv yd, rv b78, .unset, rv b68] [(.int 4)])) (fun t k => XS.iload X90.here hx rfl (hb hby at_276) rfl  k) ?_
        refine own_go (b := T90.setTop (mkF m 279 #[iv qa, iv qb, iv qc, iv qd, iv qs, iv 4, iv ya, iv yb, iv yc, iv yd, rv b78, .unset, rv b68] [(.int 2), (.int 4)])) (fun t k => XS.iconst X90.here hx rfl (hb hby at_278) k) ?_
        refine own_go (b := T90.setTop (mkF m 282 #[iv qa, iv qb, iv qc, iv qd, iv qs, iv 4, iv ya, iv yb, iv yc, iv yd, rv b78, .unset, rv b68] [])) (fun t k => XS.icmpNo X90.here hx rfl (hb hby at_279) rfl (flt (by decide : ¬ ((4 : Int32) < (2 : Int32)))).1 k) ?_
        refine own_go (b := T90.setTop (mkF m 284 #[iv qa, iv qb, iv qc, iv qd, iv qs, iv 4, iv ya, iv yb, iv yc, iv yd, rv b78, .unset, rv b68] [(.int yb)])) (fun t k => XS.iload X90.here hx rfl (hb hby at_282) rfl  k) ?_
        obtain ⟨_, _, ⟨T92, L92, k92, n92⟩, -, X92, ⟨Lc92, hQ92, l92, y92, z92⟩, st92⟩ := Jvm.LawKit.callS X90 hx (y := (⟨"com/example/fault/fault/TraceIdParsePinLaw", "ok", "(C)Z"⟩ : MethodName)) hown (mvT hZ (hw _ (List.mem_of_getElem? (i := 71) rfl))) (mvT hZ (hw _ (List.mem_of_getElem? (i := 72) rfl))) (mvT hZ (hw _ (List.mem_of_getElem? (i := 73) rfl))) (mvT hZ (hw _ (List.mem_of_getElem? (i := 74) rfl))) (by decide) (backOf (W := 0) (rm14 l Z a0 hw [] yb  T89.heap n0 Zs89 ) hZ (hw _ (List.mem_of_getElem? (i := 74) rfl)) (hw _ (List.mem_of_getElem? (i := 73) rfl)) (by decide) (by decide)) (g := (mkF m 284 #[iv qa, iv qb, iv qc, iv qd, iv qs, iv 4, iv ya, iv yb, iv yc, iv yd, rv b78, .unset, rv b68] [(.int yb)])) rfl (by rw [hml]; rfl) (argsL := [(.int yb)]) (rest := []) (lenOf pd_27 rfl) rfl (by show 2 * 0 + _ ≤ _; exact Nat.le_of_eq rfl) (hb hby at_284) (fun _ _ => ⟨rfl, e90, (by decide : 4 + 0 ≤ _), (by decide : 20 + 0 ≤ _)⟩)
        dsimp only [Pt.U, Pt.locs, Pt.cells, Pt.slots] at X92 l92 y92 z92 st92 hQ92
        subst l92 y92 z92
        obtain ⟨rfl, N92q, e92⟩ := hQ92
        have N92 := Fr.app N90 N92q
        obtain ⟨lq92, X92, N92⟩ : ∃ lq, Stand p l e room_1 (s.setVm s.vm) m #[(.int qa), (.int qb), (.int qc), (.int qd), (.int qs)] below meth c T92 lq 4 20 ∧ Fr n0 lq := ⟨_, X92, N92⟩
        refine own_go (b := T92.setTop (mkF m 287 #[iv qa, iv qb, iv qc, iv qd, iv qs, iv 4, iv ya, iv yb, iv yc, iv yd, rv b78, .unset, rv b68] [(.int (own_ok01 yb))])) st92 ?_
        by_cases hc93 : own_okP yb
        · rw [own_ok01, if_pos hc93]
          refine own_go (b := T92.setTop (mkF m 290 #[iv qa, iv qb, iv qc, iv qd, iv qs, iv 4, iv ya, iv yb, iv yc, iv yd, rv b78, .unset, rv b68] [])) (fun t k => XS.ifNo X92.here hx rfl (hb hby at_287) rfl ((if0 _ _).trans (feq (by decide : ¬ ((1 : Int32) = (0 : Int32)))).1) k) ?_
          refine own_go (b := T92.setTop (mkF m 292 #[iv qa, iv qb, iv qc, iv qd, iv qs, iv 4, iv ya, iv yb, iv yc, iv yd, rv b78, .unset, rv b68] [(.int 4)])) (fun t k => XS.iload X92.here hx rfl (hb hby at_290) rfl  k) ?_
          refine own_go (b := T92.setTop (mkF m 293 #[iv qa, iv qb, iv qc, iv qd, iv qs, iv 4, iv ya, iv yb, iv yc, iv yd, rv b78, .unset, rv b68] [(.int 3), (.int 4)])) (fun t k => XS.iconst X92.here hx rfl (hb hby at_292) k) ?_
          refine own_go (b := T92.setTop (mkF m 296 #[iv qa, iv qb, iv qc, iv qd, iv qs, iv 4, iv ya, iv yb, iv yc, iv yd, rv b78, .unset, rv b68] [])) (fun t k => XS.icmpNo X92.here hx rfl (hb hby at_293) rfl (flt (by decide : ¬ ((4 : Int32) < (3 : Int32)))).1 k) ?_
          refine own_go (b := T92.setTop (mkF m 298 #[iv qa, iv qb, iv qc, iv qd, iv qs, iv 4, iv ya, iv yb, iv yc, iv yd, rv b78, .unset, rv b68] [(.int yc)])) (fun t k => XS.iload X92.here hx rfl (hb hby at_296) rfl  k) ?_
          obtain ⟨_, _, ⟨T94, L94, k94, n94⟩, -, X94, ⟨Lc94, hQ94, l94, y94, z94⟩, st94⟩ := Jvm.LawKit.callS X92 hx (y := (⟨"com/example/fault/fault/TraceIdParsePinLaw", "ok", "(C)Z"⟩ : MethodName)) hown (mvT hZ (hw _ (List.mem_of_getElem? (i := 71) rfl))) (mvT hZ (hw _ (List.mem_of_getElem? (i := 72) rfl))) (mvT hZ (hw _ (List.mem_of_getElem? (i := 73) rfl))) (mvT hZ (hw _ (List.mem_of_getElem? (i := 74) rfl))) (by decide) (backOf (W := 0) (rm14 l Z a0 hw [] yc  T89.heap n0 Zs89 ) hZ (hw _ (List.mem_of_getElem? (i := 74) rfl)) (hw _ (List.mem_of_getElem? (i := 73) rfl)) (by decide) (by decide)) (g := (mkF m 298 #[iv qa, iv qb, iv qc, iv qd, iv qs, iv 4, iv ya, iv yb, iv yc, iv yd, rv b78, .unset, rv b68] [(.int yc)])) rfl (by rw [hml]; rfl) (argsL := [(.int yc)]) (rest := []) (lenOf pd_27 rfl) rfl (by show 2 * 0 + _ ≤ _; exact Nat.le_of_eq rfl) (hb hby at_298) (fun _ _ => ⟨rfl, e92, (by decide : 4 + 0 ≤ _), (by decide : 20 + 0 ≤ _)⟩)
          dsimp only [Pt.U, Pt.locs, Pt.cells, Pt.slots] at X94 l94 y94 z94 st94 hQ94
          subst l94 y94 z94
          obtain ⟨rfl, N94q, e94⟩ := hQ94
          have N94 := Fr.app N92 N94q
          obtain ⟨lq94, X94, N94⟩ : ∃ lq, Stand p l e room_1 (s.setVm s.vm) m #[(.int qa), (.int qb), (.int qc), (.int qd), (.int qs)] below meth c T94 lq 4 20 ∧ Fr n0 lq := ⟨_, X94, N94⟩
          refine own_go (b := T94.setTop (mkF m 301 #[iv qa, iv qb, iv qc, iv qd, iv qs, iv 4, iv ya, iv yb, iv yc, iv yd, rv b78, .unset, rv b68] [(.int (own_ok01 yc))])) st94 ?_
          by_cases hc95 : own_okP yc
          · rw [own_ok01, if_pos hc95]
            refine own_go (b := T94.setTop (mkF m 304 #[iv qa, iv qb, iv qc, iv qd, iv qs, iv 4, iv ya, iv yb, iv yc, iv yd, rv b78, .unset, rv b68] [])) (fun t k => XS.ifNo X94.here hx rfl (hb hby at_301) rfl ((if0 _ _).trans (feq (by decide : ¬ ((1 : Int32) = (0 : Int32)))).1) k) ?_
            refine own_go (b := T94.setTop (mkF m 306 #[iv qa, iv qb, iv qc, iv qd, iv qs, iv 4, iv ya, iv yb, iv yc, iv yd, rv b78, .unset, rv b68] [(.int 4)])) (fun t k => XS.iload X94.here hx rfl (hb hby at_304) rfl  k) ?_
            refine own_go (b := T94.setTop (mkF m 307 #[iv qa, iv qb, iv qc, iv qd, iv qs, iv 4, iv ya, iv yb, iv yc, iv yd, rv b78, .unset, rv b68] [(.int 4), (.int 4)])) (fun t k => XS.iconst X94.here hx rfl (hb hby at_306) k) ?_
            refine own_go (b := T94.setTop (mkF m 310 #[iv qa, iv qb, iv qc, iv qd, iv qs, iv 4, iv ya, iv yb, iv yc, iv yd, rv b78, .unset, rv b68] [])) (fun t k => XS.icmpNo X94.here hx rfl (hb hby at_307) rfl (flt (by decide : ¬ ((4 : Int32) < (4 : Int32)))).1 k) ?_
            refine own_go (b := T94.setTop (mkF m 312 #[iv qa, iv qb, iv qc, iv qd, iv qs, iv 4, iv ya, iv yb, iv yc, iv yd, rv b78, .unset, rv b68] [(.int yd)])) (fun t k => XS.iload X94.here hx rfl (hb hby at_310) rfl  k) ?_
            obtain ⟨_, _, ⟨T96, L96, k96, n96⟩, -, X96, ⟨Lc96, hQ96, l96, y96, z96⟩, st96⟩ := Jvm.LawKit.callS X94 hx (y := (⟨"com/example/fault/fault/TraceIdParsePinLaw", "ok", "(C)Z"⟩ : MethodName)) hown (mvT hZ (hw _ (List.mem_of_getElem? (i := 71) rfl))) (mvT hZ (hw _ (List.mem_of_getElem? (i := 72) rfl))) (mvT hZ (hw _ (List.mem_of_getElem? (i := 73) rfl))) (mvT hZ (hw _ (List.mem_of_getElem? (i := 74) rfl))) (by decide) (backOf (W := 0) (rm14 l Z a0 hw [] yd  T89.heap n0 Zs89 ) hZ (hw _ (List.mem_of_getElem? (i := 74) rfl)) (hw _ (List.mem_of_getElem? (i := 73) rfl)) (by decide) (by decide)) (g := (mkF m 312 #[iv qa, iv qb, iv qc, iv qd, iv qs, iv 4, iv ya, iv yb, iv yc, iv yd, rv b78, .unset, rv b68] [(.int yd)])) rfl (by rw [hml]; rfl) (argsL := [(.int yd)]) (rest := []) (lenOf pd_27 rfl) rfl (by show 2 * 0 + _ ≤ _; exact Nat.le_of_eq rfl) (hb hby at_312) (fun _ _ => ⟨rfl, e94, (by decide : 4 + 0 ≤ _), (by decide : 20 + 0 ≤ _)⟩)
            dsimp only [Pt.U, Pt.locs, Pt.cells, Pt.slots] at X96 l96 y96 z96 st96 hQ96
            subst l96 y96 z96
            obtain ⟨rfl, N96q, e96⟩ := hQ96
            have N96 := Fr.app N94 N96q
            obtain ⟨lq96, X96, N96⟩ : ∃ lq, Stand p l e room_1 (s.setVm s.vm) m #[(.int qa), (.int qb), (.int qc), (.int qd), (.int qs)] below meth c T96 lq 4 20 ∧ Fr n0 lq := ⟨_, X96, N96⟩
            refine own_go (b := T96.setTop (mkF m 315 #[iv qa, iv qb, iv qc, iv qd, iv qs, iv 4, iv ya, iv yb, iv yc, iv yd, rv b78, .unset, rv b68] [(.int (own_ok01 yd))])) st96 ?_
            by_cases hc97 : own_okP yd
            · rw [own_ok01, if_pos hc97]
              refine own_go (b := T96.setTop (mkF m 318 #[iv qa, iv qb, iv qc, iv qd, iv qs, iv 4, iv ya, iv yb, iv yc, iv yd, rv b78, .unset, rv b68] [])) (fun t k => XS.ifNo X96.here hx rfl (hb hby at_315) rfl ((if0 _ _).trans (feq (by decide : ¬ ((1 : Int32) = (0 : Int32)))).1) k) ?_
              refine own_go (b := T96.setTop (mkF m 319 #[iv qa, iv qb, iv qc, iv qd, iv qs, iv 4, iv ya, iv yb, iv yc, iv yd, rv b78, .unset, rv b68] [(.int 1)])) (fun t k => XS.iconst X96.here hx rfl (hb hby at_318) k) ?_
              refine own_go (b := T96.setTop (mkF m 323 #[iv qa, iv qb, iv qc, iv qd, iv qs, iv 4, iv ya, iv yb, iv yc, iv yd, rv b78, .unset, rv b68] [(.int 1)])) (fun t k => XS.goto X96.here hx rfl (pc0 := 319) (pc' := 323) rfl (hb hby at_319) (by decide) (by decide) k) ?_
              refine own_go (b := T96.setTop (mkF m 325 #[iv qa, iv qb, iv qc, iv qd, iv qs, iv 4, iv ya, iv yb, iv yc, iv yd, rv b78, iv 1, rv b68] [])) (fun t k => XS.istore X96.here hx rfl (hb hby at_323) rfl (l' := #[iv qa, iv qb, iv qc, iv qd, iv qs, iv 4, iv ya, iv yb, iv yc, iv yd, rv b78, iv 1, rv b68]) rfl k) ?_
              exact J325 T96 T89.heap _ s.vm _ (4 : Int32) ya yb yc yd (1 : Int32) b78 ([ya, yb, yc, yd] : List Int32) (rv b68) (own_mono X96 (by decide) (by decide)) e96 N96 Zs89 Ol89 hS0 (((((((Le0.ext E68).wr W70).wr W72).wr W74).wr W76).ext E78).keep K89) hZ hown (own_IBm I0 rfl (by simp)) Sx89 (if_pos ⟨Nat.le_of_ble_eq_true rfl, Nat.le_of_ble_eq_true rfl, by intro z hz; simp only [List.mem_cons, List.not_mem_nil, or_false] at hz; rcases hz with rfl | rfl | rfl | rfl; exact hc91; exact hc93; exact hc95; exact hc97⟩).symm (Or.inr ⟨_, rfl, rfl⟩)
            · rw [own_ok01, if_neg hc97]
              refine own_go (b := T96.setTop (mkF m 322 #[iv qa, iv qb, iv qc, iv qd, iv qs, iv 4, iv ya, iv yb, iv yc, iv yd, rv b78, .unset, rv b68] [])) (fun t k => XS.ifYes X96.here hx rfl (pc0 := 315) (pc' := 322) rfl (hb hby at_315) rfl ((if0 _ _).trans (teq (rfl : (0 : Int32) = (0 : Int32))).1) (by decide) (by decide) k) ?_
              refine own_go (b := T96.setTop (mkF m 323 #[iv qa, iv qb, iv qc, iv qd, iv qs, iv 4, iv ya, iv yb, iv yc, iv yd, rv b78, .unset, rv b68] [(.int 0)])) (fun t k => XS.iconst X96.here hx rfl (hb hby at_322) k) ?_
              refine own_go (b := T96.setTop (mkF m 325 #[iv qa, iv qb, iv qc, iv qd, iv qs, iv 4, iv ya, iv yb, iv yc, iv yd, rv b78, iv 0, rv b68] [])) (fun t k => XS.istore X96.here hx rfl (hb hby at_323) rfl (l' := #[iv qa, iv qb, iv qc, iv qd, iv qs, iv 4, iv ya, iv yb, iv yc, iv yd, rv b78, iv 0, rv b68]) rfl k) ?_
              exact J325 T96 T89.heap _ s.vm _ (4 : Int32) ya yb yc yd (0 : Int32) b78 ([ya, yb, yc, yd] : List Int32) (rv b68) (own_mono X96 (by decide) (by decide)) e96 N96 Zs89 Ol89 hS0 (((((((Le0.ext E68).wr W70).wr W72).wr W74).wr W76).ext E78).keep K89) hZ hown (own_IBm I0 rfl (by simp)) Sx89 (if_neg (fun q => hc97 (q.2.2 _ (by simp)))).symm (Or.inr ⟨_, rfl, rfl⟩)
          · rw [own_ok01, if_neg hc95]
            refine own_go (b := T94.setTop (mkF m 322 #[iv qa, iv qb, iv qc, iv qd, iv qs, iv 4, iv ya, iv yb, iv yc, iv yd, rv b78, .unset, rv b68] [])) (fun t k => XS.ifYes X94.here hx rfl (pc0 := 301) (pc' := 322) rfl (hb hby at_301) rfl ((if0 _ _).trans (teq (rfl : (0 : Int32) = (0 : Int32))).1) (by decide) (by decide) k) ?_
            refine own_go (b := T94.setTop (mkF m 323 #[iv qa, iv qb, iv qc, iv qd, iv qs, iv 4, iv ya, iv yb, iv yc, iv yd, rv b78, .unset, rv b68] [(.int 0)])) (fun t k => XS.iconst X94.here hx rfl (hb hby at_322) k) ?_
            refine own_go (b := T94.setTop (mkF m 325 #[iv qa, iv qb, iv qc, iv qd, iv qs, iv 4, iv ya, iv yb, iv yc, iv yd, rv b78, iv 0, rv b68] [])) (fun t k => XS.istore X94.here hx rfl (hb hby at_323) rfl (l' := #[iv qa, iv qb, iv qc, iv qd, iv qs, iv 4, iv ya, iv yb, iv yc, iv yd, rv b78, iv 0, rv b68]) rfl k) ?_
            exact J325 T94 T89.heap _ s.vm _ (4 : Int32) ya yb yc yd (0 : Int32) b78 ([ya, yb, yc, yd] : List Int32) (rv b68) (own_mono X94 (by decide) (by decide)) e94 N94 Zs89 Ol89 hS0 (((((((Le0.ext E68).wr W70).wr W72).wr W74).wr W76).ext E78).keep K89) hZ hown (own_IBm I0 rfl (by simp)) Sx89 (if_neg (fun q => hc95 (q.2.2 _ (by simp)))).symm (Or.inr ⟨_, rfl, rfl⟩)
        · rw [own_ok01, if_neg hc93]
          refine own_go (b := T92.setTop (mkF m 322 #[iv qa, iv qb, iv qc, iv qd, iv qs, iv 4, iv ya, iv yb, iv yc, iv yd, rv b78, .unset, rv b68] [])) (fun t k => XS.ifYes X92.here hx rfl (pc0 := 287) (pc' := 322) rfl (hb hby at_287) rfl ((if0 _ _).trans (teq (rfl : (0 : Int32) = (0 : Int32))).1) (by decide) (by decide) k) ?_
          refine own_go (b := T92.setTop (mkF m 323 #[iv qa, iv qb, iv qc, iv qd, iv qs, iv 4, iv ya, iv yb, iv yc, iv yd, rv b78, .unset, rv b68] [(.int 0)])) (fun t k => XS.iconst X92.here hx rfl (hb hby at_322) k) ?_
          refine own_go (b := T92.setTop (mkF m 325 #[iv qa, iv qb, iv qc, iv qd, iv qs, iv 4, iv ya, iv yb, iv yc, iv yd, rv b78, iv 0, rv b68] [])) (fun t k => XS.istore X92.here hx rfl (hb hby at_323) rfl (l' := #[iv qa, iv qb, iv qc, iv qd, iv qs, iv 4, iv ya, iv yb, iv yc, iv yd, rv b78, iv 0, rv b68]) rfl k) ?_
          exact J325 T92 T89.heap _ s.vm _ (4 : Int32) ya yb yc yd (0 : Int32) b78 ([ya, yb, yc, yd] : List Int32) (rv b68) (own_mono X92 (by decide) (by decide)) e92 N92 Zs89 Ol89 hS0 (((((((Le0.ext E68).wr W70).wr W72).wr W74).wr W76).ext E78).keep K89) hZ hown (own_IBm I0 rfl (by simp)) Sx89 (if_neg (fun q => hc93 (q.2.2 _ (by simp)))).symm (Or.inr ⟨_, rfl, rfl⟩)
      · rw [own_ok01, if_neg hc91]
        refine own_go (b := T90.setTop (mkF m 322 #[iv qa, iv qb, iv qc, iv qd, iv qs, iv 4, iv ya, iv yb, iv yc, iv yd, rv b78, .unset, rv b68] [])) (fun t k => XS.ifYes X90.here hx rfl (pc0 := 273) (pc' := 322) rfl (hb hby at_273) rfl ((if0 _ _).trans (teq (rfl : (0 : Int32) = (0 : Int32))).1) (by decide) (by decide) k) ?_
        refine own_go (b := T90.setTop (mkF m 323 #[iv qa, iv qb, iv qc, iv qd, iv qs, iv 4, iv ya, iv yb, iv yc, iv yd, rv b78, .unset, rv b68] [(.int 0)])) (fun t k => XS.iconst X90.here hx rfl (hb hby at_322) k) ?_
        refine own_go (b := T90.setTop (mkF m 325 #[iv qa, iv qb, iv qc, iv qd, iv qs, iv 4, iv ya, iv yb, iv yc, iv yd, rv b78, iv 0, rv b68] [])) (fun t k => XS.istore X90.here hx rfl (hb hby at_323) rfl (l' := #[iv qa, iv qb, iv qc, iv qd, iv qs, iv 4, iv ya, iv yb, iv yc, iv yd, rv b78, iv 0, rv b68]) rfl k) ?_
        exact J325 T90 T89.heap _ s.vm _ (4 : Int32) ya yb yc yd (0 : Int32) b78 ([ya, yb, yc, yd] : List Int32) (rv b68) (own_mono X90 (by decide) (by decide)) e90 N90 Zs89 Ol89 hS0 (((((((Le0.ext E68).wr W70).wr W72).wr W74).wr W76).ext E78).keep K89) hZ hown (own_IBm I0 rfl (by simp)) Sx89 (if_neg (fun q => hc91 (q.2.2 _ (by simp)))).symm (Or.inr ⟨_, rfl, rfl⟩)
  | 5, _, hX10 =>
    replace hX10 : ((qs &&& (2147483647 : Int32)) % (8 : Int32)) = (5 : Int32) := hX10
    rw [hX10]
    refine own_go (b := s₁.setTop (mkF m 40 #[iv qa, iv qb, iv qc, iv qd, iv qs, iv 5, iv ya, iv yb, iv yc, iv yd, .unset, .unset, .unset] [(.int 5)])) (fun t k => XS.iload X0.here hx rfl (hb hby at_38) rfl  k) ?_
    refine own_go (b := s₁.setTop (mkF m 41 #[iv qa, iv qb, iv qc, iv qd, iv qs, iv 5, iv ya, iv yb, iv yc, iv yd, .unset, .unset, .unset] [(.int 5), (.int 5)])) (fun t k => XS.iconst X0.here hx rfl (hb hby at_40) k) ?_
    refine own_go (b := s₁.setTop (mkF m 44 #[iv qa, iv qb, iv qc, iv qd, iv qs, iv 5, iv ya, iv yb, iv yc, iv yd, .unset, .unset, .unset] [])) (fun t k => XS.icmpNo X0.here hx rfl (hb hby at_41) rfl (teq (rfl : (5 : Int32) = (5 : Int32))).2 k) ?_
    refine own_go (b := s₁.setTop (mkF m 45 #[iv qa, iv qb, iv qc, iv qd, iv qs, iv 5, iv ya, iv yb, iv yc, iv yd, .unset, .unset, .unset] [.null])) (fun t k => XS.aconstNull X0.here hx rfl (hb hby at_44) k) ?_
    refine own_go (b := s₁.setTop (mkF m 47 #[iv qa, iv qb, iv qc, iv qd, iv qs, iv 5, iv ya, iv yb, iv yc, iv yd, .val .null, .unset, .unset] [])) (fun t k => XS.astore X0.here hx rfl (hb hby at_45) rfl rfl (l' := #[iv qa, iv qb, iv qc, iv qd, iv qs, iv 5, iv ya, iv yb, iv yc, iv yd, .val .null, .unset, .unset]) rfl k) ?_
    refine own_go (b := s₁.setTop (mkF m 48 #[iv qa, iv qb, iv qc, iv qd, iv qs, iv 5, iv ya, iv yb, iv yc, iv yd, .val .null, .unset, .unset] [(.int 0)])) (fun t k => XS.iconst X0.here hx rfl (hb hby at_47) k) ?_
    refine own_go (b := s₁.setTop (mkF m 50 #[iv qa, iv qb, iv qc, iv qd, iv qs, iv 5, iv ya, iv yb, iv yc, iv yd, .val .null, iv 0, .unset] [])) (fun t k => XS.istore X0.here hx rfl (hb hby at_48) rfl (l' := #[iv qa, iv qb, iv qc, iv qd, iv qs, iv 5, iv ya, iv yb, iv yc, iv yd, .val .null, iv 0, .unset]) rfl k) ?_
    refine own_go (b := s₁.setTop (mkF m 325 #[iv qa, iv qb, iv qc, iv qd, iv qs, iv 5, iv ya, iv yb, iv yc, iv yd, .val .null, iv 0, .unset] [])) (fun t k => XS.goto X0.here hx rfl (pc0 := 50) (pc' := 325) rfl (hb hby at_50) (by decide) (by decide) k) ?_
    refine own_go (b := s₁.setTop (mkF m 327 #[iv qa, iv qb, iv qc, iv qd, iv qs, iv 5, iv ya, iv yb, iv yc, iv yd, .val .null, iv 0, .unset] [.null])) (fun t k => XS.aload X0.here hx rfl (hb hby at_325) rfl rfl k) ?_
    obtain ⟨_, _, ⟨T98, L98, k98, n98⟩, -, X98, ⟨Lc98, hQ98, l98, y98, z98⟩, st98⟩ := Jvm.LawKit.callS X0 hx (y := (⟨"com/example/fault/fault/TraceId", "parse", "(Ljava/lang/String;)Ljava/util/Optional;"⟩ : MethodName)) hown (mvT hZ (hw _ (List.mem_of_getElem? (i := 24) rfl))) (mvT hZ (hw _ (List.mem_of_getElem? (i := 25) rfl))) (mvT hZ (hw _ (List.mem_of_getElem? (i := 26) rfl))) (mvT hZ (hw _ (List.mem_of_getElem? (i := 27) rfl))) (by decide) (backOf (W := 0) (rm4z l Z a0 hw []  em h0 n0 Z0 Od Sm) hZ (hw _ (List.mem_of_getElem? (i := 27) rfl)) (hw _ (List.mem_of_getElem? (i := 26) rfl)) (by decide) (by decide)) (g := (mkF m 327 #[iv qa, iv qb, iv qc, iv qd, iv qs, iv 5, iv ya, iv yb, iv yc, iv yd, .val .null, iv 0, .unset] [.null])) rfl (by rw [hml]; rfl) (argsL := [.null]) (rest := []) (lenOf pd_22 rfl) rfl (by show 2 * 0 + _ ≤ _; exact Nat.le_of_eq rfl) (hb hby at_327) (fun _ _ => ⟨rfl, e0, (by decide : 0 + 2 ≤ _), (by decide : 0 + 2 ≤ _)⟩)
    dsimp only [Pt.U, Pt.locs, Pt.cells, Pt.slots] at X98 l98 y98 z98 st98 hQ98
    subst l98 y98 z98
    obtain ⟨rfl, N98q, e98⟩ := hQ98
    have N98 := Fr.app N0 N98q
    obtain ⟨lq98, X98, N98⟩ : ∃ lq, Stand p l e room_1 (s.setVm s.vm) m #[(.int qa), (.int qb), (.int qc), (.int qd), (.int qs)] below meth c T98 lq 2 2 ∧ Fr n0 lq := ⟨_, X98, N98⟩
    refine own_go (b := T98.setTop (mkF m 330 #[iv qa, iv qb, iv qc, iv qd, iv qs, iv 5, iv ya, iv yb, iv yc, iv yd, .val .null, iv 0, .unset] [(.ref em)])) st98 ?_
    refine own_go (b := T98.setTop (mkF m 332 #[iv qa, iv qb, iv qc, iv qd, iv qs, iv 5, iv ya, iv yb, iv yc, iv yd, .val .null, iv 0, rv em] [])) (fun t k => XS.astore X98.here hx rfl (hb hby at_330) rfl rfl (l' := #[iv qa, iv qb, iv qc, iv qd, iv qs, iv 5, iv ya, iv yb, iv yc, iv yd, .val .null, iv 0, rv em]) rfl k) ?_
    refine own_go (b := T98.setTop (mkF m 334 #[iv qa, iv qb, iv qc, iv qd, iv qs, iv 5, iv ya, iv yb, iv yc, iv yd, .val .null, iv 0, rv em] [(.int 0)])) (fun t k => XS.iload X98.here hx rfl (hb hby at_332) rfl  k) ?_
    refine own_go (b := T98.setTop (mkF m 337 #[iv qa, iv qb, iv qc, iv qd, iv qs, iv 5, iv ya, iv yb, iv yc, iv yd, .val .null, iv 0, rv em] [])) (fun t k => XS.ifNo X98.here hx rfl (hb hby at_334) rfl ((if0 _ _).trans (teq (rfl : (0 : Int32) = (0 : Int32))).2) k) ?_
    refine own_go (b := T98.setTop (mkF m 339 #[iv qa, iv qb, iv qc, iv qd, iv qs, iv 5, iv ya, iv yb, iv yc, iv yd, .val .null, iv 0, rv em] [(.ref em)])) (fun t k => XS.aload X98.here hx rfl (hb hby at_337) rfl rfl k) ?_
    obtain ⟨cq99, kq99, q99a, q99b, q99c⟩ := isOf hZ e98 (Em.ext Od.2)
    obtain ⟨_, _, ⟨T99, L99, k99, n99⟩, -, X99, ⟨Lc99, hQ99, l99, y99, z99⟩, st99⟩ := X98.virtualBack hx (y := (⟨"java/util/Optional", "isPresent", "()Z"⟩ : MethodName)) (z := (⟨"java/util/Optional", "isPresent", "()Z"⟩ : MethodName)) hown (mvT hZ (hw _ (List.mem_of_getElem? (i := 41) rfl))) (mvT hZ (hw _ (List.mem_of_getElem? (i := 42) rfl))) (notFace_of_selects (args := #[]) (mvT hZ (hw _ (List.mem_of_getElem? (i := 44) rfl)))) (mvT hZ (hw _ (List.mem_of_getElem? (i := 44) rfl))) (mvT hZ (hw _ (List.mem_of_getElem? (i := 43) rfl))) (by decide) (backOf (W := 0) (rm8n l Z a0 hw [] em  h0 n0 Z0 (Fm.ext Od.2)) hZ (hw _ (List.mem_of_getElem? (i := 45) rfl)) (hw _ (List.mem_of_getElem? (i := 38) rfl)) (by decide) (by decide)) q99a q99c (g := (mkF m 339 #[iv qa, iv qb, iv qc, iv qd, iv qs, iv 5, iv ya, iv yb, iv yc, iv yd, .val .null, iv 0, rv em] [(.ref em)])) rfl (by rw [hml]; rfl) (Steps.refl _) (argsL := []) (rest := []) (lenOf pd_5 rfl) rfl (by show 2 * 0 + _ ≤ _; exact Nat.le_of_eq rfl) (hb hby at_339) (fun _ _ => ⟨rfl, e98, (by decide : 2 + 0 ≤ _), (by decide : 2 + 0 ≤ _)⟩)
    dsimp only [Pt.U, Pt.locs, Pt.cells, Pt.slots] at X99 l99 y99 z99 st99 hQ99
    subst l99 y99 z99
    obtain ⟨rfl, N99q, e99⟩ := hQ99
    have N99 := Fr.app N98 N99q
    obtain ⟨lq99, X99, N99⟩ : ∃ lq, Stand p l e room_1 (s.setVm s.vm) m #[(.int qa), (.int qb), (.int qc), (.int qd), (.int qs)] below meth c T99 lq 2 2 ∧ Fr n0 lq := ⟨_, X99, N99⟩
    refine own_tr (b := T99.setTop (mkF m 342 #[iv qa, iv qb, iv qc, iv qd, iv qs, iv 5, iv ya, iv yb, iv yc, iv yd, .val .null, iv 0, rv em] [(.int 0)])) st99 ?_
    refine own_go (b := T99.setTop (mkF m 345 #[iv qa, iv qb, iv qc, iv qd, iv qs, iv 5, iv ya, iv yb, iv yc, iv yd, .val .null, iv 0, rv em] [])) (fun t k => XS.ifNo X99.here hx rfl (hb hby at_342) rfl ((if0 _ _).trans (teq (rfl : (0 : Int32) = (0 : Int32))).2) k) ?_
    refine own_go (b := T99.setTop (mkF m 346 #[iv qa, iv qb, iv qc, iv qd, iv qs, iv 5, iv ya, iv yb, iv yc, iv yd, .val .null, iv 0, rv em] [(.int 1)])) (fun t k => XS.iconst X99.here hx rfl (hb hby at_345) k) ?_
    refine own_go (b := T99.setTop (mkF m 350 #[iv qa, iv qb, iv qc, iv qd, iv qs, iv 5, iv ya, iv yb, iv yc, iv yd, .val .null, iv 0, rv em] [(.int 1)])) (fun t k => XS.goto X99.here hx rfl (pc0 := 346) (pc' := 350) rfl (hb hby at_346) (by decide) (by decide) k) ?_
    exact own_retNW X99 hx hlk hS0 (own_LeT Le0 e99) I0 (by simp) (t := .boolean) hrt (by simp) (hb hby at_350) (Nat.le_of_ble_eq_true rfl) (Nat.le_of_ble_eq_true rfl) (⟨rfl, N99⟩)
  | 6, _, hX10 =>
    replace hX10 : ((qs &&& (2147483647 : Int32)) % (8 : Int32)) = (6 : Int32) := hX10
    rw [hX10]
    refine own_go (b := s₁.setTop (mkF m 40 #[iv qa, iv qb, iv qc, iv qd, iv qs, iv 6, iv ya, iv yb, iv yc, iv yd, .unset, .unset, .unset] [(.int 6)])) (fun t k => XS.iload X0.here hx rfl (hb hby at_38) rfl  k) ?_
    refine own_go (b := s₁.setTop (mkF m 41 #[iv qa, iv qb, iv qc, iv qd, iv qs, iv 6, iv ya, iv yb, iv yc, iv yd, .unset, .unset, .unset] [(.int 5), (.int 6)])) (fun t k => XS.iconst X0.here hx rfl (hb hby at_40) k) ?_
    refine own_go (b := s₁.setTop (mkF m 53 #[iv qa, iv qb, iv qc, iv qd, iv qs, iv 6, iv ya, iv yb, iv yc, iv yd, .unset, .unset, .unset] [])) (fun t k => XS.icmpYes X0.here hx rfl (pc0 := 41) (pc' := 53) rfl (hb hby at_41) rfl (feq (by decide : ¬ ((6 : Int32) = (5 : Int32)))).2 (by decide) (by decide) k) ?_
    refine own_go (b := s₁.setTop (mkF m 55 #[iv qa, iv qb, iv qc, iv qd, iv qs, iv 6, iv ya, iv yb, iv yc, iv yd, .unset, .unset, .unset] [(.int 6)])) (fun t k => XS.iload X0.here hx rfl (hb hby at_53) rfl  k) ?_
    refine own_go (b := s₁.setTop (mkF m 57 #[iv qa, iv qb, iv qc, iv qd, iv qs, iv 6, iv ya, iv yb, iv yc, iv yd, .unset, .unset, .unset] [(.int 6), (.int 6)])) (fun t k => XS.bipush X0.here hx rfl (hb hby at_55) k) ?_
    refine own_go (b := s₁.setTop (mkF m 60 #[iv qa, iv qb, iv qc, iv qd, iv qs, iv 6, iv ya, iv yb, iv yc, iv yd, .unset, .unset, .unset] [])) (fun t k => XS.icmpNo X0.here hx rfl (hb hby at_57) rfl (teq (rfl : (6 : Int32) = (6 : Int32))).2 k) ?_
    obtain ⟨ax100, T100, h100, k100, X100, e100, E100, hS100, Le100, hZ, hown, Sv100, I100, Lt100, st100⟩ := own_ldc X0 hx hZ hown (hw _ (List.mem_of_getElem? (i := 128) rfl)) (fun a ha => hw a (own_wS a ha)) e0 hS0 Le0 (Fr.nil _) hkeep I0 (by simp) (Hc _ (List.mem_of_getElem? (i := 0) rfl)) hcw (cs := [48, 49, 50, 51, 52, 53, 54, 55, 56, 57, 97, 98, 99, 100, 101, 102, 48, 49, 50, 51, 52, 53, 54, 55, 56, 57, 97, 98, 99, 100, 101, 102, 48, 49, 50, 51, 52, 53, 54, 55, 56, 57, 97, 98, 99, 100, 101, 102, 48, 49, 50, 51, 52, 53, 54, 55, 56, 57, 97, 98, 99, 100, 101, 102, 48, 49, 50, 51, 52, 53, 54, 55, 56, 57, 97, 98, 99, 100, 101, 102, 48, 49, 50, 51, 52, 53, 54, 55, 56, 57, 97, 98, 99, 100, 101, 102, 48, 49, 50, 51, 52, 53, 54, 55, 56, 57, 97, 98, 99, 100, 101, 102, 48, 49, 50, 51, 52, 53, 54, 55, 56, 57, 97, 98, 99, 100, 101, 102]) ⟨by decide +kernel, by decide +kernel⟩ (by decide +kernel) (by decide) (g := (mkF m 60 #[iv qa, iv qb, iv qc, iv qd, iv qs, iv 6, iv ya, iv yb, iv yc, iv yd, .unset, .unset, .unset] [])) rfl (hb hby at_60) (n := 512) (by decide +kernel) (by decide) (by decide) (by decide)
    have Zs100 : n0 ≤ h100.size := Nat.le_trans Z0 E100.1
    have Ol100 := Od.ext E100
    refine own_go (b := T100.setTop (mkF m 62 #[iv qa, iv qb, iv qc, iv qd, iv qs, iv 6, iv ya, iv yb, iv yc, iv yd, .unset, .unset, .unset] [(.ref ax100)])) st100 ?_
    refine own_go (b := T100.setTop (mkF m 64 #[iv qa, iv qb, iv qc, iv qd, iv qs, iv 6, iv ya, iv yb, iv yc, iv yd, rv ax100, .unset, .unset] [])) (fun t k => XS.astore X100.here hx rfl (hb hby at_62) rfl rfl (l' := #[iv qa, iv qb, iv qc, iv qd, iv qs, iv 6, iv ya, iv yb, iv yc, iv yd, rv ax100, .unset, .unset]) rfl k) ?_
    refine own_go (b := T100.setTop (mkF m 66 #[iv qa, iv qb, iv qc, iv qd, iv qs, iv 6, iv ya, iv yb, iv yc, iv yd, rv ax100, .unset, .unset] [(.ref ax100)])) (fun t k => XS.aload X100.here hx rfl (hb hby at_64) rfl rfl k) ?_
    obtain ⟨cq101, kq101, q101a, q101b, q101c⟩ := isOf hZ e100 (own_St.exa Sv100)
    obtain ⟨_, _, ⟨T101, L101, k101, n101⟩, -, X101, ⟨Lc101, hQ101, l101, y101, z101⟩, st101⟩ := X100.virtualBack hx (y := (⟨"java/lang/String", "length", "()I"⟩ : MethodName)) (z := (⟨"java/lang/String", "length", "()I"⟩ : MethodName)) hown (mvT hZ (hw _ (List.mem_of_getElem? (i := 49) rfl))) (mvT hZ (hw _ (List.mem_of_getElem? (i := 50) rfl))) (notFace_of_selects (args := #[]) (mvT hZ (hw _ (List.mem_of_getElem? (i := 52) rfl)))) (mvT hZ (hw _ (List.mem_of_getElem? (i := 52) rfl))) (mvT hZ (hw _ (List.mem_of_getElem? (i := 51) rfl))) (by decide) (own_lenS (W := 0) hZ hw (own_Sx.ofSt (cs := own_l0) Sv100) (z := (128 : Int32)) (by rw [own_l0_len]; rfl) (O2.ext Ol100.2) P5 (by decide) (by decide)) q101a q101c (g := (mkF m 66 #[iv qa, iv qb, iv qc, iv qd, iv qs, iv 6, iv ya, iv yb, iv yc, iv yd, rv ax100, .unset, .unset] [(.ref ax100)])) rfl (by rw [hml]; rfl) (Steps.refl _) (argsL := []) (rest := []) (lenOf pd_14 rfl) rfl (by show 2 * 0 + _ ≤ _; exact Nat.le_of_eq rfl) (hb hby at_66) (fun _ _ => ⟨rfl, e100, (by decide : 2 + 0 ≤ _), (by decide : 516 + 0 ≤ _)⟩)
    dsimp only [Pt.U, Pt.locs, Pt.cells, Pt.slots] at X101 l101 y101 z101 st101 hQ101
    subst l101 y101 z101
    obtain ⟨rfl, rfl, e101⟩ := hQ101
    have N101 := Fr.app N0 (Fr.nil n0)
    obtain ⟨lq101, X101, N101⟩ : ∃ lq, Stand p l e room_1 (s.setVm T100.vm) m #[(.int qa), (.int qb), (.int qc), (.int qd), (.int qs)] below meth c T101 lq 2 516 ∧ Fr n0 lq := ⟨_, X101, N101⟩
    refine own_tr (b := T101.setTop (mkF m 69 #[iv qa, iv qb, iv qc, iv qd, iv qs, iv 6, iv ya, iv yb, iv yc, iv yd, rv ax100, .unset, .unset] [(.int 128)])) st101 ?_
    refine own_go (b := T101.setTop (mkF m 70 #[iv qa, iv qb, iv qc, iv qd, iv qs, iv 6, iv ya, iv yb, iv yc, iv yd, rv ax100, .unset, .unset] [(.int 1), (.int 128)])) (fun t k => XS.iconst X101.here hx rfl (hb hby at_69) k) ?_
    refine own_go (b := T101.setTop (mkF m 73 #[iv qa, iv qb, iv qc, iv qd, iv qs, iv 6, iv ya, iv yb, iv yc, iv yd, rv ax100, .unset, .unset] [])) (fun t k => XS.icmpNo X101.here hx rfl (hb hby at_70) rfl (flt (by decide : ¬ ((128 : Int32) < (1 : Int32)))).1 k) ?_
    refine own_go (b := T101.setTop (mkF m 75 #[iv qa, iv qb, iv qc, iv qd, iv qs, iv 6, iv ya, iv yb, iv yc, iv yd, rv ax100, .unset, .unset] [(.ref ax100)])) (fun t k => XS.aload X101.here hx rfl (hb hby at_73) rfl rfl k) ?_
    obtain ⟨cq102, kq102, q102a, q102b, q102c⟩ := isOf hZ e101 (own_St.exa Sv100)
    obtain ⟨_, _, ⟨T102, L102, k102, n102⟩, -, X102, ⟨Lc102, hQ102, l102, y102, z102⟩, st102⟩ := X101.virtualBack hx (y := (⟨"java/lang/String", "length", "()I"⟩ : MethodName)) (z := (⟨"java/lang/String", "length", "()I"⟩ : MethodName)) hown (mvT hZ (hw _ (List.mem_of_getElem? (i := 49) rfl))) (mvT hZ (hw _ (List.mem_of_getElem? (i := 50) rfl))) (notFace_of_selects (args := #[]) (mvT hZ (hw _ (List.mem_of_getElem? (i := 52) rfl)))) (mvT hZ (hw _ (List.mem_of_getElem? (i := 52) rfl))) (mvT hZ (hw _ (List.mem_of_getElem? (i := 51) rfl))) (by decide) (own_lenS (W := 0) hZ hw (own_Sx.ofSt (cs := own_l0) Sv100) (z := (128 : Int32)) (by rw [own_l0_len]; rfl) (O2.ext Ol100.2) P5 (by decide) (by decide)) q102a q102c (g := (mkF m 75 #[iv qa, iv qb, iv qc, iv qd, iv qs, iv 6, iv ya, iv yb, iv yc, iv yd, rv ax100, .unset, .unset] [(.ref ax100)])) rfl (by rw [hml]; rfl) (Steps.refl _) (argsL := []) (rest := []) (lenOf pd_14 rfl) rfl (by show 2 * 0 + _ ≤ _; exact Nat.le_of_eq rfl) (hb hby at_75) (fun _ _ => ⟨rfl, e101, (by decide : 2 + 0 ≤ _), (by decide : 516 + 0 ≤ _)⟩)
    dsimp only [Pt.U, Pt.locs, Pt.cells, Pt.slots] at X102 l102 y102 z102 st102 hQ102
    subst l102 y102 z102
    obtain ⟨rfl, rfl, e102⟩ := hQ102
    have N102 := Fr.app N101 (Fr.nil n0)
    obtain ⟨lq102, X102, N102⟩ : ∃ lq, Stand p l e room_1 (s.setVm T100.vm) m #[(.int qa), (.int qb), (.int qc), (.int qd), (.int qs)] below meth c T102 lq 2 516 ∧ Fr n0 lq := ⟨_, X102, N102⟩
    refine own_tr (b := T102.setTop (mkF m 78 #[iv qa, iv qb, iv qc, iv qd, iv qs, iv 6, iv ya, iv yb, iv yc, iv yd, rv ax100, .unset, .unset] [(.int 128)])) st102 ?_
    refine own_go (b := T102.setTop (mkF m 81 #[iv qa, iv qb, iv qc, iv qd, iv qs, iv 6, iv ya, iv yb, iv yc, iv yd, rv ax100, .unset, .unset] [(.int 128), (.int 128)])) (fun t k => XS.sipush X102.here hx rfl (hb hby at_78) k) ?_
    refine own_go (b := T102.setTop (mkF m 84 #[iv qa, iv qb, iv qc, iv qd, iv qs, iv 6, iv ya, iv yb, iv yc, iv yd, rv ax100, .unset, .unset] [])) (fun t k => XS.icmpNo X102.here hx rfl (hb hby at_81) rfl (flt (by decide : ¬ ((128 : Int32) < (128 : Int32)))).2.2.1 k) ?_
    refine own_go (b := T102.setTop (mkF m 85 #[iv qa, iv qb, iv qc, iv qd, iv qs, iv 6, iv ya, iv yb, iv yc, iv yd, rv ax100, .unset, .unset] [(.int 1)])) (fun t k => XS.iconst X102.here hx rfl (hb hby at_84) k) ?_
    refine own_go (b := T102.setTop (mkF m 89 #[iv qa, iv qb, iv qc, iv qd, iv qs, iv 6, iv ya, iv yb, iv yc, iv yd, rv ax100, .unset, .unset] [(.int 1)])) (fun t k => XS.goto X102.here hx rfl (pc0 := 85) (pc' := 89) rfl (hb hby at_85) (by decide) (by decide) k) ?_
    refine own_go (b := T102.setTop (mkF m 91 #[iv qa, iv qb, iv qc, iv qd, iv qs, iv 6, iv ya, iv yb, iv yc, iv yd, rv ax100, iv 1, .unset] [])) (fun t k => XS.istore X102.here hx rfl (hb hby at_89) rfl (l' := #[iv qa, iv qb, iv qc, iv qd, iv qs, iv 6, iv ya, iv yb, iv yc, iv yd, rv ax100, iv 1, .unset]) rfl k) ?_
    refine own_go (b := T102.setTop (mkF m 325 #[iv qa, iv qb, iv qc, iv qd, iv qs, iv 6, iv ya, iv yb, iv yc, iv yd, rv ax100, iv 1, .unset] [])) (fun t k => XS.goto X102.here hx rfl (pc0 := 91) (pc' := 325) rfl (hb hby at_91) (by decide) (by decide) k) ?_
    exact J325 T102 h100 _ T100.vm _ (6 : Int32) ya yb yc yd (1 : Int32) ax100 own_l0 (.unset) (own_mono X102 (by decide) (by decide)) e102 N102 Zs100 Ol100 hS100 Le100 hZ hown (own_IBm I100 rfl (by simp)) (own_Sx.ofSt (cs := own_l0) Sv100) (if_pos own_l0_wf).symm (Or.inl rfl)
  | 7, _, hX10 =>
    replace hX10 : ((qs &&& (2147483647 : Int32)) % (8 : Int32)) = (7 : Int32) := hX10
    rw [hX10]
    refine own_go (b := s₁.setTop (mkF m 40 #[iv qa, iv qb, iv qc, iv qd, iv qs, iv 7, iv ya, iv yb, iv yc, iv yd, .unset, .unset, .unset] [(.int 7)])) (fun t k => XS.iload X0.here hx rfl (hb hby at_38) rfl  k) ?_
    refine own_go (b := s₁.setTop (mkF m 41 #[iv qa, iv qb, iv qc, iv qd, iv qs, iv 7, iv ya, iv yb, iv yc, iv yd, .unset, .unset, .unset] [(.int 5), (.int 7)])) (fun t k => XS.iconst X0.here hx rfl (hb hby at_40) k) ?_
    refine own_go (b := s₁.setTop (mkF m 53 #[iv qa, iv qb, iv qc, iv qd, iv qs, iv 7, iv ya, iv yb, iv yc, iv yd, .unset, .unset, .unset] [])) (fun t k => XS.icmpYes X0.here hx rfl (pc0 := 41) (pc' := 53) rfl (hb hby at_41) rfl (feq (by decide : ¬ ((7 : Int32) = (5 : Int32)))).2 (by decide) (by decide) k) ?_
    refine own_go (b := s₁.setTop (mkF m 55 #[iv qa, iv qb, iv qc, iv qd, iv qs, iv 7, iv ya, iv yb, iv yc, iv yd, .unset, .unset, .unset] [(.int 7)])) (fun t k => XS.iload X0.here hx rfl (hb hby at_53) rfl  k) ?_
    refine own_go (b := s₁.setTop (mkF m 57 #[iv qa, iv qb, iv qc, iv qd, iv qs, iv 7, iv ya, iv yb, iv yc, iv yd, .unset, .unset, .unset] [(.int 6), (.int 7)])) (fun t k => XS.bipush X0.here hx rfl (hb hby at_55) k) ?_
    refine own_go (b := s₁.setTop (mkF m 94 #[iv qa, iv qb, iv qc, iv qd, iv qs, iv 7, iv ya, iv yb, iv yc, iv yd, .unset, .unset, .unset] [])) (fun t k => XS.icmpYes X0.here hx rfl (pc0 := 57) (pc' := 94) rfl (hb hby at_57) rfl (feq (by decide : ¬ ((7 : Int32) = (6 : Int32)))).2 (by decide) (by decide) k) ?_
    refine own_go (b := s₁.setTop (mkF m 96 #[iv qa, iv qb, iv qc, iv qd, iv qs, iv 7, iv ya, iv yb, iv yc, iv yd, .unset, .unset, .unset] [(.int 7)])) (fun t k => XS.iload X0.here hx rfl (hb hby at_94) rfl  k) ?_
    refine own_go (b := s₁.setTop (mkF m 98 #[iv qa, iv qb, iv qc, iv qd, iv qs, iv 7, iv ya, iv yb, iv yc, iv yd, .unset, .unset, .unset] [(.int 7), (.int 7)])) (fun t k => XS.bipush X0.here hx rfl (hb hby at_96) k) ?_
    refine own_go (b := s₁.setTop (mkF m 101 #[iv qa, iv qb, iv qc, iv qd, iv qs, iv 7, iv ya, iv yb, iv yc, iv yd, .unset, .unset, .unset] [])) (fun t k => XS.icmpNo X0.here hx rfl (hb hby at_98) rfl (teq (rfl : (7 : Int32) = (7 : Int32))).2 k) ?_
    obtain ⟨ax103, T103, h103, k103, X103, e103, E103, hS103, Le103, hZ, hown, Sv103, I103, Lt103, st103⟩ := own_ldc X0 hx hZ hown (hw _ (List.mem_of_getElem? (i := 48) rfl)) (fun a ha => hw a (own_wS a ha)) e0 hS0 Le0 (Fr.nil _) hkeep I0 (by simp) (Hc _ (List.mem_of_getElem? (i := 1) rfl)) hcw (cs := [65, 66, 67, 68, 69, 70, 71, 72, 73, 74, 46, 75, 76, 77, 78, 95, 65, 66, 67, 68, 69, 70, 71, 72, 73, 74, 46, 75, 76, 77, 78, 95, 65, 66, 67, 68, 69, 70, 71, 72, 73, 74, 46, 75, 76, 77, 78, 95, 65, 66, 67, 68, 69, 70, 71, 72, 73, 74, 46, 75, 76, 77, 78, 95, 65, 66, 67, 68, 69, 70, 71, 72, 73, 74, 46, 75, 76, 77, 78, 95, 65, 66, 67, 68, 69, 70, 71, 72, 73, 74, 46, 75, 76, 77, 78, 95, 65, 66, 67, 68, 69, 70, 71, 72, 73, 74, 46, 75, 76, 77, 78, 95, 65, 66, 67, 68, 69, 70, 71, 72, 73, 74, 46, 75, 76, 77, 78, 95, 45]) ⟨by decide +kernel, by decide +kernel⟩ (by decide +kernel) (by decide) (g := (mkF m 101 #[iv qa, iv qb, iv qc, iv qd, iv qs, iv 7, iv ya, iv yb, iv yc, iv yd, .unset, .unset, .unset] [])) rfl (hb hby at_101) (n := 516) (by decide +kernel) (by decide) (by decide) (by decide)
    have Zs103 : n0 ≤ h103.size := Nat.le_trans Z0 E103.1
    have Ol103 := Od.ext E103
    refine own_go (b := T103.setTop (mkF m 103 #[iv qa, iv qb, iv qc, iv qd, iv qs, iv 7, iv ya, iv yb, iv yc, iv yd, .unset, .unset, .unset] [(.ref ax103)])) st103 ?_
    refine own_go (b := T103.setTop (mkF m 105 #[iv qa, iv qb, iv qc, iv qd, iv qs, iv 7, iv ya, iv yb, iv yc, iv yd, rv ax103, .unset, .unset] [])) (fun t k => XS.astore X103.here hx rfl (hb hby at_103) rfl rfl (l' := #[iv qa, iv qb, iv qc, iv qd, iv qs, iv 7, iv ya, iv yb, iv yc, iv yd, rv ax103, .unset, .unset]) rfl k) ?_
    refine own_go (b := T103.setTop (mkF m 107 #[iv qa, iv qb, iv qc, iv qd, iv qs, iv 7, iv ya, iv yb, iv yc, iv yd, rv ax103, .unset, .unset] [(.ref ax103)])) (fun t k => XS.aload X103.here hx rfl (hb hby at_105) rfl rfl k) ?_
    obtain ⟨cq104, kq104, q104a, q104b, q104c⟩ := isOf hZ e103 (own_St.exa Sv103)
    obtain ⟨_, _, ⟨T104, L104, k104, n104⟩, -, X104, ⟨Lc104, hQ104, l104, y104, z104⟩, st104⟩ := X103.virtualBack hx (y := (⟨"java/lang/String", "length", "()I"⟩ : MethodName)) (z := (⟨"java/lang/String", "length", "()I"⟩ : MethodName)) hown (mvT hZ (hw _ (List.mem_of_getElem? (i := 49) rfl))) (mvT hZ (hw _ (List.mem_of_getElem? (i := 50) rfl))) (notFace_of_selects (args := #[]) (mvT hZ (hw _ (List.mem_of_getElem? (i := 52) rfl)))) (mvT hZ (hw _ (List.mem_of_getElem? (i := 52) rfl))) (mvT hZ (hw _ (List.mem_of_getElem? (i := 51) rfl))) (by decide) (own_lenS (W := 0) hZ hw (own_Sx.ofSt (cs := own_l1) Sv103) (z := (129 : Int32)) (by rw [own_l1_len]; rfl) (O2.ext Ol103.2) P5 (by decide) (by decide)) q104a q104c (g := (mkF m 107 #[iv qa, iv qb, iv qc, iv qd, iv qs, iv 7, iv ya, iv yb, iv yc, iv yd, rv ax103, .unset, .unset] [(.ref ax103)])) rfl (by rw [hml]; rfl) (Steps.refl _) (argsL := []) (rest := []) (lenOf pd_14 rfl) rfl (by show 2 * 0 + _ ≤ _; exact Nat.le_of_eq rfl) (hb hby at_107) (fun _ _ => ⟨rfl, e103, (by decide : 2 + 0 ≤ _), (by decide : 520 + 0 ≤ _)⟩)
    dsimp only [Pt.U, Pt.locs, Pt.cells, Pt.slots] at X104 l104 y104 z104 st104 hQ104
    subst l104 y104 z104
    obtain ⟨rfl, rfl, e104⟩ := hQ104
    have N104 := Fr.app N0 (Fr.nil n0)
    obtain ⟨lq104, X104, N104⟩ : ∃ lq, Stand p l e room_1 (s.setVm T103.vm) m #[(.int qa), (.int qb), (.int qc), (.int qd), (.int qs)] below meth c T104 lq 2 520 ∧ Fr n0 lq := ⟨_, X104, N104⟩
    refine own_tr (b := T104.setTop (mkF m 110 #[iv qa, iv qb, iv qc, iv qd, iv qs, iv 7, iv ya, iv yb, iv yc, iv yd, rv ax103, .unset, .unset] [(.int 129)])) st104 ?_
    refine own_go (b := T104.setTop (mkF m 111 #[iv qa, iv qb, iv qc, iv qd, iv qs, iv 7, iv ya, iv yb, iv yc, iv yd, rv ax103, .unset, .unset] [(.int 1), (.int 129)])) (fun t k => XS.iconst X104.here hx rfl (hb hby at_110) k) ?_
    refine own_go (b := T104.setTop (mkF m 114 #[iv qa, iv qb, iv qc, iv qd, iv qs, iv 7, iv ya, iv yb, iv yc, iv yd, rv ax103, .unset, .unset] [])) (fun t k => XS.icmpNo X104.here hx rfl (hb hby at_111) rfl (flt (by decide : ¬ ((129 : Int32) < (1 : Int32)))).1 k) ?_
    refine own_go (b := T104.setTop (mkF m 116 #[iv qa, iv qb, iv qc, iv qd, iv qs, iv 7, iv ya, iv yb, iv yc, iv yd, rv ax103, .unset, .unset] [(.ref ax103)])) (fun t k => XS.aload X104.here hx rfl (hb hby at_114) rfl rfl k) ?_
    obtain ⟨cq105, kq105, q105a, q105b, q105c⟩ := isOf hZ e104 (own_St.exa Sv103)
    obtain ⟨_, _, ⟨T105, L105, k105, n105⟩, -, X105, ⟨Lc105, hQ105, l105, y105, z105⟩, st105⟩ := X104.virtualBack hx (y := (⟨"java/lang/String", "length", "()I"⟩ : MethodName)) (z := (⟨"java/lang/String", "length", "()I"⟩ : MethodName)) hown (mvT hZ (hw _ (List.mem_of_getElem? (i := 49) rfl))) (mvT hZ (hw _ (List.mem_of_getElem? (i := 50) rfl))) (notFace_of_selects (args := #[]) (mvT hZ (hw _ (List.mem_of_getElem? (i := 52) rfl)))) (mvT hZ (hw _ (List.mem_of_getElem? (i := 52) rfl))) (mvT hZ (hw _ (List.mem_of_getElem? (i := 51) rfl))) (by decide) (own_lenS (W := 0) hZ hw (own_Sx.ofSt (cs := own_l1) Sv103) (z := (129 : Int32)) (by rw [own_l1_len]; rfl) (O2.ext Ol103.2) P5 (by decide) (by decide)) q105a q105c (g := (mkF m 116 #[iv qa, iv qb, iv qc, iv qd, iv qs, iv 7, iv ya, iv yb, iv yc, iv yd, rv ax103, .unset, .unset] [(.ref ax103)])) rfl (by rw [hml]; rfl) (Steps.refl _) (argsL := []) (rest := []) (lenOf pd_14 rfl) rfl (by show 2 * 0 + _ ≤ _; exact Nat.le_of_eq rfl) (hb hby at_116) (fun _ _ => ⟨rfl, e104, (by decide : 2 + 0 ≤ _), (by decide : 520 + 0 ≤ _)⟩)
    dsimp only [Pt.U, Pt.locs, Pt.cells, Pt.slots] at X105 l105 y105 z105 st105 hQ105
    subst l105 y105 z105
    obtain ⟨rfl, rfl, e105⟩ := hQ105
    have N105 := Fr.app N104 (Fr.nil n0)
    obtain ⟨lq105, X105, N105⟩ : ∃ lq, Stand p l e room_1 (s.setVm T103.vm) m #[(.int qa), (.int qb), (.int qc), (.int qd), (.int qs)] below meth c T105 lq 2 520 ∧ Fr n0 lq := ⟨_, X105, N105⟩
    refine own_tr (b := T105.setTop (mkF m 119 #[iv qa, iv qb, iv qc, iv qd, iv qs, iv 7, iv ya, iv yb, iv yc, iv yd, rv ax103, .unset, .unset] [(.int 129)])) st105 ?_
    refine own_go (b := T105.setTop (mkF m 122 #[iv qa, iv qb, iv qc, iv qd, iv qs, iv 7, iv ya, iv yb, iv yc, iv yd, rv ax103, .unset, .unset] [(.int 128), (.int 129)])) (fun t k => XS.sipush X105.here hx rfl (hb hby at_119) k) ?_
    refine own_go (b := T105.setTop (mkF m 129 #[iv qa, iv qb, iv qc, iv qd, iv qs, iv 7, iv ya, iv yb, iv yc, iv yd, rv ax103, .unset, .unset] [])) (fun t k => XS.icmpYes X105.here hx rfl (pc0 := 122) (pc' := 129) rfl (hb hby at_122) rfl (tlt (by decide : (128 : Int32) < (129 : Int32))).2.2.1 (by decide) (by decide) k) ?_
    refine own_go (b := T105.setTop (mkF m 130 #[iv qa, iv qb, iv qc, iv qd, iv qs, iv 7, iv ya, iv yb, iv yc, iv yd, rv ax103, .unset, .unset] [(.int 0)])) (fun t k => XS.iconst X105.here hx rfl (hb hby at_129) k) ?_
    refine own_go (b := T105.setTop (mkF m 132 #[iv qa, iv qb, iv qc, iv qd, iv qs, iv 7, iv ya, iv yb, iv yc, iv yd, rv ax103, iv 0, .unset] [])) (fun t k => XS.istore X105.here hx rfl (hb hby at_130) rfl (l' := #[iv qa, iv qb, iv qc, iv qd, iv qs, iv 7, iv ya, iv yb, iv yc, iv yd, rv ax103, iv 0, .unset]) rfl k) ?_
    refine own_go (b := T105.setTop (mkF m 325 #[iv qa, iv qb, iv qc, iv qd, iv qs, iv 7, iv ya, iv yb, iv yc, iv yd, rv ax103, iv 0, .unset] [])) (fun t k => XS.goto X105.here hx rfl (pc0 := 132) (pc' := 325) rfl (hb hby at_132) (by decide) (by decide) k) ?_
    exact J325 T105 h103 _ T103.vm _ (7 : Int32) ya yb yc yd (0 : Int32) ax103 own_l1 (.unset) (own_mono X105 (by decide) (by decide)) e105 N105 Zs103 Ol103 hS103 Le103 hZ hown (own_IBm I103 rfl (by simp)) (own_Sx.ofSt (cs := own_l1) Sv103) (if_neg own_l1_wf).symm (Or.inl rfl)
  | j + 8, h, _ => omega
theorem own_elemI {s : State} {t : Term} {x : Addr} {cl : Cell} {k v : Int32} {args : Array Value} (ht : t.eval args s none [] s = some (.ref x)) (hc : s.heap[x]? = some cl) (h : (Cond.eq (.elem t (.int k)) (.int v)).value args s none s [] = some true) : cl.slots[k.toNatClampNeg]? = some (.int v) := by
  have e := own_ev (u := t) h
  exact (elem_in e ht (Term.int_eval k) hc).2
theorem own_fldN {s : State} {t : Term} {C n d : String} {x : Addr} {args : Array Value} (ht : t.eval args s none [] s = some (.ref x)) (h : (Cond.eq (.field t C n d) .null).value args s none s [] = some true) : Fld s s.heap x C n d .null := by
  refine Fld.start ((fld_at ht).symm.trans ?_)
  simp only [Cond.value, Term.eval] at h ⊢
  split at h <;> simp_all
set_option maxRecDepth 65536 in
set_option maxHeartbeats 40000000 in
theorem comes_1 {Post : Tables → Env → Array Value → State → Outcome → State → Prop} (hpost : ∀ tb e args s v u, (limb_1_1.after args s (.returned v) u = true ∧ limb_1_2.after args s (.returned v) u = true ∧ True) → ReturnedEndW s (.returned v) u (Jvm.fieldLocs frame_1_writes args s ++ Jvm.arrayLocs frame_1_arrays args s ++ Jvm.staticLocs frame_1_statics s) 24 3200 → Post tb e args s (.returned v) u) :
    ArmFor flags0 classFile x code maxLocals ret World_1 tables_1 room_1 Calls_1 rest_1 Pre_1 Post := by
  intro l hfl _ _ p e ha hc hk s m args below hf hA hF happ hP
  obtain ⟨hcalls, hrest, hpre⟩ := hP
  obtain ⟨-, -, -, hnamed, -, -, -, hat⟩ := (Spec.applies_iff hf).mp happ
  obtain ⟨hg, hn⟩ := and_e (Cond.before_iff.mp (show (Jvm.Cond.and given_1 narrow_1).before args s = true from hpre))
  obtain ⟨g1, g2⟩ := and_e hg
  obtain ⟨g3, g4⟩ := and_e g2
  obtain ⟨g5, g6⟩ := and_e g4
  obtain ⟨g7, g8⟩ := and_e g6
  obtain ⟨g9, g10⟩ := and_e g8
  obtain ⟨g11, g12⟩ := and_e hn
  obtain ⟨g13, g14⟩ := and_e g12
  obtain ⟨g15, g16⟩ := and_e g14
  obtain ⟨g17, g18⟩ := and_e g16
  obtain ⟨g19, g20⟩ := and_e g18
  obtain ⟨g21, g22⟩ := and_e g20
  obtain ⟨g23, g24⟩ := and_e g22
  obtain ⟨g25, g26⟩ := and_e g24
  obtain ⟨g27, g28⟩ := and_e g26
  obtain ⟨g29, g30⟩ := and_e g28
  obtain ⟨g31, g32⟩ := and_e g30
  obtain ⟨g33, g34⟩ := and_e g32
  obtain ⟨g35, g36⟩ := and_e g34
  obtain ⟨w0, w1, w2, w3, w4, rfl⟩ : ∃ w0 w1 w2 w3 w4 : Value, args = #[w0, w1, w2, w3, w4] := by
    have hs : args.size = 5 := by simpa [Cond.value, given_1] using g1
    obtain ⟨L⟩ := args
    match L, hs with
    | [w0, w1, w2, w3, w4], _ => exact ⟨w0, w1, w2, w3, w4, rfl⟩
  have hw := fun d (hd : d ∈ tables_1) => atoms_spec (ws := Jvm.Cond.code x code maxLocals ret :: tables_1) hat d (List.mem_cons_of_mem _ hd)
  have hfit : Fit s := fun {y c} hc i hi => by
    obtain ⟨ha, rfl⟩ := Array.getElem?_eq_some_iff.mp hc
    have q := List.all_eq_true.mp ((Array.all_eq_true_iff_forall_mem.mp hF) _ (Array.getElem_mem ha)) i (List.mem_range.mpr hi)
    simpa [Array.getElem?_eq_getElem hi] using q
  obtain ⟨hsets, hown0⟩ := atoms_of _ (rest_1_c_eq ▸ (show rest_1_c.before _ s = true from hrest))
  have hr0 := Cond.before_iff.mp hown0
  obtain ⟨i0, ei0⟩ := is_v g3
  obtain rfl : w0 = (.int i0) := Option.some.inj ei0
  obtain ⟨i1, ei1⟩ := is_v g5
  obtain rfl : w1 = (.int i1) := Option.some.inj ei1
  obtain ⟨i2, ei2⟩ := is_v g7
  obtain rfl : w2 = (.int i2) := Option.some.inj ei2
  obtain ⟨i3, ei3⟩ := is_v g9
  obtain rfl : w3 = (.int i3) := Option.some.inj ei3
  obtain ⟨i4, ei4⟩ := is_v g10
  obtain rfl : w4 = (.int i4) := Option.some.inj ei4
  obtain ⟨G1, eG⟩ := is_v (Cond.before_iff.mp (hsets _ (List.mem_of_getElem? (i := 5) rfl)))
  have O2 := Sta.start eG (Or.inl (hsets _ (List.mem_of_getElem? (i := 4) rfl)))
  have P5 : ¬ (G1 = (0 : Int32)) := gotF (Cond.eq_ints eG (Term.int_eval (0))) (not_v (Cond.before_iff.mp (hsets _ (List.mem_of_getElem? (i := 6) rfl))))
  obtain ⟨fm, e3, rf⟩ := isR_v (Cond.before_iff.mp (hsets _ (List.mem_of_getElem? (i := 12) rfl)))
  have Sf := Sta.start e3 (Or.inl (hsets _ (List.mem_of_getElem? (i := 11) rfl)))
  have Sad := Sta.start (own_ev (u := .null) (Cond.before_iff.mp (hsets _ (List.mem_of_getElem? (i := 16) rfl)))) (Or.inl (hsets _ (List.mem_of_getElem? (i := 15) rfl)))
  have Shi := Sta.start (own_ev (u := .null) (Cond.before_iff.mp (hsets _ (List.mem_of_getElem? (i := 19) rfl)))) (Or.inl (hsets _ (List.mem_of_getElem? (i := 18) rfl)))
  have Slo := Sta.start (own_ev (u := .null) (Cond.before_iff.mp (hsets _ (List.mem_of_getElem? (i := 22) rfl)))) (Or.inl (hsets _ (List.mem_of_getElem? (i := 21) rfl)))
  have hem := (Cond.before_iff.mp (hsets _ (List.mem_of_getElem? (i := 2) rfl)))
  obtain ⟨em, evm⟩ := exa_v hem
  have Sm := Sta.start evm (Or.inl (hsets _ (List.mem_of_getElem? (i := 1) rfl)))
  have Em := Exa.start evm hem
  have Fm := own_fldN evm (Cond.before_iff.mp (hsets _ (List.mem_of_getElem? (i := 3) rfl)))
  obtain ⟨al, evl⟩ := arr_v g11
  have Sal := Sta.start evl (Or.inr ⟨(hw _ (List.mem_of_getElem? (i := 26) rfl)), (hw _ (List.mem_of_getElem? (i := 98) rfl))⟩)
  obtain ⟨cA, Aal⟩ := Arr.start evl g11
  have lA := own_len evl Aal.1 g13
  have Szl : cA.slots.size = 128 := by
    have q := congrArg Int32.toInt lA.1
    rw [len_toInt lA.2] at q
    have e1 : (128 : Int32).toInt = 128 := by decide
    omega
  have hA0 := own_allk evl Aal.1 g13 g15
  have hA1 := own_allk evl Aal.1 g13 g23
  have hA2 := own_allk evl Aal.1 g13 g25
  have hA3 := own_allk evl Aal.1 g13 g27
  have hA4 := own_allk evl Aal.1 g13 g29
  have hA5 := own_allk evl Aal.1 g13 g35
  have hA6 := own_allk evl Aal.1 g13 g36
  have el45 := own_elemI evl Aal.1 g17
  have el46 := own_elemI evl Aal.1 g19
  have el47 := own_elemI evl Aal.1 g21
  have el95 := own_elemI evl Aal.1 g31
  have el96 := own_elemI evl Aal.1 g33
  have Tbl := own_tbl (fun _ => evl) Aal.1 Szl hA0 el45 el46 el47 hA1 hA2 hA3 hA4 el95 el96 hA5 hA6
  obtain ⟨n, o, h1, h2, h3, _, L, rfl, ⟨rfl, N⟩, -, hq⟩ := rm0 l s _ hw tables_1 i0 i1 i2 i3 i4 G1 fm al cA em s.heap s.heap.size (Nat.le_refl _) (Old.start s) hcalls.1 (hsets _ (List.mem_of_getElem? (i := 6) rfl)) O2 P5 Sf rf Sad Shi Slo Sal Aal Szl Tbl Sm Em Fm p e ha hc hk s m _ below hf ((Spec.applies_iff_loose hf).mp happ).1 ⟨rfl, State.Warmed39.refl s, rfl, IB.start⟩ trivial
  refine ⟨n, _, h1, h2, h3, hpost _ _ _ _ _ _ ⟨Cond.after_iff.mpr rfl, Cond.after_iff.mpr (eq_i res_at (Term.int_eval (1)) rfl), trivial⟩ ⟨hq.1, hq.2.1, hq.2.2.1, (hq.2.2.2.sift fun y hy => Or.inr (N y hy)).mono (by decide) (by decide)⟩⟩
theorem main_1_1 : Claimed_1_1 := comes_1 fun _ _ _ _ _ _ h hF => ⟨h.1, hF⟩
theorem main_1_2 : Claimed_1_2 := comes_1 fun _ _ _ _ _ _ h hF => ⟨h.2.1, hF⟩
end Jvm.Pilot.@@N@@
namespace Jvm.Pilot.@@N@@
open Jvm Jvm.ClassFile Sem Op Lib Jvm.Free Jvm.Stand Jvm.Pilot.@@N@@.Jvm.D
/-! MADE BY PROGRAM (witnessworld.py) out of the Statement's table words and the real class files: 25 classes; the members and pool entries that the words name. The judged class is class 1, her method 2. -/
namespace start1
open Jvm.ClassFile
def u (s : String) : CpInfo := .utf8 (stringToUtf16 s)
/-- a pool by its gaps: so many unusable entries, then the entry; so many at the end -/
def gap : Nat → List CpInfo → List CpInfo
  | 0, r => r
  | n + 1, r => .unusable :: gap n r
def poolList (es : List (Nat × CpInfo)) (last : Nat) : List CpInfo := es.foldr (fun e r => gap e.1 (e.2 :: r)) (gap last [])
def pool (es : List (Nat × CpInfo)) (last : Nat) : Array CpInfo := ⟨poolList es last⟩
def fileOf (pool : Array CpInfo) (this : Nat) (attrs : Array Attribute := #[]) (ms : Array MethodInfo := #[]) (fl : Nat := 33) (sup : Nat := 0) (ifs : Array Nat := #[]) (fds : Array FieldInfo := #[]) : ClassFile where
  minorVersion := 0
  majorVersion := 65
  constantPool := pool
  accessFlags := fl
  thisClass := this
  superClass := sup
  interfaces := ifs
  fields := fds
  methods := ms
  attributes := attrs
def plain (name : String) (sup : Option ClassId) : Class where
  name := name
  kind := .ordinary
  loader := none
  accessFlags := 33
  super := sup
  interfaces := #[]
  cf := none
  fields := #[]
  methods := #[]
  instanceTypes := #[]
  staticTypes := #[]
  resolved := #[]
  callSites := []
  init := .initialized
  statics := none
  mirror := none

def pool0 : Array CpInfo := pool [(5, u "<init>"), (0, u "()V"), (1, .class_ 10), (1, u "java/lang/Object")] 113

def k0c0 : Code := { maxStack := 0, maxLocals := 1, code := object_method_1_code, exceptionTable := #[], attributes := #[] }
def k0m0 : Method := { name := "<init>", desc := "()V", sig := { parameters := [], returnType := none }, accessFlags := 1, code := some k0c0 }
/-- java/lang/Object -/
def k0 : Class := { plain "java/lang/Object" none with
  accessFlags := 33
  interfaces := #[]
  cf := some (fileOf pool0 8 #[] #[{ accessFlags := 1, nameIndex := 5, descriptorIndex := 6, attributes := #[] }] 33 0 #[] #[])
  fields := #[]
  methods := #[k0m0]
  instanceTypes := #[]
  staticTypes := #[]
  resolved := Array.replicate 124 none
  statics := none }

def pool1 : Array CpInfo := pool [(2, .class_ 4), (1, u "java/lang/Object"), (0, u "<init>"), (0, u "()V"), (0, .integer 2147483647), (0, .integer 65535), (0, .string 10), (0, u "0123456789abcdef0123456789abcdef0123456789abcdef0123456789abcdef0123456789abcdef0123456789abcdef0123456789abcdef0123456789abcdef"), (0, .methodref 12 13), (0, .class_ 14), (0, .nameAndType 15 16), (0, u "java/lang/String"), (0, u "length"), (0, u "()I"), (0, .string 18), (0, u "ABCDEFGHIJ.KLMN_ABCDEFGHIJ.KLMN_ABCDEFGHIJ.KLMN_ABCDEFGHIJ.KLMN_ABCDEFGHIJ.KLMN_ABCDEFGHIJ.KLMN_ABCDEFGHIJ.KLMN_ABCDEFGHIJ.KLMN_-"), (0, .methodref 12 20), (0, .nameAndType 5 21), (0, u "([C)V"), (0, .methodref 23 24), (0, .class_ 25), (0, .nameAndType 26 27), (0, u "com/example/fault/fault/TraceIdParsePinLaw"), (0, u "ok"), (0, u "(C)Z"), (0, .methodref 29 30), (0, .class_ 31), (0, .nameAndType 32 33), (0, u "com/example/fault/fault/TraceId"), (0, u "parse"), (0, u "(Ljava/lang/String;)Ljava/util/Optional;"), (0, .methodref 35 36), (0, .class_ 37), (0, .nameAndType 38 39), (0, u "java/util/Optional"), (0, u "isPresent"), (0, u "()Z"), (0, .methodref 35 41), (0, .nameAndType 42 43), (0, u "get"), (0, u "()Ljava/lang/Object;"), (0, .methodref 29 45), (0, .nameAndType 46 47), (0, u "value"), (0, u "()Ljava/lang/String;"), (0, .methodref 12 49), (0, .nameAndType 50 51), (0, u "equals"), (0, u "(Ljava/lang/Object;)Z"), (3, u "law"), (0, u "(IIIII)Z")] 4

def k1m0 : Method := { name := "<init>", desc := "()V", sig := { parameters := [], returnType := none }, accessFlags := 1, code := none }
def k1c1 : Code := { maxStack := 2, maxLocals := 1, code := method_2_code, exceptionTable := #[], attributes := #[] }
def k1m1 : Method := { name := "ok", desc := "(C)Z", sig := { parameters := [.char], returnType := some .boolean }, accessFlags := 10, code := some k1c1 }
def k1c2 : Code := { maxStack := 4, maxLocals := 13, code := code, exceptionTable := #[], attributes := #[] }
def k1m2 : Method := { name := "law", desc := "(IIIII)Z", sig := { parameters := [.int, .int, .int, .int, .int], returnType := some .boolean }, accessFlags := 9, code := some k1c2 }
/-- com/example/fault/fault/TraceIdParsePinLaw -/
def k1 : Class := { plain "com/example/fault/fault/TraceIdParsePinLaw" (some 0) with
  accessFlags := 49
  interfaces := #[]
  cf := some (fileOf pool1 23 #[] #[{ accessFlags := 1, nameIndex := 5, descriptorIndex := 6, attributes := #[] }, { accessFlags := 10, nameIndex := 26, descriptorIndex := 27, attributes := #[] }, { accessFlags := 9, nameIndex := 55, descriptorIndex := 56, attributes := #[] }] 49 2 #[] #[])
  fields := #[]
  methods := #[k1m0, k1m1, k1m2]
  instanceTypes := #[]
  staticTypes := #[]
  resolved := Array.replicate 61 none
  statics := none }

def pool2 : Array CpInfo := pool [(1, .class_ 2), (0, u "java/io/Serializable"), (0, .class_ 4), (0, u "java/lang/Object")] 2

/-- java/io/Serializable -/
def k2 : Class := { plain "java/io/Serializable" (some 0) with
  accessFlags := 1537
  interfaces := #[]
  cf := some (fileOf pool2 1 #[] #[] 1537 3 #[] #[])
  fields := #[]
  methods := #[]
  instanceTypes := #[]
  staticTypes := #[]
  resolved := Array.replicate 7 none
  statics := none }

def pool3 : Array CpInfo := pool [(1, .class_ 2), (0, u "java/lang/Comparable"), (0, .class_ 4), (0, u "java/lang/Object")] 7

/-- java/lang/Comparable -/
def k3 : Class := { plain "java/lang/Comparable" (some 0) with
  accessFlags := 1537
  interfaces := #[]
  cf := some (fileOf pool3 1 #[] #[] 1537 3 #[] #[])
  fields := #[]
  methods := #[]
  instanceTypes := #[]
  staticTypes := #[]
  resolved := Array.replicate 12 none
  statics := none }

def pool4 : Array CpInfo := pool [(2, .class_ 4), (1, u "java/lang/CharSequence"), (42, .class_ 48), (0, u "java/lang/CharSequence$1CodePointIterator"), (10, .class_ 60), (0, u "java/lang/CharSequence$1CharIterator"), (5, .class_ 67), (0, u "java/lang/Object")] 63

/-- java/lang/CharSequence -/
def k4 : Class := { plain "java/lang/CharSequence" (some 0) with
  accessFlags := 1537
  interfaces := #[]
  cf := some (fileOf pool4 2 #[.nestMembers #[47, 59]] #[] 1537 66 #[] #[])
  fields := #[]
  methods := #[]
  instanceTypes := #[]
  staticTypes := #[]
  resolved := Array.replicate 131 none
  statics := none }

def pool5 : Array CpInfo := pool [(1, .class_ 2), (0, u "java/lang/constant/Constable"), (0, .class_ 4), (0, u "java/lang/Object")] 6

/-- java/lang/constant/Constable -/
def k5 : Class := { plain "java/lang/constant/Constable" (some 0) with
  accessFlags := 1537
  interfaces := #[]
  cf := some (fileOf pool5 1 #[] #[] 1537 3 #[] #[])
  fields := #[]
  methods := #[]
  instanceTypes := #[]
  staticTypes := #[]
  resolved := Array.replicate 11 none
  statics := none }

def pool6 : Array CpInfo := pool [(1, .class_ 2), (0, u "java/lang/constant/ConstantDesc"), (0, .class_ 4), (0, u "java/lang/Object")] 32

/-- java/lang/constant/ConstantDesc -/
def k6 : Class := { plain "java/lang/constant/ConstantDesc" (some 0) with
  accessFlags := 1537
  interfaces := #[]
  cf := some (fileOf pool6 1 #[] #[] 1537 3 #[] #[])
  fields := #[]
  methods := #[]
  instanceTypes := #[]
  staticTypes := #[]
  resolved := Array.replicate 37 none
  statics := none }

def pool7 : Array CpInfo := pool [(1, .methodref 2 3), (0, .class_ 4), (0, .nameAndType 5 6), (0, u "java/lang/Object"), (0, u "<init>"), (0, u "()V"), (0, .string 8), (0, u ""), (0, .fieldref 10 11), (0, .class_ 12), (0, .nameAndType 13 14), (0, u "java/lang/String"), (0, u "value"), (0, u "[B"), (0, .fieldref 10 16), (0, .nameAndType 17 18), (0, u "coder"), (0, u "B"), (2, u "hash"), (0, u "I"), (2, u "hashIsZero"), (0, u "Z"), (0, .methodref 10 28), (0, .nameAndType 5 29), (0, u "([CIILjava/lang/Void;)V"), (8, .fieldref 10 39), (0, .nameAndType 40 26), (0, u "COMPACT_STRINGS"), (1, .class_ 44), (1, u "java/lang/StringUTF16"), (0, u "compress"), (1, .methodref 42 48), (0, .nameAndType 49 50), (0, u "coderFromArrayLen"), (0, u "([BI)B"), (56, .class_ 109), (1, u "java/lang/StringLatin1"), (32, u "()Z"), (34, .methodref 42 178), (0, .nameAndType 45 179), (0, u "([CII)[B"), (154, u "()I"), (0, .methodref 10 336), (0, .nameAndType 17 337), (0, u "()B"), (25, u "([BI)C"), (27, u "(II)V"), (35, u "(I)C"), (64, .methodref 10 493), (0, .nameAndType 494 142), (0, u "isLatin1"), (0, .methodref 107 496), (0, .nameAndType 497 363), (0, u "charAt"), (0, .methodref 42 496), (2, u "checkIndex"), (5, u "length"), (35, u "equals"), (29, u "(Ljava/lang/Object;)Z"), (1, .class_ 576), (0, u "java/lang/CharSequence"), (22, u "CASE_INSENSITIVE_ORDER"), (0, u "Ljava/util/Comparator;"), (91, u "isEmpty"), (317, u "([C)V"), (42, .fieldref 1054 1055), (0, .class_ 1056), (0, .nameAndType 1057 1058), (0, u "jdk/internal/util/Preconditions"), (0, u "SIOOBE_FORMATTER"), (0, u "Ljava/util/function/BiFunction;"), (0, .methodref 1054 1060), (0, .nameAndType 501 1061), (0, u "(IILjava/util/function/BiFunction;)I"), (39, u "serialPersistentFields"), (0, u "[Ljava/io/ObjectStreamField;"), (0, .class_ 1104), (0, u "java/lang/String$CaseInsensitiveComparator"), (1, .class_ 1107), (0, u "java/io/Serializable"), (0, .class_ 1109), (0, u "java/lang/Comparable"), (0, .class_ 1111), (0, u "java/lang/constant/Constable"), (0, .class_ 1113), (0, u "java/lang/constant/ConstantDesc"), (2, u "serialVersionUID"), (0, u "J"), (3, u "REPL"), (0, u "C"), (2, u "LATIN1"), (1, u "UTF16")] 323

def k7m0 : Method := { name := "<init>", desc := "()V", sig := { parameters := [], returnType := none }, accessFlags := 1, code := none }
def k7c1 : Code := { maxStack := 5, maxLocals := 2, code := jdk_42_method_3_code, exceptionTable := #[], attributes := #[] }
def k7m1 : Method := { name := "<init>", desc := "([C)V", sig := { parameters := [(.array .char)], returnType := none }, accessFlags := 1, code := some k7c1 }
def k7c2 : Code := { maxStack := 2, maxLocals := 1, code := jdk_42_method_54_code, exceptionTable := #[], attributes := #[] }
def k7m2 : Method := { name := "length", desc := "()I", sig := { parameters := [], returnType := some .int }, accessFlags := 1, code := some k7c2 }
def k7c3 : Code := { maxStack := 1, maxLocals := 1, code := jdk_42_method_55_code, exceptionTable := #[], attributes := #[] }
def k7m3 : Method := { name := "isEmpty", desc := "()Z", sig := { parameters := [], returnType := some .boolean }, accessFlags := 1, code := some k7c3 }
def k7c4 : Code := { maxStack := 2, maxLocals := 2, code := jdk_42_method_56_code, exceptionTable := #[], attributes := #[] }
def k7m4 : Method := { name := "charAt", desc := "(I)C", sig := { parameters := [.int], returnType := some .char }, accessFlags := 1, code := some k7c4 }
def k7c5 : Code := { maxStack := 2, maxLocals := 3, code := jdk_42_method_66_code, exceptionTable := #[], attributes := #[] }
def k7m5 : Method := { name := "equals", desc := "(Ljava/lang/Object;)Z", sig := { parameters := [(.object "java/lang/Object")], returnType := some .boolean }, accessFlags := 1, code := some k7c5 }
def k7c6 : Code := { maxStack := 4, maxLocals := 6, code := jdk_42_method_149_code, exceptionTable := #[], attributes := #[] }
def k7m6 : Method := { name := "<init>", desc := "([CIILjava/lang/Void;)V", sig := { parameters := [(.array .char), .int, .int, (.object "java/lang/Void")], returnType := none }, accessFlags := 2, code := some k7c6 }
def k7c7 : Code := { maxStack := 1, maxLocals := 1, code := jdk_42_method_152_code, exceptionTable := #[], attributes := #[] }
def k7m7 : Method := { name := "coder", desc := "()B", sig := { parameters := [], returnType := some .byte }, accessFlags := 0, code := some k7c7 }
def k7c8 : Code := { maxStack := 1, maxLocals := 1, code := jdk_42_method_154_code, exceptionTable := #[], attributes := #[] }
def k7m8 : Method := { name := "isLatin1", desc := "()Z", sig := { parameters := [], returnType := some .boolean }, accessFlags := 0, code := some k7c8 }
def k7c9 : Code := { maxStack := 3, maxLocals := 2, code := jdk_42_method_155_code, exceptionTable := #[], attributes := #[] }
def k7m9 : Method := { name := "checkIndex", desc := "(II)V", sig := { parameters := [.int, .int], returnType := none }, accessFlags := 8, code := some k7c9 }
/-- java/lang/String -/
def k7 : Class := { plain "java/lang/String" (some 0) with
  accessFlags := 49
  interfaces := #[2, 3, 4, 5, 6]
  cf := some (fileOf pool7 10 #[.nestMembers #[1103]] #[{ accessFlags := 1, nameIndex := 5, descriptorIndex := 6, attributes := #[] }, { accessFlags := 1, nameIndex := 5, descriptorIndex := 1010, attributes := #[] }, { accessFlags := 1, nameIndex := 507, descriptorIndex := 334, attributes := #[] }, { accessFlags := 1, nameIndex := 692, descriptorIndex := 142, attributes := #[] }, { accessFlags := 1, nameIndex := 497, descriptorIndex := 427, attributes := #[] }, { accessFlags := 1, nameIndex := 543, descriptorIndex := 573, attributes := #[] }, { accessFlags := 2, nameIndex := 5, descriptorIndex := 29, attributes := #[] }, { accessFlags := 0, nameIndex := 17, descriptorIndex := 337, attributes := #[] }, { accessFlags := 0, nameIndex := 494, descriptorIndex := 142, attributes := #[] }, { accessFlags := 8, nameIndex := 501, descriptorIndex := 391, attributes := #[] }] 49 2 #[1106, 1108, 575, 1110, 1112] #[{ accessFlags := 18, nameIndex := 13, descriptorIndex := 14, attributes := #[] }, { accessFlags := 18, nameIndex := 17, descriptorIndex := 18, attributes := #[] }, { accessFlags := 2, nameIndex := 21, descriptorIndex := 22, attributes := #[] }, { accessFlags := 2, nameIndex := 25, descriptorIndex := 26, attributes := #[] }, { accessFlags := 26, nameIndex := 1116, descriptorIndex := 1117, attributes := #[] }, { accessFlags := 24, nameIndex := 40, descriptorIndex := 26, attributes := #[] }, { accessFlags := 26, nameIndex := 1101, descriptorIndex := 1102, attributes := #[] }, { accessFlags := 26, nameIndex := 1121, descriptorIndex := 1122, attributes := #[] }, { accessFlags := 25, nameIndex := 599, descriptorIndex := 600, attributes := #[] }, { accessFlags := 24, nameIndex := 1125, descriptorIndex := 18, attributes := #[] }, { accessFlags := 24, nameIndex := 1127, descriptorIndex := 18, attributes := #[] }])
  fields := #[{ name := "value", type := (.array .byte), accessFlags := 18, slot := 0, constantValue := 0 }, { name := "coder", type := .byte, accessFlags := 18, slot := 1, constantValue := 0 }, { name := "hash", type := .int, accessFlags := 2, slot := 2, constantValue := 0 }, { name := "hashIsZero", type := .boolean, accessFlags := 2, slot := 3, constantValue := 0 }, { name := "serialVersionUID", type := .long, accessFlags := 26, slot := 0, constantValue := 0 }, { name := "COMPACT_STRINGS", type := .boolean, accessFlags := 24, slot := 1, constantValue := 0 }, { name := "serialPersistentFields", type := (.array (.object "java/io/ObjectStreamField")), accessFlags := 26, slot := 2, constantValue := 0 }, { name := "REPL", type := .char, accessFlags := 26, slot := 3, constantValue := 0 }, { name := "CASE_INSENSITIVE_ORDER", type := (.object "java/util/Comparator"), accessFlags := 25, slot := 4, constantValue := 0 }, { name := "LATIN1", type := .byte, accessFlags := 24, slot := 5, constantValue := 0 }, { name := "UTF16", type := .byte, accessFlags := 24, slot := 6, constantValue := 0 }]
  methods := #[k7m0, k7m1, k7m2, k7m3, k7m4, k7m5, k7m6, k7m7, k7m8, k7m9]
  instanceTypes := #[(.array .byte), .byte, .int, .boolean]
  staticTypes := #[.long, .boolean, (.array (.object "java/io/ObjectStreamField")), .char, (.object "java/util/Comparator"), .byte, .byte]
  resolved := Array.replicate 1451 none
  statics := some 0 }

def pool8 : Array CpInfo := pool [(1, .methodref 2 3), (0, .class_ 4), (0, .nameAndType 5 6), (0, u "java/lang/Object"), (0, u "<init>"), (0, u "()V"), (0, .class_ 8), (0, u "java/lang/Record")] 13

def k8c0 : Code := { maxStack := 1, maxLocals := 1, code := jdk_30_method_1_code, exceptionTable := #[], attributes := #[] }
def k8m0 : Method := { name := "<init>", desc := "()V", sig := { parameters := [], returnType := none }, accessFlags := 4, code := some k8c0 }
/-- java/lang/Record -/
def k8 : Class := { plain "java/lang/Record" (some 0) with
  accessFlags := 1057
  interfaces := #[]
  cf := some (fileOf pool8 7 #[] #[{ accessFlags := 4, nameIndex := 5, descriptorIndex := 6, attributes := #[] }] 1057 2 #[] #[])
  fields := #[]
  methods := #[k8m0]
  instanceTypes := #[]
  staticTypes := #[]
  resolved := Array.replicate 22 none
  statics := none }

def pool9 : Array CpInfo := pool [(1, .methodref 2 3), (0, .class_ 4), (0, .nameAndType 5 6), (0, u "java/lang/Record"), (0, u "<init>"), (0, u "()V"), (0, .methodref 8 9), (0, .class_ 10), (0, .nameAndType 11 12), (0, u "com/example/fault/fault/TraceId"), (0, u "isWellFormed"), (0, u "(Ljava/lang/String;)Z"), (5, .nameAndType 5 19), (0, u "(Ljava/lang/String;)V"), (0, .fieldref 8 21), (0, .nameAndType 22 23), (0, u "value"), (0, u "Ljava/lang/String;"), (0, .methodref 8 18), (8, .methodref 34 35), (0, .class_ 36), (0, .nameAndType 37 38), (0, u "java/util/Optional"), (0, u "of"), (0, u "(Ljava/lang/Object;)Ljava/util/Optional;"), (0, .methodref 34 40), (0, .nameAndType 41 42), (0, u "empty"), (0, u "()Ljava/util/Optional;"), (26, u "()Ljava/lang/String;"), (0, .methodref 71 72), (0, .class_ 73), (0, .nameAndType 74 75), (0, u "java/lang/String"), (0, u "isEmpty"), (0, u "()Z"), (0, .methodref 71 77), (0, .nameAndType 78 79), (0, u "length"), (0, u "()I"), (0, .methodref 71 81), (0, .nameAndType 82 83), (0, u "charAt"), (0, u "(I)C"), (0, .fieldref 8 85), (0, .nameAndType 86 87), (0, u "ALLOWED"), (0, u "[Z"), (14, u "HEADER"), (3, u "MAX_LENGTH"), (0, u "I"), (1, u "VERSION_MASK"), (0, u "J"), (2, u "VERSION_4"), (0, u "VARIANT_MASK"), (2, u "VARIANT_IETF"), (6, u "parse"), (0, u "(Ljava/lang/String;)Ljava/util/Optional;")] 24

def k9c0 : Code := { maxStack := 3, maxLocals := 2, code := prog_14_method_1_code, exceptionTable := #[], attributes := #[] }
def k9m0 : Method := { name := "<init>", desc := "(Ljava/lang/String;)V", sig := { parameters := [(.object "java/lang/String")], returnType := none }, accessFlags := 1, code := some k9c0 }
def k9c1 : Code := { maxStack := 3, maxLocals := 1, code := prog_14_method_4_code, exceptionTable := #[], attributes := #[] }
def k9m1 : Method := { name := "parse", desc := "(Ljava/lang/String;)Ljava/util/Optional;", sig := { parameters := [(.object "java/lang/String")], returnType := some (.object "java/util/Optional") }, accessFlags := 9, code := some k9c1 }
def k9c2 : Code := { maxStack := 2, maxLocals := 3, code := prog_14_method_7_code, exceptionTable := #[], attributes := #[] }
def k9m2 : Method := { name := "isWellFormed", desc := "(Ljava/lang/String;)Z", sig := { parameters := [(.object "java/lang/String")], returnType := some .boolean }, accessFlags := 10, code := some k9c2 }
def k9c3 : Code := { maxStack := 1, maxLocals := 1, code := prog_14_method_11_code, exceptionTable := #[], attributes := #[] }
def k9m3 : Method := { name := "value", desc := "()Ljava/lang/String;", sig := { parameters := [], returnType := some (.object "java/lang/String") }, accessFlags := 1, code := some k9c3 }
/-- com/example/fault/fault/TraceId -/
def k9 : Class := { plain "com/example/fault/fault/TraceId" (some 8) with
  accessFlags := 49
  interfaces := #[]
  cf := some (fileOf pool9 8 #[] #[{ accessFlags := 1, nameIndex := 5, descriptorIndex := 19, attributes := #[] }, { accessFlags := 9, nameIndex := 124, descriptorIndex := 125, attributes := #[] }, { accessFlags := 10, nameIndex := 11, descriptorIndex := 12, attributes := #[] }, { accessFlags := 1, nameIndex := 22, descriptorIndex := 69, attributes := #[] }] 49 2 #[] #[{ accessFlags := 18, nameIndex := 22, descriptorIndex := 23, attributes := #[] }, { accessFlags := 25, nameIndex := 102, descriptorIndex := 23, attributes := #[] }, { accessFlags := 25, nameIndex := 106, descriptorIndex := 107, attributes := #[] }, { accessFlags := 26, nameIndex := 109, descriptorIndex := 110, attributes := #[] }, { accessFlags := 26, nameIndex := 113, descriptorIndex := 110, attributes := #[] }, { accessFlags := 26, nameIndex := 114, descriptorIndex := 110, attributes := #[] }, { accessFlags := 26, nameIndex := 117, descriptorIndex := 110, attributes := #[] }, { accessFlags := 26, nameIndex := 86, descriptorIndex := 87, attributes := #[] }])
  fields := #[{ name := "value", type := (.object "java/lang/String"), accessFlags := 18, slot := 0, constantValue := 0 }, { name := "HEADER", type := (.object "java/lang/String"), accessFlags := 25, slot := 0, constantValue := 0 }, { name := "MAX_LENGTH", type := .int, accessFlags := 25, slot := 1, constantValue := 0 }, { name := "VERSION_MASK", type := .long, accessFlags := 26, slot := 2, constantValue := 0 }, { name := "VERSION_4", type := .long, accessFlags := 26, slot := 3, constantValue := 0 }, { name := "VARIANT_MASK", type := .long, accessFlags := 26, slot := 4, constantValue := 0 }, { name := "VARIANT_IETF", type := .long, accessFlags := 26, slot := 5, constantValue := 0 }, { name := "ALLOWED", type := (.array .boolean), accessFlags := 26, slot := 6, constantValue := 0 }]
  methods := #[k9m0, k9m1, k9m2, k9m3]
  instanceTypes := #[(.object "java/lang/String")]
  staticTypes := #[(.object "java/lang/String"), .int, .long, .long, .long, .long, (.array .boolean)]
  resolved := Array.replicate 150 none
  statics := some 1 }

def pool10 : Array CpInfo := pool [(1, .fieldref 2 3), (0, .class_ 4), (0, .nameAndType 5 6), (0, u "java/util/Optional"), (0, u "EMPTY"), (0, u "Ljava/util/Optional;"), (0, .methodref 8 9), (0, .class_ 10), (0, .nameAndType 11 12), (0, u "java/lang/Object"), (0, u "<init>"), (0, u "()V"), (0, .fieldref 2 14), (0, .nameAndType 15 16), (0, u "value"), (0, u "Ljava/lang/Object;"), (0, .methodref 18 19), (0, .class_ 20), (0, .nameAndType 21 22), (0, u "java/util/Objects"), (0, u "requireNonNull"), (0, u "(Ljava/lang/Object;)Ljava/lang/Object;"), (0, .methodref 2 24), (0, .nameAndType 11 25), (0, u "(Ljava/lang/Object;)V"), (20, u "()Z"), (8, u "empty"), (0, u "()Ljava/util/Optional;"), (8, u "(Ljava/lang/Object;)Ljava/util/Optional;"), (2, u "isPresent"), (4, u "get"), (0, u "()Ljava/lang/Object;"), (7, u "of")] 104

def k10c0 : Code := { maxStack := 1, maxLocals := 1, code := jdk_32_method_1_code, exceptionTable := #[], attributes := #[] }
def k10m0 : Method := { name := "empty", desc := "()Ljava/util/Optional;", sig := { parameters := [], returnType := some (.object "java/util/Optional") }, accessFlags := 9, code := some k10c0 }
def k10c1 : Code := { maxStack := 2, maxLocals := 2, code := jdk_32_method_2_code, exceptionTable := #[], attributes := #[] }
def k10m1 : Method := { name := "<init>", desc := "(Ljava/lang/Object;)V", sig := { parameters := [(.object "java/lang/Object")], returnType := none }, accessFlags := 2, code := some k10c1 }
def k10c2 : Code := { maxStack := 3, maxLocals := 1, code := jdk_32_method_3_code, exceptionTable := #[], attributes := #[] }
def k10m2 : Method := { name := "of", desc := "(Ljava/lang/Object;)Ljava/util/Optional;", sig := { parameters := [(.object "java/lang/Object")], returnType := some (.object "java/util/Optional") }, accessFlags := 9, code := some k10c2 }
def k10c3 : Code := { maxStack := 3, maxLocals := 1, code := jdk_32_method_5_code, exceptionTable := #[], attributes := #[] }
def k10m3 : Method := { name := "get", desc := "()Ljava/lang/Object;", sig := { parameters := [], returnType := some (.object "java/lang/Object") }, accessFlags := 1, code := some k10c3 }
def k10c4 : Code := { maxStack := 1, maxLocals := 1, code := jdk_32_method_6_code, exceptionTable := #[], attributes := #[] }
def k10m4 : Method := { name := "isPresent", desc := "()Z", sig := { parameters := [], returnType := some .boolean }, accessFlags := 1, code := some k10c4 }
/-- java/util/Optional -/
def k10 : Class := { plain "java/util/Optional" (some 0) with
  accessFlags := 49
  interfaces := #[]
  cf := some (fileOf pool10 2 #[] #[{ accessFlags := 9, nameIndex := 55, descriptorIndex := 56, attributes := #[] }, { accessFlags := 2, nameIndex := 11, descriptorIndex := 25, attributes := #[] }, { accessFlags := 9, nameIndex := 82, descriptorIndex := 65, attributes := #[] }, { accessFlags := 1, nameIndex := 73, descriptorIndex := 74, attributes := #[] }, { accessFlags := 1, nameIndex := 68, descriptorIndex := 46, attributes := #[] }] 49 8 #[] #[{ accessFlags := 26, nameIndex := 5, descriptorIndex := 6, attributes := #[] }, { accessFlags := 18, nameIndex := 15, descriptorIndex := 16, attributes := #[] }])
  fields := #[{ name := "EMPTY", type := (.object "java/util/Optional"), accessFlags := 26, slot := 0, constantValue := 0 }, { name := "value", type := (.object "java/lang/Object"), accessFlags := 18, slot := 0, constantValue := 0 }]
  methods := #[k10m0, k10m1, k10m2, k10m3, k10m4]
  instanceTypes := #[(.object "java/lang/Object")]
  staticTypes := #[(.object "java/util/Optional")]
  resolved := Array.replicate 187 none
  statics := some 2 }

def pool11 : Array CpInfo := pool [(3, .class_ 4), (0, u "java/lang/String"), (1, .class_ 8), (1, u "java/lang/Object"), (0, u "<init>"), (0, u "()V"), (0, .methodref 12 13), (0, .class_ 14), (0, .nameAndType 15 16), (0, u "java/lang/StringUTF16"), (0, u "newBytesLength"), (0, u "(I)I"), (3, .integer 1073741823), (23, .fieldref 12 45), (0, .nameAndType 46 47), (0, u "$assertionsDisabled"), (0, u "Z"), (0, .methodref 12 49), (0, .nameAndType 50 51), (0, u "length"), (0, u "([B)I"), (7, .fieldref 12 60), (0, .nameAndType 61 62), (0, u "HI_BYTE_SHIFT"), (0, u "I"), (0, .fieldref 12 64), (0, .nameAndType 65 62), (0, u "LO_BYTE_SHIFT"), (1, .methodref 12 68), (0, .nameAndType 69 70), (0, u "checkIndex"), (0, u "(I[B)V"), (0, .methodref 12 72), (0, .nameAndType 73 74), (0, u "getChar"), (0, u "([BI)C"), (32, .methodref 12 108), (0, .nameAndType 109 110), (0, u "newBytesFor"), (0, u "(I)[B"), (0, .methodref 12 112), (0, .nameAndType 113 114), (0, u "putChar"), (0, u "([BII)V"), (0, .methodref 12 116), (0, .nameAndType 117 118), (0, u "compress"), (0, u "([CI[BII)I"), (0, .methodref 12 120), (0, .nameAndType 121 122), (0, u "toBytes"), (0, u "([CII)[B"), (138, u "coderFromArrayLen"), (0, u "([BI)B"), (106, .class_ 371), (1, u "java/lang/StringUTF16$LinesSpliterator"), (20, u "charAt"), (21, .methodref 3 415), (0, .nameAndType 69 416), (0, u "(II)V"), (13, u "MAX_LENGTH"), (196, .class_ 628), (0, u "java/lang/StringUTF16$CodePointsSpliterator"), (0, .class_ 630), (0, u "java/lang/StringUTF16$CharsSpliterator")] 4

def k11m0 : Method := { name := "<init>", desc := "()V", sig := { parameters := [], returnType := none }, accessFlags := 0, code := none }
def k11c1 : Code := { maxStack := 1, maxLocals := 1, code := jdk_52_method_2_code, exceptionTable := #[], attributes := #[] }
def k11m1 : Method := { name := "newBytesFor", desc := "(I)[B", sig := { parameters := [.int], returnType := some (.array .byte) }, accessFlags := 9, code := some k11c1 }
def k11c2 : Code := { maxStack := 4, maxLocals := 1, code := jdk_52_method_3_code, exceptionTable := #[], attributes := #[] }
def k11m2 : Method := { name := "newBytesLength", desc := "(I)I", sig := { parameters := [.int], returnType := some .int }, accessFlags := 9, code := some k11c2 }
def k11c3 : Code := { maxStack := 4, maxLocals := 3, code := jdk_52_method_4_code, exceptionTable := #[], attributes := #[] }
def k11m3 : Method := { name := "putChar", desc := "([BII)V", sig := { parameters := [(.array .byte), .int, .int], returnType := none }, accessFlags := 8, code := some k11c3 }
def k11c4 : Code := { maxStack := 3, maxLocals := 2, code := jdk_52_method_5_code, exceptionTable := #[], attributes := #[] }
def k11m4 : Method := { name := "getChar", desc := "([BI)C", sig := { parameters := [(.array .byte), .int], returnType := some .char }, accessFlags := 8, code := some k11c4 }
def k11c5 : Code := { maxStack := 2, maxLocals := 1, code := jdk_52_method_6_code, exceptionTable := #[], attributes := #[] }
def k11m5 : Method := { name := "length", desc := "([B)I", sig := { parameters := [(.array .byte)], returnType := some .int }, accessFlags := 9, code := some k11c5 }
def k11c6 : Code := { maxStack := 4, maxLocals := 5, code := jdk_52_method_14_code, exceptionTable := #[], attributes := #[] }
def k11m6 : Method := { name := "toBytes", desc := "([CII)[B", sig := { parameters := [(.array .char), .int, .int], returnType := some (.array .byte) }, accessFlags := 9, code := some k11c6 }
def k11c7 : Code := { maxStack := 2, maxLocals := 2, code := jdk_52_method_15_code, exceptionTable := #[], attributes := #[] }
def k11m7 : Method := { name := "coderFromArrayLen", desc := "([BI)B", sig := { parameters := [(.array .byte), .int], returnType := some .byte }, accessFlags := 8, code := some k11c7 }
def k11c8 : Code := { maxStack := 5, maxLocals := 6, code := jdk_52_method_16_code, exceptionTable := #[], attributes := #[] }
def k11m8 : Method := { name := "compress", desc := "([CII)[B", sig := { parameters := [(.array .char), .int, .int], returnType := some (.array .byte) }, accessFlags := 9, code := some k11c8 }
def k11c9 : Code := { maxStack := 3, maxLocals := 7, code := jdk_52_method_21_code, exceptionTable := #[], attributes := #[] }
def k11m9 : Method := { name := "compress", desc := "([CI[BII)I", sig := { parameters := [(.array .char), .int, (.array .byte), .int, .int], returnType := some .int }, accessFlags := 9, code := some k11c9 }
def k11c10 : Code := { maxStack := 2, maxLocals := 2, code := jdk_52_method_83_code, exceptionTable := #[], attributes := #[] }
def k11m10 : Method := { name := "charAt", desc := "([BI)C", sig := { parameters := [(.array .byte), .int], returnType := some .char }, accessFlags := 9, code := some k11c10 }
def k11c11 : Code := { maxStack := 2, maxLocals := 2, code := jdk_52_method_91_code, exceptionTable := #[], attributes := #[] }
def k11m11 : Method := { name := "checkIndex", desc := "(I[B)V", sig := { parameters := [.int, (.array .byte)], returnType := none }, accessFlags := 9, code := some k11c11 }
/-- java/lang/StringUTF16 -/
def k11 : Class := { plain "java/lang/StringUTF16" (some 0) with
  accessFlags := 48
  interfaces := #[]
  cf := some (fileOf pool11 12 #[.nestMembers #[627, 629, 369]] #[{ accessFlags := 0, nameIndex := 9, descriptorIndex := 10, attributes := #[] }, { accessFlags := 9, nameIndex := 109, descriptorIndex := 110, attributes := #[] }, { accessFlags := 9, nameIndex := 15, descriptorIndex := 16, attributes := #[] }, { accessFlags := 8, nameIndex := 113, descriptorIndex := 114, attributes := #[] }, { accessFlags := 8, nameIndex := 73, descriptorIndex := 74, attributes := #[] }, { accessFlags := 9, nameIndex := 50, descriptorIndex := 51, attributes := #[] }, { accessFlags := 9, nameIndex := 121, descriptorIndex := 122, attributes := #[] }, { accessFlags := 8, nameIndex := 261, descriptorIndex := 262, attributes := #[] }, { accessFlags := 9, nameIndex := 117, descriptorIndex := 122, attributes := #[] }, { accessFlags := 9, nameIndex := 117, descriptorIndex := 118, attributes := #[] }, { accessFlags := 9, nameIndex := 392, descriptorIndex := 74, attributes := #[] }, { accessFlags := 9, nameIndex := 69, descriptorIndex := 70, attributes := #[] }] 48 6 #[] #[{ accessFlags := 26, nameIndex := 61, descriptorIndex := 62, attributes := #[] }, { accessFlags := 26, nameIndex := 65, descriptorIndex := 62, attributes := #[] }, { accessFlags := 24, nameIndex := 430, descriptorIndex := 62, attributes := #[] }, { accessFlags := 4120, nameIndex := 46, descriptorIndex := 47, attributes := #[] }])
  fields := #[{ name := "HI_BYTE_SHIFT", type := .int, accessFlags := 26, slot := 0, constantValue := 0 }, { name := "LO_BYTE_SHIFT", type := .int, accessFlags := 26, slot := 1, constantValue := 0 }, { name := "MAX_LENGTH", type := .int, accessFlags := 24, slot := 2, constantValue := 0 }, { name := "$assertionsDisabled", type := .boolean, accessFlags := 4120, slot := 3, constantValue := 0 }]
  methods := #[k11m0, k11m1, k11m2, k11m3, k11m4, k11m5, k11m6, k11m7, k11m8, k11m9, k11m10, k11m11]
  instanceTypes := #[]
  staticTypes := #[.int, .int, .int, .boolean]
  resolved := Array.replicate 635 none
  statics := some 3 }

def pool12 : Array CpInfo := pool [(1, .class_ 2), (0, u "java/lang/String"), (1, .class_ 6), (1, u "java/lang/Object"), (0, u "<init>"), (0, u "()V"), (0, .methodref 1 10), (0, .nameAndType 11 12), (0, u "checkIndex"), (0, u "(II)V"), (1, .class_ 16), (1, u "java/lang/StringLatin1"), (36, u "([BI)C"), (67, u "$assertionsDisabled"), (0, u "Z"), (98, .class_ 223), (1, u "java/lang/StringLatin1$LinesSpliterator"), (28, u "charAt"), (137, .class_ 391), (0, u "java/lang/StringLatin1$CharsSpliterator")] 3

def k12m0 : Method := { name := "<init>", desc := "()V", sig := { parameters := [], returnType := none }, accessFlags := 0, code := none }
def k12c1 : Code := { maxStack := 2, maxLocals := 2, code := jdk_43_method_2_code, exceptionTable := #[], attributes := #[] }
def k12m1 : Method := { name := "charAt", desc := "([BI)C", sig := { parameters := [(.array .byte), .int], returnType := some .char }, accessFlags := 9, code := some k12c1 }
/-- java/lang/StringLatin1 -/
def k12 : Class := { plain "java/lang/StringLatin1" (some 0) with
  accessFlags := 48
  interfaces := #[]
  cf := some (fileOf pool12 14 #[.nestMembers #[390, 221]] #[{ accessFlags := 0, nameIndex := 7, descriptorIndex := 8, attributes := #[] }, { accessFlags := 9, nameIndex := 252, descriptorIndex := 53, attributes := #[] }] 48 4 #[] #[{ accessFlags := 4120, nameIndex := 121, descriptorIndex := 122, attributes := #[] }])
  fields := #[{ name := "$assertionsDisabled", type := .boolean, accessFlags := 4120, slot := 0, constantValue := 0 }]
  methods := #[k12m0, k12m1]
  instanceTypes := #[]
  staticTypes := #[.boolean]
  resolved := Array.replicate 395 none
  statics := none }

def pool13 : Array CpInfo := pool [(2, .class_ 4), (1, u "java/lang/Object"), (0, u "<init>"), (0, u "()V"), (17, .class_ 26), (1, u "jdk/internal/util/Preconditions"), (6, u "checkIndex"), (21, .class_ 56), (0, u "jdk/internal/util/Preconditions$4"), (57, .class_ 115), (0, u "jdk/internal/util/Preconditions$1"), (7, u "SIOOBE_FORMATTER"), (0, u "Ljava/util/function/BiFunction;"), (0, .class_ 126), (0, u "jdk/internal/util/Preconditions$2"), (3, u "AIOOBE_FORMATTER"), (0, .class_ 132), (0, u "jdk/internal/util/Preconditions$3"), (3, u "IOOBE_FORMATTER"), (41, u "(IILjava/util/function/BiFunction;)I")] 15

def k13m0 : Method := { name := "<init>", desc := "()V", sig := { parameters := [], returnType := none }, accessFlags := 1, code := none }
def k13c1 : Code := { maxStack := 3, maxLocals := 3, code := jdk_41_method_11_code, exceptionTable := #[], attributes := #[] }
def k13m1 : Method := { name := "checkIndex", desc := "(IILjava/util/function/BiFunction;)I", sig := { parameters := [.int, .int, (.object "java/util/function/BiFunction")], returnType := some .int }, accessFlags := 9, code := some k13c1 }
/-- jdk/internal/util/Preconditions -/
def k13 : Class := { plain "jdk/internal/util/Preconditions" (some 0) with
  accessFlags := 33
  interfaces := #[]
  cf := some (fileOf pool13 24 #[.nestMembers #[55, 131, 125, 114]] #[{ accessFlags := 1, nameIndex := 5, descriptorIndex := 6, attributes := #[] }, { accessFlags := 9, nameIndex := 33, descriptorIndex := 178, attributes := #[] }] 33 2 #[] #[{ accessFlags := 25, nameIndex := 123, descriptorIndex := 124, attributes := #[] }, { accessFlags := 25, nameIndex := 130, descriptorIndex := 124, attributes := #[] }, { accessFlags := 25, nameIndex := 136, descriptorIndex := 124, attributes := #[] }])
  fields := #[{ name := "SIOOBE_FORMATTER", type := (.object "java/util/function/BiFunction"), accessFlags := 25, slot := 0, constantValue := 0 }, { name := "AIOOBE_FORMATTER", type := (.object "java/util/function/BiFunction"), accessFlags := 25, slot := 1, constantValue := 0 }, { name := "IOOBE_FORMATTER", type := (.object "java/util/function/BiFunction"), accessFlags := 25, slot := 2, constantValue := 0 }]
  methods := #[k13m0, k13m1]
  instanceTypes := #[]
  staticTypes := #[(.object "java/util/function/BiFunction"), (.object "java/util/function/BiFunction"), (.object "java/util/function/BiFunction")]
  resolved := Array.replicate 194 none
  statics := some 4 }

def pool14 : Array CpInfo := pool [(2, .class_ 4), (1, u "java/lang/Object"), (0, u "<init>"), (0, u "()V"), (35, .class_ 44), (1, u "java/util/Objects"), (0, u "requireNonNull"), (0, u "(Ljava/lang/Object;)Ljava/lang/Object;")] 137

def k14m0 : Method := { name := "<init>", desc := "()V", sig := { parameters := [], returnType := none }, accessFlags := 2, code := none }
def k14c1 : Code := { maxStack := 2, maxLocals := 1, code := jdk_31_method_10_code, exceptionTable := #[], attributes := #[] }
def k14m1 : Method := { name := "requireNonNull", desc := "(Ljava/lang/Object;)Ljava/lang/Object;", sig := { parameters := [(.object "java/lang/Object")], returnType := some (.object "java/lang/Object") }, accessFlags := 9, code := some k14c1 }
/-- java/util/Objects -/
def k14 : Class := { plain "java/util/Objects" (some 0) with
  accessFlags := 49
  interfaces := #[]
  cf := some (fileOf pool14 42 #[] #[{ accessFlags := 2, nameIndex := 5, descriptorIndex := 6, attributes := #[] }, { accessFlags := 9, nameIndex := 45, descriptorIndex := 46, attributes := #[] }] 49 2 #[] #[])
  fields := #[]
  methods := #[k14m0, k14m1]
  instanceTypes := #[]
  staticTypes := #[]
  resolved := Array.replicate 184 none
  statics := none }

def pool15 : Array CpInfo := pool [(9, u "<init>"), (6, .class_ 18), (1, u "java/lang/Object"), (0, u "()V"), (1, .class_ 23), (1, u "jdk/internal/util/ArraysSupport"), (0, u "LOG2_ARRAY_LONG_INDEX_SCALE"), (0, u "I"), (2, u "U"), (0, u "Ljdk/internal/misc/Unsafe;"), (8, u "BIG_ENDIAN"), (0, u "Z"), (8, u "LOG2_BYTE_BIT_SIZE"), (4, u "LOG2_ARRAY_INT_INDEX_SCALE"), (54, u "JLA"), (0, u "Ljdk/internal/access/JavaLangAccess;"), (11, u "LOG2_ARRAY_BOOLEAN_INDEX_SCALE"), (9, u "LOG2_ARRAY_BYTE_INDEX_SCALE"), (5, u "LOG2_ARRAY_CHAR_INDEX_SCALE"), (5, u "LOG2_ARRAY_SHORT_INDEX_SCALE"), (18, u "LOG2_ARRAY_FLOAT_INDEX_SCALE"), (24, u "LOG2_ARRAY_DOUBLE_INDEX_SCALE"), (89, u "T_BOOLEAN"), (2, u "T_CHAR"), (1, u "T_FLOAT"), (1, u "T_DOUBLE"), (1, u "T_BYTE"), (1, u "T_SHORT"), (1, u "T_INT"), (1, u "T_LONG"), (1, u "SOFT_MAX_ARRAY_LENGTH")] 83

def k15m0 : Method := { name := "<init>", desc := "()V", sig := { parameters := [], returnType := none }, accessFlags := 2, code := none }
/-- jdk/internal/util/ArraysSupport -/
def k15 : Class := { plain "jdk/internal/util/ArraysSupport" (some 0) with
  accessFlags := 33
  interfaces := #[]
  cf := some (fileOf pool15 21 #[] #[{ accessFlags := 2, nameIndex := 9, descriptorIndex := 19, attributes := #[] }] 33 16 #[] #[{ accessFlags := 24, nameIndex := 28, descriptorIndex := 29, attributes := #[] }, { accessFlags := 26, nameIndex := 38, descriptorIndex := 39, attributes := #[] }, { accessFlags := 25, nameIndex := 121, descriptorIndex := 25, attributes := #[] }, { accessFlags := 25, nameIndex := 131, descriptorIndex := 25, attributes := #[] }, { accessFlags := 25, nameIndex := 137, descriptorIndex := 25, attributes := #[] }, { accessFlags := 25, nameIndex := 143, descriptorIndex := 25, attributes := #[] }, { accessFlags := 25, nameIndex := 53, descriptorIndex := 25, attributes := #[] }, { accessFlags := 25, nameIndex := 24, descriptorIndex := 25, attributes := #[] }, { accessFlags := 25, nameIndex := 162, descriptorIndex := 25, attributes := #[] }, { accessFlags := 25, nameIndex := 187, descriptorIndex := 25, attributes := #[] }, { accessFlags := 26, nameIndex := 48, descriptorIndex := 25, attributes := #[] }, { accessFlags := 25, nameIndex := 277, descriptorIndex := 25, attributes := #[] }, { accessFlags := 25, nameIndex := 280, descriptorIndex := 25, attributes := #[] }, { accessFlags := 25, nameIndex := 282, descriptorIndex := 25, attributes := #[] }, { accessFlags := 25, nameIndex := 284, descriptorIndex := 25, attributes := #[] }, { accessFlags := 25, nameIndex := 286, descriptorIndex := 25, attributes := #[] }, { accessFlags := 25, nameIndex := 288, descriptorIndex := 25, attributes := #[] }, { accessFlags := 25, nameIndex := 290, descriptorIndex := 25, attributes := #[] }, { accessFlags := 25, nameIndex := 292, descriptorIndex := 25, attributes := #[] }, { accessFlags := 26, nameIndex := 108, descriptorIndex := 109, attributes := #[] }, { accessFlags := 25, nameIndex := 294, descriptorIndex := 25, attributes := #[] }])
  fields := #[{ name := "U", type := (.object "jdk/internal/misc/Unsafe"), accessFlags := 24, slot := 0, constantValue := 0 }, { name := "BIG_ENDIAN", type := .boolean, accessFlags := 26, slot := 1, constantValue := 0 }, { name := "LOG2_ARRAY_BOOLEAN_INDEX_SCALE", type := .int, accessFlags := 25, slot := 2, constantValue := 0 }, { name := "LOG2_ARRAY_BYTE_INDEX_SCALE", type := .int, accessFlags := 25, slot := 3, constantValue := 0 }, { name := "LOG2_ARRAY_CHAR_INDEX_SCALE", type := .int, accessFlags := 25, slot := 4, constantValue := 0 }, { name := "LOG2_ARRAY_SHORT_INDEX_SCALE", type := .int, accessFlags := 25, slot := 5, constantValue := 0 }, { name := "LOG2_ARRAY_INT_INDEX_SCALE", type := .int, accessFlags := 25, slot := 6, constantValue := 0 }, { name := "LOG2_ARRAY_LONG_INDEX_SCALE", type := .int, accessFlags := 25, slot := 7, constantValue := 0 }, { name := "LOG2_ARRAY_FLOAT_INDEX_SCALE", type := .int, accessFlags := 25, slot := 8, constantValue := 0 }, { name := "LOG2_ARRAY_DOUBLE_INDEX_SCALE", type := .int, accessFlags := 25, slot := 9, constantValue := 0 }, { name := "LOG2_BYTE_BIT_SIZE", type := .int, accessFlags := 26, slot := 10, constantValue := 0 }, { name := "T_BOOLEAN", type := .int, accessFlags := 25, slot := 11, constantValue := 0 }, { name := "T_CHAR", type := .int, accessFlags := 25, slot := 12, constantValue := 0 }, { name := "T_FLOAT", type := .int, accessFlags := 25, slot := 13, constantValue := 0 }, { name := "T_DOUBLE", type := .int, accessFlags := 25, slot := 14, constantValue := 0 }, { name := "T_BYTE", type := .int, accessFlags := 25, slot := 15, constantValue := 0 }, { name := "T_SHORT", type := .int, accessFlags := 25, slot := 16, constantValue := 0 }, { name := "T_INT", type := .int, accessFlags := 25, slot := 17, constantValue := 0 }, { name := "T_LONG", type := .int, accessFlags := 25, slot := 18, constantValue := 0 }, { name := "JLA", type := (.object "jdk/internal/access/JavaLangAccess"), accessFlags := 26, slot := 19, constantValue := 0 }, { name := "SOFT_MAX_ARRAY_LENGTH", type := .int, accessFlags := 25, slot := 20, constantValue := 0 }]
  methods := #[k15m0]
  instanceTypes := #[]
  staticTypes := #[(.object "jdk/internal/misc/Unsafe"), .boolean, .int, .int, .int, .int, .int, .int, .int, .int, .int, .int, .int, .int, .int, .int, .int, .int, .int, (.object "jdk/internal/access/JavaLangAccess"), .int]
  resolved := Array.replicate 378 none
  statics := none }

def pool16 : Array CpInfo := pool [(1, u "java/lang/Cloneable"), (0, .class_ 1), (0, u "java/lang/Object"), (0, .class_ 3)] 3

/-- java/lang/Cloneable -/
def k16 : Class := { plain "java/lang/Cloneable" (some 0) with
  accessFlags := 1537
  interfaces := #[]
  cf := some (fileOf pool16 2 #[] #[] 1537 4 #[] #[])
  fields := #[]
  methods := #[]
  instanceTypes := #[]
  staticTypes := #[]
  resolved := Array.replicate 8 none
  statics := none }

/-- the primitive boolean -/
def k17 : Class := { plain "boolean" none with kind := .primitive 'Z', accessFlags := 0x411 }
/-- [Z -/
def k18 : Class := { plain "[Z" (some 0) with kind := .array 17 .boolean, interfaces := #[16, 2], accessFlags := 1041 }

/-- the primitive byte -/
def k19 : Class := { plain "byte" none with kind := .primitive 'B', accessFlags := 0x411 }
/-- [B -/
def k20 : Class := { plain "[B" (some 0) with kind := .array 19 .byte, interfaces := #[16, 2], accessFlags := 1041 }

/-- the primitive char -/
def k21 : Class := { plain "char" none with kind := .primitive 'C', accessFlags := 0x411 }
/-- [C -/
def k22 : Class := { plain "[C" (some 0) with kind := .array 21 .char, interfaces := #[16, 2], accessFlags := 1041 }

/-- the primitive int -/
def k23 : Class := { plain "int" none with kind := .primitive 'I', accessFlags := 0x411 }
/-- [I -/
def k24 : Class := { plain "[I" (some 0) with kind := .array 23 .int, interfaces := #[16, 2], accessFlags := 1041 }

def heap : Heap := #[{ cls := 7, slots := #[.long 0, .int 1, .null, .int 0, .null, .int 0, .int 0], vm := .statics 7 },
  { cls := 9, slots := #[.null, .int 0, .long 0, .long 0, .long 0, .long 0, .ref 5], vm := .statics 9 },
  { cls := 10, slots := #[.ref 6], vm := .statics 10 },
  { cls := 11, slots := #[.int 0, .int 8, .int 0, .int 1], vm := .statics 11 },
  { cls := 13, slots := #[.null, .null, .null], vm := .statics 13 },
  { cls := 18, slots := #[.int 0, .int 0, .int 0, .int 0, .int 0, .int 0, .int 0, .int 0, .int 0, .int 0, .int 0, .int 0, .int 0, .int 0, .int 0, .int 0, .int 0, .int 0, .int 0, .int 0, .int 0, .int 0, .int 0, .int 0, .int 0, .int 0, .int 0, .int 0, .int 0, .int 0, .int 0, .int 0, .int 0, .int 0, .int 0, .int 0, .int 0, .int 0, .int 0, .int 0, .int 0, .int 0, .int 0, .int 0, .int 0, .int 1, .int 1, .int 0, .int 1, .int 1, .int 1, .int 1, .int 1, .int 1, .int 1, .int 1, .int 1, .int 1, .int 0, .int 0, .int 0, .int 0, .int 0, .int 0, .int 0, .int 1, .int 1, .int 1, .int 1, .int 1, .int 1, .int 1, .int 1, .int 1, .int 1, .int 1, .int 1, .int 1, .int 1, .int 1, .int 1, .int 1, .int 1, .int 1, .int 1, .int 1, .int 1, .int 1, .int 1, .int 1, .int 1, .int 0, .int 0, .int 0, .int 0, .int 1, .int 0, .int 1, .int 1, .int 1, .int 1, .int 1, .int 1, .int 1, .int 1, .int 1, .int 1, .int 1, .int 1, .int 1, .int 1, .int 1, .int 1, .int 1, .int 1, .int 1, .int 1, .int 1, .int 1, .int 1, .int 1, .int 1, .int 1, .int 0, .int 0, .int 0, .int 0, .int 0], vm := .none },
  { cls := 10, slots := #[.null], vm := .none }]
def classes : Array Class := #[k0, k1, k2, k3, k4, k5, k6, k7, k8, k9, k10, k11, k12, k13, k14, k15, k16, k17, k18, k19, k20, k21, k22, k23, k24]
def interned : List (Array UInt16 × Addr) := []
def slotsUsed : Nat := 151
def theMethod : MethodId := ⟨1, 2⟩
def args0 : Array Value := #[.int 65, .int 66, .int 67, .int 68, .int 4]
def aboutOver (below : List Frame) : State where
  vm := { classes := classes, interned := interned.toArray }
  heap := heap
  slotsUsed := slotsUsed
  threads := #[{ frames := .invoking theMethod args0 :: below }]
def below0 : List Frame := [.native { method := ⟨0, 0⟩, args := #[] }]
def about1 : State := aboutOver below0
def p0 : Program := .bare "" "" ""
def e0 : Env := launch0.env 0 0 0
theorem w_frames : about1.frames = Frame.invoking theMethod args0 :: below0 := rfl
set_option maxRecDepth 65536 in
theorem w_args : argsFit about1.vm theMethod args0 = true := by decide +kernel
set_option maxRecDepth 65536 in
theorem w_heap : heapFits about1 = true := by decide +kernel
set_option maxRecDepth 65536 in
theorem w_runnable : about1.curStatus? = some .runnable := by decide +kernel
set_option maxRecDepth 65536 in
theorem w_alone : about1.alone = true := by decide +kernel
set_option maxRecDepth 65536 in
theorem w_named : about1.methodNamed? x = some theMethod := by decide +kernel
set_option maxRecDepth 65536 in
theorem w_hears : about1.hears theMethod below0 = true := by decide +kernel
set_option maxRecDepth 65536 in
theorem w_ripe : about1.ripe theMethod args0 below0 = true := by decide +kernel
theorem w_running : about1.status = .running := rfl
set_option maxRecDepth 65536 in
theorem w_room : about1.hasRoom e0.platform room_1 = true :=
  launch0.hasRoom_least _ room_1 (by decide +kernel) (by decide +kernel) (by decide +kernel) (by decide +kernel) (by decide +kernel) (by decide +kernel)
theorem allAtoms_all (ts : List Jvm.Cond) (a : Array Jvm.Value) (st : Jvm.State) : (allAtoms ts).before a st = ts.all (fun c => c.before a st) := by
  induction ts with
  | nil => rfl
  | cons c t ih =>
    show (Jvm.Cond.and c (allAtoms t)).before a st = _
    rw [Jvm.Cond.before_and, ih, List.all_cons]
def words1 : List Jvm.Cond := Jvm.Cond.code x code maxLocals ret :: tables_1
/-- a 'code' word, met by the world's own term for the bytes: nothing is compared byte by byte -/
theorem code_word {y : MethodName} {bytes : ByteArray} {mx : Nat} {rt : Option FieldType} {a : Array Value} {s : State} {m : MethodId} {meth : Method} {c : Code} (h1 : s.methodNamed? y = some m) (h2 : s.vm.method? m = some meth) (h3 : meth.code = some c) (h4 : c.code = bytes)
    (h5 : (c.maxLocals == mx && c.exceptionTable.isEmpty && decide (c.maxStack ≤ mostOperands) && decide (meth.sig.returnType = rt) && !meth.locks && decide (parseMethodDescriptor y.desc = some meth.sig)) = true) : (Jvm.Cond.code y bytes mx rt).before a s = true := by
  simp only [Bool.and_eq_true, beq_iff_eq, Bool.not_eq_true', decide_eq_true_eq] at h5
  obtain ⟨⟨⟨⟨⟨g1, g2⟩, g3⟩, g4⟩, g5⟩, g6⟩ := h5
  simp [Cond.before, Cond.holds, Cond.value, h1, h2, h3, h4, g1, g2, g3, g4, g5, g6]
def isCode : Jvm.Cond → Bool
  | .code _ _ _ _ => true
  | _ => false
theorem all_split {L : List Jvm.Cond} {P : Jvm.Cond → Bool} (h1 : L.all (fun c => isCode c || P c) = true) (h2 : ∀ c ∈ L.filter isCode, P c = true) : L.all P = true := by
  refine List.all_eq_true.mpr fun c hc => ?_
  have h := List.all_eq_true.mp h1 c hc
  rcases Bool.eq_false_or_eq_true (isCode c) with hi | hi
  · exact h2 c (List.mem_filter.mpr ⟨hc, hi⟩)
  · simpa [hi] using h
set_option maxRecDepth 65536 in
theorem w_c0 : (Jvm.Cond.code x code maxLocals ret).before args0 about1 = true := code_word (m := ⟨1, 2⟩) (meth := k1m2) (c := k1c2) (by decide +kernel) rfl rfl rfl (by decide +kernel)
set_option maxRecDepth 65536 in
theorem w_c1 : (Jvm.Cond.code ({ cls := "java/lang/String", name := "<init>", desc := "([C)V" } : Jvm.MethodName) jdk_42_method_3_code (2 : Nat) (Option.none : Option Jvm.ClassFile.FieldType)).before args0 about1 = true := code_word (m := ⟨7, 1⟩) (meth := k7m1) (c := k7c1) (by decide +kernel) rfl rfl rfl (by decide +kernel)
set_option maxRecDepth 65536 in
theorem w_c2 : (Jvm.Cond.code ({ cls := "java/lang/String", name := "<init>", desc := "([CIILjava/lang/Void;)V" } : Jvm.MethodName) jdk_42_method_149_code (6 : Nat) (Option.none : Option Jvm.ClassFile.FieldType)).before args0 about1 = true := code_word (m := ⟨7, 6⟩) (meth := k7m6) (c := k7c6) (by decide +kernel) rfl rfl rfl (by decide +kernel)
set_option maxRecDepth 65536 in
theorem w_c3 : (Jvm.Cond.code ({ cls := "java/lang/Object", name := "<init>", desc := "()V" } : Jvm.MethodName) object_method_1_code (1 : Nat) (Option.none : Option Jvm.ClassFile.FieldType)).before args0 about1 = true := code_word (m := ⟨0, 0⟩) (meth := k0m0) (c := k0c0) (by decide +kernel) rfl rfl rfl (by decide +kernel)
set_option maxRecDepth 65536 in
theorem w_c4 : (Jvm.Cond.code ({ cls := "com/example/fault/fault/TraceId", name := "parse", desc := "(Ljava/lang/String;)Ljava/util/Optional;" } : Jvm.MethodName) prog_14_method_4_code (1 : Nat) (Option.some (Jvm.ClassFile.FieldType.object "java/util/Optional"))).before args0 about1 = true := code_word (m := ⟨9, 1⟩) (meth := k9m1) (c := k9c1) (by decide +kernel) rfl rfl rfl (by decide +kernel)
set_option maxRecDepth 65536 in
theorem w_c5 : (Jvm.Cond.code ({ cls := "com/example/fault/fault/TraceId", name := "isWellFormed", desc := "(Ljava/lang/String;)Z" } : Jvm.MethodName) prog_14_method_7_code (3 : Nat) (Option.some Jvm.ClassFile.FieldType.boolean)).before args0 about1 = true := code_word (m := ⟨9, 2⟩) (meth := k9m2) (c := k9c2) (by decide +kernel) rfl rfl rfl (by decide +kernel)
set_option maxRecDepth 65536 in
theorem w_c6 : (Jvm.Cond.code ({ cls := "java/lang/String", name := "isEmpty", desc := "()Z" } : Jvm.MethodName) jdk_42_method_55_code (1 : Nat) (Option.some Jvm.ClassFile.FieldType.boolean)).before args0 about1 = true := code_word (m := ⟨7, 3⟩) (meth := k7m3) (c := k7c3) (by decide +kernel) rfl rfl rfl (by decide +kernel)
set_option maxRecDepth 65536 in
theorem w_c7 : (Jvm.Cond.code ({ cls := "java/util/Optional", name := "empty", desc := "()Ljava/util/Optional;" } : Jvm.MethodName) jdk_32_method_1_code (1 : Nat) (Option.some (Jvm.ClassFile.FieldType.object "java/util/Optional"))).before args0 about1 = true := code_word (m := ⟨10, 0⟩) (meth := k10m0) (c := k10c0) (by decide +kernel) rfl rfl rfl (by decide +kernel)
set_option maxRecDepth 65536 in
theorem w_c8 : (Jvm.Cond.code ({ cls := "java/util/Optional", name := "isPresent", desc := "()Z" } : Jvm.MethodName) jdk_32_method_6_code (1 : Nat) (Option.some Jvm.ClassFile.FieldType.boolean)).before args0 about1 = true := code_word (m := ⟨10, 4⟩) (meth := k10m4) (c := k10c4) (by decide +kernel) rfl rfl rfl (by decide +kernel)
set_option maxRecDepth 65536 in
theorem w_c9 : (Jvm.Cond.code ({ cls := "java/lang/String", name := "length", desc := "()I" } : Jvm.MethodName) jdk_42_method_54_code (1 : Nat) (Option.some Jvm.ClassFile.FieldType.int)).before args0 about1 = true := code_word (m := ⟨7, 2⟩) (meth := k7m2) (c := k7c2) (by decide +kernel) rfl rfl rfl (by decide +kernel)
set_option maxRecDepth 65536 in
theorem w_c10 : (Jvm.Cond.code ({ cls := "java/lang/String", name := "coder", desc := "()B" } : Jvm.MethodName) jdk_42_method_152_code (1 : Nat) (Option.some Jvm.ClassFile.FieldType.byte)).before args0 about1 = true := code_word (m := ⟨7, 7⟩) (meth := k7m7) (c := k7c7) (by decide +kernel) rfl rfl rfl (by decide +kernel)
set_option maxRecDepth 65536 in
theorem w_c11 : (Jvm.Cond.code ({ cls := "java/lang/StringUTF16", name := "compress", desc := "([CII)[B" } : Jvm.MethodName) jdk_52_method_16_code (6 : Nat) (Option.some (Jvm.ClassFile.FieldType.array Jvm.ClassFile.FieldType.byte))).before args0 about1 = true := code_word (m := ⟨11, 8⟩) (meth := k11m8) (c := k11c8) (by decide +kernel) rfl rfl rfl (by decide +kernel)
set_option maxRecDepth 65536 in
theorem w_c12 : (Jvm.Cond.code ({ cls := "java/lang/StringUTF16", name := "compress", desc := "([CI[BII)I" } : Jvm.MethodName) jdk_52_method_21_code (7 : Nat) (Option.some Jvm.ClassFile.FieldType.int)).before args0 about1 = true := code_word (m := ⟨11, 9⟩) (meth := k11m9) (c := k11c9) (by decide +kernel) rfl rfl rfl (by decide +kernel)
set_option maxRecDepth 65536 in
theorem w_c13 : (Jvm.Cond.code ({ cls := "java/lang/StringUTF16", name := "coderFromArrayLen", desc := "([BI)B" } : Jvm.MethodName) jdk_52_method_15_code (2 : Nat) (Option.some Jvm.ClassFile.FieldType.byte)).before args0 about1 = true := code_word (m := ⟨11, 7⟩) (meth := k11m7) (c := k11c7) (by decide +kernel) rfl rfl rfl (by decide +kernel)
set_option maxRecDepth 65536 in
theorem w_c14 : (Jvm.Cond.code ({ cls := "com/example/fault/fault/TraceIdParsePinLaw", name := "ok", desc := "(C)Z" } : Jvm.MethodName) method_2_code (1 : Nat) (Option.some Jvm.ClassFile.FieldType.boolean)).before args0 about1 = true := code_word (m := ⟨1, 1⟩) (meth := k1m1) (c := k1c1) (by decide +kernel) rfl rfl rfl (by decide +kernel)
set_option maxRecDepth 65536 in
theorem w_c15 : (Jvm.Cond.code ({ cls := "java/lang/String", name := "charAt", desc := "(I)C" } : Jvm.MethodName) jdk_42_method_56_code (2 : Nat) (Option.some Jvm.ClassFile.FieldType.char)).before args0 about1 = true := code_word (m := ⟨7, 4⟩) (meth := k7m4) (c := k7c4) (by decide +kernel) rfl rfl rfl (by decide +kernel)
set_option maxRecDepth 65536 in
theorem w_c16 : (Jvm.Cond.code ({ cls := "java/lang/String", name := "isLatin1", desc := "()Z" } : Jvm.MethodName) jdk_42_method_154_code (1 : Nat) (Option.some Jvm.ClassFile.FieldType.boolean)).before args0 about1 = true := code_word (m := ⟨7, 8⟩) (meth := k7m8) (c := k7c8) (by decide +kernel) rfl rfl rfl (by decide +kernel)
set_option maxRecDepth 65536 in
theorem w_c17 : (Jvm.Cond.code ({ cls := "java/lang/StringLatin1", name := "charAt", desc := "([BI)C" } : Jvm.MethodName) jdk_43_method_2_code (2 : Nat) (Option.some Jvm.ClassFile.FieldType.char)).before args0 about1 = true := code_word (m := ⟨12, 1⟩) (meth := k12m1) (c := k12c1) (by decide +kernel) rfl rfl rfl (by decide +kernel)
set_option maxRecDepth 65536 in
theorem w_c18 : (Jvm.Cond.code ({ cls := "java/lang/String", name := "checkIndex", desc := "(II)V" } : Jvm.MethodName) jdk_42_method_155_code (2 : Nat) (Option.none : Option Jvm.ClassFile.FieldType)).before args0 about1 = true := code_word (m := ⟨7, 9⟩) (meth := k7m9) (c := k7c9) (by decide +kernel) rfl rfl rfl (by decide +kernel)
set_option maxRecDepth 65536 in
theorem w_c19 : (Jvm.Cond.code ({ cls := "jdk/internal/util/Preconditions", name := "checkIndex", desc := "(IILjava/util/function/BiFunction;)I" } : Jvm.MethodName) jdk_41_method_11_code (3 : Nat) (Option.some Jvm.ClassFile.FieldType.int)).before args0 about1 = true := code_word (m := ⟨13, 1⟩) (meth := k13m1) (c := k13c1) (by decide +kernel) rfl rfl rfl (by decide +kernel)
set_option maxRecDepth 65536 in
theorem w_c20 : (Jvm.Cond.code ({ cls := "java/lang/StringUTF16", name := "toBytes", desc := "([CII)[B" } : Jvm.MethodName) jdk_52_method_14_code (5 : Nat) (Option.some (Jvm.ClassFile.FieldType.array Jvm.ClassFile.FieldType.byte))).before args0 about1 = true := code_word (m := ⟨11, 6⟩) (meth := k11m6) (c := k11c6) (by decide +kernel) rfl rfl rfl (by decide +kernel)
set_option maxRecDepth 65536 in
theorem w_c21 : (Jvm.Cond.code ({ cls := "java/lang/StringUTF16", name := "newBytesFor", desc := "(I)[B" } : Jvm.MethodName) jdk_52_method_2_code (1 : Nat) (Option.some (Jvm.ClassFile.FieldType.array Jvm.ClassFile.FieldType.byte))).before args0 about1 = true := code_word (m := ⟨11, 1⟩) (meth := k11m1) (c := k11c1) (by decide +kernel) rfl rfl rfl (by decide +kernel)
set_option maxRecDepth 65536 in
theorem w_c22 : (Jvm.Cond.code ({ cls := "java/lang/StringUTF16", name := "newBytesLength", desc := "(I)I" } : Jvm.MethodName) jdk_52_method_3_code (1 : Nat) (Option.some Jvm.ClassFile.FieldType.int)).before args0 about1 = true := code_word (m := ⟨11, 2⟩) (meth := k11m2) (c := k11c2) (by decide +kernel) rfl rfl rfl (by decide +kernel)
set_option maxRecDepth 65536 in
theorem w_c23 : (Jvm.Cond.code ({ cls := "java/lang/StringUTF16", name := "putChar", desc := "([BII)V" } : Jvm.MethodName) jdk_52_method_4_code (3 : Nat) (Option.none : Option Jvm.ClassFile.FieldType)).before args0 about1 = true := code_word (m := ⟨11, 3⟩) (meth := k11m3) (c := k11c3) (by decide +kernel) rfl rfl rfl (by decide +kernel)
set_option maxRecDepth 65536 in
theorem w_c24 : (Jvm.Cond.code ({ cls := "java/lang/StringUTF16", name := "getChar", desc := "([BI)C" } : Jvm.MethodName) jdk_52_method_5_code (2 : Nat) (Option.some Jvm.ClassFile.FieldType.char)).before args0 about1 = true := code_word (m := ⟨11, 4⟩) (meth := k11m4) (c := k11c4) (by decide +kernel) rfl rfl rfl (by decide +kernel)
set_option maxRecDepth 65536 in
theorem w_c25 : (Jvm.Cond.code ({ cls := "java/lang/StringUTF16", name := "charAt", desc := "([BI)C" } : Jvm.MethodName) jdk_52_method_83_code (2 : Nat) (Option.some Jvm.ClassFile.FieldType.char)).before args0 about1 = true := code_word (m := ⟨11, 10⟩) (meth := k11m10) (c := k11c10) (by decide +kernel) rfl rfl rfl (by decide +kernel)
set_option maxRecDepth 65536 in
theorem w_c26 : (Jvm.Cond.code ({ cls := "java/lang/StringUTF16", name := "checkIndex", desc := "(I[B)V" } : Jvm.MethodName) jdk_52_method_91_code (2 : Nat) (Option.none : Option Jvm.ClassFile.FieldType)).before args0 about1 = true := code_word (m := ⟨11, 11⟩) (meth := k11m11) (c := k11c11) (by decide +kernel) rfl rfl rfl (by decide +kernel)
set_option maxRecDepth 65536 in
theorem w_c27 : (Jvm.Cond.code ({ cls := "java/lang/StringUTF16", name := "length", desc := "([B)I" } : Jvm.MethodName) jdk_52_method_6_code (1 : Nat) (Option.some Jvm.ClassFile.FieldType.int)).before args0 about1 = true := code_word (m := ⟨11, 5⟩) (meth := k11m5) (c := k11c5) (by decide +kernel) rfl rfl rfl (by decide +kernel)
set_option maxRecDepth 65536 in
theorem w_c28 : (Jvm.Cond.code ({ cls := "com/example/fault/fault/TraceId", name := "<init>", desc := "(Ljava/lang/String;)V" } : Jvm.MethodName) prog_14_method_1_code (2 : Nat) (Option.none : Option Jvm.ClassFile.FieldType)).before args0 about1 = true := code_word (m := ⟨9, 0⟩) (meth := k9m0) (c := k9c0) (by decide +kernel) rfl rfl rfl (by decide +kernel)
set_option maxRecDepth 65536 in
theorem w_c29 : (Jvm.Cond.code ({ cls := "java/lang/Record", name := "<init>", desc := "()V" } : Jvm.MethodName) jdk_30_method_1_code (1 : Nat) (Option.none : Option Jvm.ClassFile.FieldType)).before args0 about1 = true := code_word (m := ⟨8, 0⟩) (meth := k8m0) (c := k8c0) (by decide +kernel) rfl rfl rfl (by decide +kernel)
set_option maxRecDepth 65536 in
theorem w_c30 : (Jvm.Cond.code ({ cls := "java/util/Optional", name := "of", desc := "(Ljava/lang/Object;)Ljava/util/Optional;" } : Jvm.MethodName) jdk_32_method_3_code (1 : Nat) (Option.some (Jvm.ClassFile.FieldType.object "java/util/Optional"))).before args0 about1 = true := code_word (m := ⟨10, 2⟩) (meth := k10m2) (c := k10c2) (by decide +kernel) rfl rfl rfl (by decide +kernel)
set_option maxRecDepth 65536 in
theorem w_c31 : (Jvm.Cond.code ({ cls := "java/util/Objects", name := "requireNonNull", desc := "(Ljava/lang/Object;)Ljava/lang/Object;" } : Jvm.MethodName) jdk_31_method_10_code (1 : Nat) (Option.some (Jvm.ClassFile.FieldType.object "java/lang/Object"))).before args0 about1 = true := code_word (m := ⟨14, 1⟩) (meth := k14m1) (c := k14c1) (by decide +kernel) rfl rfl rfl (by decide +kernel)
set_option maxRecDepth 65536 in
theorem w_c32 : (Jvm.Cond.code ({ cls := "java/util/Optional", name := "<init>", desc := "(Ljava/lang/Object;)V" } : Jvm.MethodName) jdk_32_method_2_code (2 : Nat) (Option.none : Option Jvm.ClassFile.FieldType)).before args0 about1 = true := code_word (m := ⟨10, 1⟩) (meth := k10m1) (c := k10c1) (by decide +kernel) rfl rfl rfl (by decide +kernel)
set_option maxRecDepth 65536 in
theorem w_c33 : (Jvm.Cond.code ({ cls := "java/util/Optional", name := "get", desc := "()Ljava/lang/Object;" } : Jvm.MethodName) jdk_32_method_5_code (1 : Nat) (Option.some (Jvm.ClassFile.FieldType.object "java/lang/Object"))).before args0 about1 = true := code_word (m := ⟨10, 3⟩) (meth := k10m3) (c := k10c3) (by decide +kernel) rfl rfl rfl (by decide +kernel)
set_option maxRecDepth 65536 in
theorem w_c34 : (Jvm.Cond.code ({ cls := "com/example/fault/fault/TraceId", name := "value", desc := "()Ljava/lang/String;" } : Jvm.MethodName) prog_14_method_11_code (1 : Nat) (Option.some (Jvm.ClassFile.FieldType.object "java/lang/String"))).before args0 about1 = true := code_word (m := ⟨9, 3⟩) (meth := k9m3) (c := k9c3) (by decide +kernel) rfl rfl rfl (by decide +kernel)
set_option maxRecDepth 65536 in
theorem w_c35 : (Jvm.Cond.code ({ cls := "java/lang/String", name := "equals", desc := "(Ljava/lang/Object;)Z" } : Jvm.MethodName) jdk_42_method_66_code (3 : Nat) (Option.some Jvm.ClassFile.FieldType.boolean)).before args0 about1 = true := code_word (m := ⟨7, 5⟩) (meth := k7m5) (c := k7c5) (by decide +kernel) rfl rfl rfl (by decide +kernel)
def codes1 : List Jvm.Cond := [Jvm.Cond.code x code maxLocals ret, Jvm.Cond.code ({ cls := "java/lang/String", name := "<init>", desc := "([C)V" } : Jvm.MethodName) jdk_42_method_3_code (2 : Nat) (Option.none : Option Jvm.ClassFile.FieldType), Jvm.Cond.code ({ cls := "java/lang/String", name := "<init>", desc := "([CIILjava/lang/Void;)V" } : Jvm.MethodName) jdk_42_method_149_code (6 : Nat) (Option.none : Option Jvm.ClassFile.FieldType), Jvm.Cond.code ({ cls := "java/lang/Object", name := "<init>", desc := "()V" } : Jvm.MethodName) object_method_1_code (1 : Nat) (Option.none : Option Jvm.ClassFile.FieldType), Jvm.Cond.code ({ cls := "com/example/fault/fault/TraceId", name := "parse", desc := "(Ljava/lang/String;)Ljava/util/Optional;" } : Jvm.MethodName) prog_14_method_4_code (1 : Nat) (Option.some (Jvm.ClassFile.FieldType.object "java/util/Optional")), Jvm.Cond.code ({ cls := "com/example/fault/fault/TraceId", name := "isWellFormed", desc := "(Ljava/lang/String;)Z" } : Jvm.MethodName) prog_14_method_7_code (3 : Nat) (Option.some Jvm.ClassFile.FieldType.boolean), Jvm.Cond.code ({ cls := "java/lang/String", name := "isEmpty", desc := "()Z" } : Jvm.MethodName) jdk_42_method_55_code (1 : Nat) (Option.some Jvm.ClassFile.FieldType.boolean), Jvm.Cond.code ({ cls := "java/util/Optional", name := "empty", desc := "()Ljava/util/Optional;" } : Jvm.MethodName) jdk_32_method_1_code (1 : Nat) (Option.some (Jvm.ClassFile.FieldType.object "java/util/Optional")), Jvm.Cond.code ({ cls := "java/util/Optional", name := "isPresent", desc := "()Z" } : Jvm.MethodName) jdk_32_method_6_code (1 : Nat) (Option.some Jvm.ClassFile.FieldType.boolean), Jvm.Cond.code ({ cls := "java/lang/String", name := "length", desc := "()I" } : Jvm.MethodName) jdk_42_method_54_code (1 : Nat) (Option.some Jvm.ClassFile.FieldType.int), Jvm.Cond.code ({ cls := "java/lang/String", name := "coder", desc := "()B" } : Jvm.MethodName) jdk_42_method_152_code (1 : Nat) (Option.some Jvm.ClassFile.FieldType.byte), Jvm.Cond.code ({ cls := "java/lang/StringUTF16", name := "compress", desc := "([CII)[B" } : Jvm.MethodName) jdk_52_method_16_code (6 : Nat) (Option.some (Jvm.ClassFile.FieldType.array Jvm.ClassFile.FieldType.byte)), Jvm.Cond.code ({ cls := "java/lang/StringUTF16", name := "compress", desc := "([CI[BII)I" } : Jvm.MethodName) jdk_52_method_21_code (7 : Nat) (Option.some Jvm.ClassFile.FieldType.int), Jvm.Cond.code ({ cls := "java/lang/StringUTF16", name := "coderFromArrayLen", desc := "([BI)B" } : Jvm.MethodName) jdk_52_method_15_code (2 : Nat) (Option.some Jvm.ClassFile.FieldType.byte), Jvm.Cond.code ({ cls := "com/example/fault/fault/TraceIdParsePinLaw", name := "ok", desc := "(C)Z" } : Jvm.MethodName) method_2_code (1 : Nat) (Option.some Jvm.ClassFile.FieldType.boolean), Jvm.Cond.code ({ cls := "java/lang/String", name := "charAt", desc := "(I)C" } : Jvm.MethodName) jdk_42_method_56_code (2 : Nat) (Option.some Jvm.ClassFile.FieldType.char), Jvm.Cond.code ({ cls := "java/lang/String", name := "isLatin1", desc := "()Z" } : Jvm.MethodName) jdk_42_method_154_code (1 : Nat) (Option.some Jvm.ClassFile.FieldType.boolean), Jvm.Cond.code ({ cls := "java/lang/StringLatin1", name := "charAt", desc := "([BI)C" } : Jvm.MethodName) jdk_43_method_2_code (2 : Nat) (Option.some Jvm.ClassFile.FieldType.char), Jvm.Cond.code ({ cls := "java/lang/String", name := "checkIndex", desc := "(II)V" } : Jvm.MethodName) jdk_42_method_155_code (2 : Nat) (Option.none : Option Jvm.ClassFile.FieldType), Jvm.Cond.code ({ cls := "jdk/internal/util/Preconditions", name := "checkIndex", desc := "(IILjava/util/function/BiFunction;)I" } : Jvm.MethodName) jdk_41_method_11_code (3 : Nat) (Option.some Jvm.ClassFile.FieldType.int), Jvm.Cond.code ({ cls := "java/lang/StringUTF16", name := "toBytes", desc := "([CII)[B" } : Jvm.MethodName) jdk_52_method_14_code (5 : Nat) (Option.some (Jvm.ClassFile.FieldType.array Jvm.ClassFile.FieldType.byte)), Jvm.Cond.code ({ cls := "java/lang/StringUTF16", name := "newBytesFor", desc := "(I)[B" } : Jvm.MethodName) jdk_52_method_2_code (1 : Nat) (Option.some (Jvm.ClassFile.FieldType.array Jvm.ClassFile.FieldType.byte)), Jvm.Cond.code ({ cls := "java/lang/StringUTF16", name := "newBytesLength", desc := "(I)I" } : Jvm.MethodName) jdk_52_method_3_code (1 : Nat) (Option.some Jvm.ClassFile.FieldType.int), Jvm.Cond.code ({ cls := "java/lang/StringUTF16", name := "putChar", desc := "([BII)V" } : Jvm.MethodName) jdk_52_method_4_code (3 : Nat) (Option.none : Option Jvm.ClassFile.FieldType), Jvm.Cond.code ({ cls := "java/lang/StringUTF16", name := "getChar", desc := "([BI)C" } : Jvm.MethodName) jdk_52_method_5_code (2 : Nat) (Option.some Jvm.ClassFile.FieldType.char), Jvm.Cond.code ({ cls := "java/lang/StringUTF16", name := "charAt", desc := "([BI)C" } : Jvm.MethodName) jdk_52_method_83_code (2 : Nat) (Option.some Jvm.ClassFile.FieldType.char), Jvm.Cond.code ({ cls := "java/lang/StringUTF16", name := "checkIndex", desc := "(I[B)V" } : Jvm.MethodName) jdk_52_method_91_code (2 : Nat) (Option.none : Option Jvm.ClassFile.FieldType), Jvm.Cond.code ({ cls := "java/lang/StringUTF16", name := "length", desc := "([B)I" } : Jvm.MethodName) jdk_52_method_6_code (1 : Nat) (Option.some Jvm.ClassFile.FieldType.int), Jvm.Cond.code ({ cls := "com/example/fault/fault/TraceId", name := "<init>", desc := "(Ljava/lang/String;)V" } : Jvm.MethodName) prog_14_method_1_code (2 : Nat) (Option.none : Option Jvm.ClassFile.FieldType), Jvm.Cond.code ({ cls := "java/lang/Record", name := "<init>", desc := "()V" } : Jvm.MethodName) jdk_30_method_1_code (1 : Nat) (Option.none : Option Jvm.ClassFile.FieldType), Jvm.Cond.code ({ cls := "java/util/Optional", name := "of", desc := "(Ljava/lang/Object;)Ljava/util/Optional;" } : Jvm.MethodName) jdk_32_method_3_code (1 : Nat) (Option.some (Jvm.ClassFile.FieldType.object "java/util/Optional")), Jvm.Cond.code ({ cls := "java/util/Objects", name := "requireNonNull", desc := "(Ljava/lang/Object;)Ljava/lang/Object;" } : Jvm.MethodName) jdk_31_method_10_code (1 : Nat) (Option.some (Jvm.ClassFile.FieldType.object "java/lang/Object")), Jvm.Cond.code ({ cls := "java/util/Optional", name := "<init>", desc := "(Ljava/lang/Object;)V" } : Jvm.MethodName) jdk_32_method_2_code (2 : Nat) (Option.none : Option Jvm.ClassFile.FieldType), Jvm.Cond.code ({ cls := "java/util/Optional", name := "get", desc := "()Ljava/lang/Object;" } : Jvm.MethodName) jdk_32_method_5_code (1 : Nat) (Option.some (Jvm.ClassFile.FieldType.object "java/lang/Object")), Jvm.Cond.code ({ cls := "com/example/fault/fault/TraceId", name := "value", desc := "()Ljava/lang/String;" } : Jvm.MethodName) prog_14_method_11_code (1 : Nat) (Option.some (Jvm.ClassFile.FieldType.object "java/lang/String")), Jvm.Cond.code ({ cls := "java/lang/String", name := "equals", desc := "(Ljava/lang/Object;)Z" } : Jvm.MethodName) jdk_42_method_66_code (3 : Nat) (Option.some Jvm.ClassFile.FieldType.boolean)]
set_option maxRecDepth 65536 in
theorem codes_eq : words1.filter isCode = codes1 := rfl
theorem w_codes : ∀ c ∈ words1.filter isCode, c.before args0 about1 = true := by
  rw [codes_eq]
  intro c hc
  simp only [codes1, List.mem_cons, List.not_mem_nil, or_false] at hc
  rcases hc with rfl | rfl | rfl | rfl | rfl | rfl | rfl | rfl | rfl | rfl | rfl | rfl | rfl | rfl | rfl | rfl | rfl | rfl | rfl | rfl | rfl | rfl | rfl | rfl | rfl | rfl | rfl | rfl | rfl | rfl | rfl | rfl | rfl | rfl | rfl | rfl
  · exact w_c0
  · exact w_c1
  · exact w_c2
  · exact w_c3
  · exact w_c4
  · exact w_c5
  · exact w_c6
  · exact w_c7
  · exact w_c8
  · exact w_c9
  · exact w_c10
  · exact w_c11
  · exact w_c12
  · exact w_c13
  · exact w_c14
  · exact w_c15
  · exact w_c16
  · exact w_c17
  · exact w_c18
  · exact w_c19
  · exact w_c20
  · exact w_c21
  · exact w_c22
  · exact w_c23
  · exact w_c24
  · exact w_c25
  · exact w_c26
  · exact w_c27
  · exact w_c28
  · exact w_c29
  · exact w_c30
  · exact w_c31
  · exact w_c32
  · exact w_c33
  · exact w_c34
  · exact w_c35
set_option maxRecDepth 65536 in
theorem w_t1 : (words1.take 24).all (fun c => isCode c || c.before args0 about1) = true := by decide +kernel
set_option maxRecDepth 65536 in
theorem w_t2 : ((words1.drop 24).take 24).all (fun c => isCode c || c.before args0 about1) = true := by decide +kernel
set_option maxRecDepth 65536 in
theorem w_t3 : (((words1.drop 24).drop 24).take 24).all (fun c => isCode c || c.before args0 about1) = true := by decide +kernel
set_option maxRecDepth 65536 in
theorem w_t4 : ((((words1.drop 24).drop 24).drop 24).take 24).all (fun c => isCode c || c.before args0 about1) = true := by decide +kernel
set_option maxRecDepth 65536 in
theorem w_t5 : (((((words1.drop 24).drop 24).drop 24).drop 24).take 24).all (fun c => isCode c || c.before args0 about1) = true := by decide +kernel
set_option maxRecDepth 65536 in
theorem w_t6 : ((((((words1.drop 24).drop 24).drop 24).drop 24).drop 24).take 24).all (fun c => isCode c || c.before args0 about1) = true := by decide +kernel
set_option maxRecDepth 65536 in
theorem w_t7 : (((((((words1.drop 24).drop 24).drop 24).drop 24).drop 24).drop 24).take 24).all (fun c => isCode c || c.before args0 about1) = true := by decide +kernel
set_option maxRecDepth 65536 in
theorem w_t8 : (((((((words1.drop 24).drop 24).drop 24).drop 24).drop 24).drop 24).drop 24).all (fun c => isCode c || c.before args0 about1) = true := by decide +kernel
theorem w_tables : (allAtoms (Jvm.Cond.code x code maxLocals ret :: tables_1)).before args0 about1 = true := by
  rw [allAtoms_all]
  show words1.all (fun c => c.before args0 about1) = true
  refine all_split ?_ w_codes
  rw [← List.take_append_drop 24 words1, List.all_append, w_t1, ← List.take_append_drop 24 (words1.drop 24), List.all_append, w_t2, ← List.take_append_drop 24 ((words1.drop 24).drop 24), List.all_append, w_t3, ← List.take_append_drop 24 (((words1.drop 24).drop 24).drop 24), List.all_append, w_t4, ← List.take_append_drop 24 ((((words1.drop 24).drop 24).drop 24).drop 24), List.all_append, w_t5, ← List.take_append_drop 24 (((((words1.drop 24).drop 24).drop 24).drop 24).drop 24), List.all_append, w_t6, ← List.take_append_drop 24 ((((((words1.drop 24).drop 24).drop 24).drop 24).drop 24).drop 24), List.all_append, w_t7, w_t8]
  rfl
set_option maxRecDepth 65536 in
theorem w_rest : rest_1_c.before args0 about1 = true := by decide +kernel
set_option maxRecDepth 65536 in
theorem w_case : (Jvm.Cond.and given_1 narrow_1).before args0 about1 = true := by decide +kernel
set_option maxRecDepth 65536 in
theorem w_consts : constsHeld consts_1 about1 := Jvm.Lit.constsHeldB_iff.mp (by decide +kernel)
theorem w_applies : (headSpec (Jvm.Cond.code x code maxLocals ret :: tables_1) room_1).applies x e0.platform about1 = true :=
  (Spec.applies_iff w_frames).mpr ⟨w_running, w_runnable, w_alone, w_named, w_hears, w_ripe, w_room, w_tables⟩
theorem atStart : AtStart classFile x code maxLocals ret World_1 tables_1 room_1 Calls_1 rest_1 Pre_1 launch0 p0 e0 about1 theMethod args0 below0 :=
  ⟨lists_1, trivial, launch0.admits_env _ _ _, launch0.least_env, fairChoices_fair.cas, fairChoices_fair.clock, w_frames, w_args, w_heap, w_applies, ⟨w_consts, trivial⟩, w_rest, w_case⟩
end start1
theorem witness_1 : WitnessClaimed_1 := ⟨start1.p0, start1.e0, start1.about1, start1.theMethod, start1.args0, start1.below0, start1.atStart⟩
end Jvm.Pilot.@@N@@
