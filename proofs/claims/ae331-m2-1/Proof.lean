import JvmDerived
import JvmDerived.Pilot.@@N@@Statement
import JvmDerived.Pilot.@@N@@Code
set_option linter.unusedVariables false
set_option linter.unusedSimpArgs false
namespace Jvm.RoadKit
open Sem ClassFile Op Lib Jvm.Stand Jvm.Free Jvm.LawKit
section New
variable {p : Program} {l : Launch} {e : Env} {R : Room} {s : State} {m : MethodId} {args : Array Value} {below : List Frame} {meth : Method} {c : Code} {T : State} {locs : List Loc} {cells slots : Nat}
theorem retI (X : Stand p l e R s m args below meth c T locs cells slots) (hx : p.tables.exec = Jvm.exec) {pc : Nat} {Ls : Array Slot} {z : Int32} {rest : List Value} (hret : meth.sig.returnType = some .int) (hd : decode c.code pc = .ok (.ireturn, 1)) {fs : List Frame}
    (hl : ∀ (f : JFrame) (acts : List Action), f.method = m → f.locked = none → f.entered = [] → (doReturn e (T.setTop f) acts (some (.int z))).1 = T.setFrames fs) : Steps p.tables e below (T.setTop (mkF m pc Ls (.int z :: rest))) (T.setFrames fs) := by
  have hm' : T.vm.method? m = some meth := X.method'
  have hn : narrow .int (.int z) = .int z := rfl
  show Steps p.tables e below (T.setTop { method := m, pc := pc, locals := Ls, stack := _ :: rest, locked := none }) _
  jvm_step X.here [X.here.top, hx, hd, hm', hret, hn]
  first | (intro acts; rw [hl _ acts rfl rfl rfl]) | rw [hl _ _ rfl rfl rfl]
  exact Steps.refl _
/-- from the state a the run ends, within its caller's frames, in an outcome of which P holds -/
def own_Endz (tb : Tables) (e : Env) (below : List Frame) (P : Outcome → State → Prop) (a : State) : Prop := ∃ s₂ o, Steps tb e below a s₂ ∧ s₂.status = .running ∧ Ended s₂ below o ∧ P o s₂
abbrev own_EndQ (s : State) (k n : Nat) (Q : Option Value → Heap → List Loc → Prop) : Outcome → State → Prop := fun o U' => ∃ v L, o = .returned v ∧ Q v U'.heap L ∧ FrameEnd s o U' L k n
theorem own_go {tb : Tables} {P : Outcome → State → Prop} {a b : State} (h : ∀ t, Steps tb e below b t → Steps tb e below a t) (k : own_Endz tb e below P b) : own_Endz tb e below P a := by
  obtain ⟨s2, o, h1, r⟩ := k
  exact ⟨s2, o, h _ h1, r⟩
theorem own_tr {tb : Tables} {P : Outcome → State → Prop} {a b : State} (h : Steps tb e below a b) (k : own_Endz tb e below P b) : own_Endz tb e below P a := by
  obtain ⟨s2, o, h1, r⟩ := k
  exact ⟨s2, o, h.trans h1, r⟩
theorem own_cast {tb : Tables} {P : Outcome → State → Prop} {g g' : JFrame} (q : g = g') (k : own_Endz tb e below P (T.setTop g')) : own_Endz tb e below P (T.setTop g) := q ▸ k
theorem own_retN (X : Stand p l e R s m args below meth c T locs cells slots) (hx : p.tables.exec = Jvm.exec) (hlk : meth.locks = false) {pc : Nat} {Ls : Array Slot} {z : Int32} {t : FieldType} {rest : List Value} (hret : meth.sig.returnType = some t) (ht : t = .boolean ∨ t = .byte ∨ t = .char ∨ t = .short)
    (hd : decode c.code pc = .ok (.ireturn, 1)) {k n : Nat} {Q : Option Value → Heap → List Loc → Prop} (hk : cells ≤ k) (hn : slots ≤ n) (q : Q (some (.int (nar t z))) T.heap locs) : own_Endz p.tables e below (own_EndQ s k n Q) (T.setTop (mkF m pc Ls (.int z :: rest))) := by
  obtain ⟨fs, hr, hrun, hended, hW, hsame⟩ := X.leave (v := some (.int (nar t z))) (fun h => by rw [hret] at h; cases h) hlk
  exact ⟨_, _, retN X hx hret ht hd hr, hrun, hended, _, _, rfl, q, ⟨_, rfl⟩, hW, hsame.mono hk hn⟩
theorem own_retI (X : Stand p l e R s m args below meth c T locs cells slots) (hx : p.tables.exec = Jvm.exec) (hlk : meth.locks = false) {pc : Nat} {Ls : Array Slot} {z : Int32} {rest : List Value} (hret : meth.sig.returnType = some .int)
    (hd : decode c.code pc = .ok (.ireturn, 1)) {k n : Nat} {Q : Option Value → Heap → List Loc → Prop} (hk : cells ≤ k) (hn : slots ≤ n) (q : Q (some (.int z)) T.heap locs) : own_Endz p.tables e below (own_EndQ s k n Q) (T.setTop (mkF m pc Ls (.int z :: rest))) := by
  obtain ⟨fs, hr, hrun, hended, hW, hsame⟩ := X.leave (v := some (.int z)) (fun h => by rw [hret] at h; cases h) hlk
  exact ⟨_, _, retI X hx hret hd hr, hrun, hended, _, _, rfl, q, ⟨_, rfl⟩, hW, hsame.mono hk hn⟩
theorem own_retA (X : Stand p l e R s m args below meth c T locs cells slots) (hx : p.tables.exec = Jvm.exec) (hlk : meth.locks = false) {pc : Nat} {Ls : Array Slot} {w : Value} {t : FieldType} {rest : List Value} (hret : meth.sig.returnType = some t) (ht : t.isReference = true) (hw : w.isRef = true)
    (hd : decode c.code pc = .ok (.areturn, 1)) {k n : Nat} {Q : Option Value → Heap → List Loc → Prop} (hk : cells ≤ k) (hn : slots ≤ n) (q : Q (some w) T.heap locs) : own_Endz p.tables e below (own_EndQ s k n Q) (T.setTop (mkF m pc Ls (w :: rest))) := by
  obtain ⟨fs, hr, hrun, hended, hW, hsame⟩ := X.leave (v := some w) (fun h => by rw [hret] at h; cases h) hlk
  have hnw : narrow t w = w := by cases t <;> first | (cases ht; done) | rfl
  exact ⟨_, _, retOut X hx hret hnw (Or.inr (Or.inr (Or.inr (Or.inr ⟨rfl, ht, hw⟩)))) hd hr, hrun, hended, _, _, rfl, q, ⟨_, rfl⟩, hW, hsame.mono hk hn⟩
theorem own_retV (X : Stand p l e R s m args below meth c T locs cells slots) (hx : p.tables.exec = Jvm.exec) (hlk : meth.locks = false) {pc : Nat} {Ls : Array Slot} (hret : meth.sig.returnType = none)
    (hd : decode c.code pc = .ok (.return_, 1)) {k n : Nat} {Q : Option Value → Heap → List Loc → Prop} (hk : cells ≤ k) (hn : slots ≤ n) (q : Q none T.heap locs) : own_Endz p.tables e below (own_EndQ s k n Q) (T.setTop (mkF m pc Ls [])) := by
  obtain ⟨fs, hr, hrun, hended, hW, hsame⟩ := X.leave (v := none) (fun _ => rfl) hlk
  exact ⟨_, _, X.returnOut hx hret hd hr, hrun, hended, _, _, rfl, q, ⟨_, rfl⟩, hW, hsame.mono hk hn⟩
theorem own_ev {t u : Term} {k : Int32} {args : Array Value} (h : (Cond.eq t (.int k)).value args s none s [] = some true) : t.eval args s none [] s = some (.int k) := by
  simp only [Cond.value, Term.eval] at h
  split at h <;> simp_all
theorem own_fld {t : Term} {C n d : String} {k : Int32} {x : Addr} {args : Array Value} (ht : t.eval args s none [] s = some (.ref x)) (h : (Cond.eq (.field t C n d) (.int k)).value args s none s [] = some true) : Fld s s.heap x C n d (.int k) :=
  Fld.start ((fld_at ht).symm.trans (own_ev (u := t) h))
theorem own_enum {Z : State} {h : Heap} {C f d : String} {ad : Nat → Addr} {n : Nat} (hn : n ≤ 2 ^ 31) (F : ∀ i, i < n → Fld Z h (ad i) C f d (.int i.toInt32)) (i j : Nat) (hi : i < n) (hj : j < n) : ad i = ad j ↔ i = j := by
  refine ⟨fun q => Classical.byContradiction fun ne => (F i hi).ne (F j hj) (fun v => ne ?_) q, fun q => q ▸ rfl⟩
  have q1 := congrArg Int32.toInt (Value.int.inj v)
  rw [len_toInt (by omega), len_toInt (by omega)] at q1
  omega
theorem own_cat {v : Value} (h : v.isRef = true) : v.category = 1 := by cases v <;> first | rfl | (cases h)
theorem own_evR {t u : Term} {a : Addr} {args : Array Value} (hu : u.eval args s none [] s = some (.ref a)) (h : (Cond.eq t u).value args s none s [] = some true) : t.eval args s none [] s = some (.ref a) := by
  simp only [Cond.value, hu] at h
  split at h <;> simp_all
theorem own_len {t : Term} {x : Addr} {cl : Cell} {k : Int32} {args : Array Value} (ht : t.eval args s none [] s = some (.ref x)) (hc : s.heap[x]? = some cl) (h : (Cond.eq (.length t) (.int k)).value args s none s [] = some true) : cl.slots.size.toInt32 = k ∧ cl.slots.size < 2 ^ 31 := by
  have e := own_ev (u := t) h
  obtain ⟨x', cl', e1, e2, e3⟩ := Term.length_spec e
  cases ht.symm.trans e1
  have e4 : cl' = cl := by
    simp only [State.arrayAt?, Option.bind_eq_bind, hc, Option.bind_some] at e2
    obtain ⟨k1, -, e2⟩ := Option.bind_eq_some_iff.mp e2
    split at e2
    · cases e2
    · split at e2
      · exact (Option.some.inj e2).symm
      · cases e2
  subst e4
  refine ⟨(Value.int.inj e3).symm, Classical.byContradiction fun hn => ?_⟩
  simp [Term.eval, ht, e2] at e
  exact hn e.1
theorem own_elem {t u : Term} {x a : Addr} {cl : Cell} {k : Int32} {args : Array Value} (ht : t.eval args s none [] s = some (.ref x)) (hc : s.heap[x]? = some cl) (hu : u.eval args s none [] s = some (.ref a)) (h : (Cond.eq (.elem t (.int k)) u).value args s none s [] = some true) : cl.slots[k.toNatClampNeg]? = some (.ref a) := by
  have e := own_evR hu h
  exact (elem_in e ht (Term.int_eval k) hc).2
theorem own_ite {α : Type} {P : α → Prop} {q : Prop} [Decidable q] {a b : α} (ha : P a) (hb : P b) : P (if q then a else b) := by split <;> assumption
theorem own_i {x y : Int32} (h : x ≠ y) : (Value.int x) ≠ .int y := fun q => h (Value.int.inj q)
end New
end Jvm.RoadKit
namespace Jvm.Pilot.@@N@@
open Jvm Jvm.ClassFile Sem Op Lib Jvm.Free Jvm.Stand Jvm.LawKit Jvm.RoadKit Bundle Jvm.Pilot.@@N@@.Jvm.D
def own_pick (ad : Nat → Addr) (i : Int32) : Addr := if i = 0 then ad 0 else if i = 1 then ad 1 else if i = 2 then ad 2 else if i = 3 then ad 3 else if i = 4 then ad 4 else if i = 5 then ad 5 else if i = 6 then ad 6 else if i = 7 then ad 7 else if i = 8 then ad 8 else if i = 9 then ad 9 else if i = 10 then ad 10 else if i = 11 then ad 11 else if i = 12 then ad 12 else if i = 13 then ad 13 else if i = 14 then ad 14 else if i = 15 then ad 15 else if i = 16 then ad 16 else if i = 17 then ad 17 else if i = 18 then ad 18 else if i = 19 then ad 19 else ad 20
theorem own_pick_all {ad : Nat → Addr} {P : Addr → Prop} (i : Int32) (h0 : P (ad 0)) (h1 : P (ad 1)) (h2 : P (ad 2)) (h3 : P (ad 3)) (h4 : P (ad 4)) (h5 : P (ad 5)) (h6 : P (ad 6)) (h7 : P (ad 7)) (h8 : P (ad 8)) (h9 : P (ad 9)) (h10 : P (ad 10)) (h11 : P (ad 11)) (h12 : P (ad 12)) (h13 : P (ad 13)) (h14 : P (ad 14)) (h15 : P (ad 15)) (h16 : P (ad 16)) (h17 : P (ad 17)) (h18 : P (ad 18)) (h19 : P (ad 19)) (h20 : P (ad 20)) : P (own_pick ad i) := own_ite (P := P) h0 (own_ite (P := P) h1 (own_ite (P := P) h2 (own_ite (P := P) h3 (own_ite (P := P) h4 (own_ite (P := P) h5 (own_ite (P := P) h6 (own_ite (P := P) h7 (own_ite (P := P) h8 (own_ite (P := P) h9 (own_ite (P := P) h10 (own_ite (P := P) h11 (own_ite (P := P) h12 (own_ite (P := P) h13 (own_ite (P := P) h14 (own_ite (P := P) h15 (own_ite (P := P) h16 (own_ite (P := P) h17 (own_ite (P := P) h18 (own_ite (P := P) h19 (h20))))))))))))))))))))
def own_isP (ad : Nat → Addr) (r : Addr) : Int32 := if r = ad 2 then 1 else if r = ad 3 then 1 else if r = ad 5 then 1 else if r = ad 6 then 1 else 0
def own_exp (i : Int32) : Int32 := if i = 2 then 1 else if i = 3 then 1 else if i = 5 then 1 else if i = 6 then 1 else 0
theorem d1_0 : decode method_4_code 0 = .ok (.iload_n 0, 1) := by decide +kernel
theorem d1_1 : decode method_4_code 1 = .ok (.ifCond .ne 7, 3) := by decide +kernel
theorem d1_4 : decode method_4_code 4 = .ok (.getstatic 24, 3) := by decide +kernel
theorem d1_7 : decode method_4_code 7 = .ok (.areturn, 1) := by decide +kernel
theorem d1_8 : decode method_4_code 8 = .ok (.iload_n 0, 1) := by decide +kernel
theorem d1_9 : decode method_4_code 9 = .ok (.iconst 1, 1) := by decide +kernel
theorem d1_10 : decode method_4_code 10 = .ok (.if_icmp .ne 7, 3) := by decide +kernel
theorem d1_13 : decode method_4_code 13 = .ok (.getstatic 28, 3) := by decide +kernel
theorem d1_16 : decode method_4_code 16 = .ok (.areturn, 1) := by decide +kernel
theorem d1_17 : decode method_4_code 17 = .ok (.iload_n 0, 1) := by decide +kernel
theorem d1_18 : decode method_4_code 18 = .ok (.iconst 2, 1) := by decide +kernel
theorem d1_19 : decode method_4_code 19 = .ok (.if_icmp .ne 7, 3) := by decide +kernel
theorem d1_22 : decode method_4_code 22 = .ok (.getstatic 31, 3) := by decide +kernel
theorem d1_25 : decode method_4_code 25 = .ok (.areturn, 1) := by decide +kernel
theorem d1_26 : decode method_4_code 26 = .ok (.iload_n 0, 1) := by decide +kernel
theorem d1_27 : decode method_4_code 27 = .ok (.iconst 3, 1) := by decide +kernel
theorem d1_28 : decode method_4_code 28 = .ok (.if_icmp .ne 7, 3) := by decide +kernel
theorem d1_31 : decode method_4_code 31 = .ok (.getstatic 34, 3) := by decide +kernel
theorem d1_34 : decode method_4_code 34 = .ok (.areturn, 1) := by decide +kernel
theorem d1_35 : decode method_4_code 35 = .ok (.iload_n 0, 1) := by decide +kernel
theorem d1_36 : decode method_4_code 36 = .ok (.iconst 4, 1) := by decide +kernel
theorem d1_37 : decode method_4_code 37 = .ok (.if_icmp .ne 7, 3) := by decide +kernel
theorem d1_40 : decode method_4_code 40 = .ok (.getstatic 37, 3) := by decide +kernel
theorem d1_43 : decode method_4_code 43 = .ok (.areturn, 1) := by decide +kernel
theorem d1_44 : decode method_4_code 44 = .ok (.iload_n 0, 1) := by decide +kernel
theorem d1_45 : decode method_4_code 45 = .ok (.iconst 5, 1) := by decide +kernel
theorem d1_46 : decode method_4_code 46 = .ok (.if_icmp .ne 7, 3) := by decide +kernel
theorem d1_49 : decode method_4_code 49 = .ok (.getstatic 40, 3) := by decide +kernel
theorem d1_52 : decode method_4_code 52 = .ok (.areturn, 1) := by decide +kernel
theorem d1_53 : decode method_4_code 53 = .ok (.iload_n 0, 1) := by decide +kernel
theorem d1_54 : decode method_4_code 54 = .ok (.bipush 6, 2) := by decide +kernel
theorem d1_56 : decode method_4_code 56 = .ok (.if_icmp .ne 7, 3) := by decide +kernel
theorem d1_59 : decode method_4_code 59 = .ok (.getstatic 43, 3) := by decide +kernel
theorem d1_62 : decode method_4_code 62 = .ok (.areturn, 1) := by decide +kernel
theorem d1_63 : decode method_4_code 63 = .ok (.iload_n 0, 1) := by decide +kernel
theorem d1_64 : decode method_4_code 64 = .ok (.bipush 7, 2) := by decide +kernel
theorem d1_66 : decode method_4_code 66 = .ok (.if_icmp .ne 7, 3) := by decide +kernel
theorem d1_69 : decode method_4_code 69 = .ok (.getstatic 46, 3) := by decide +kernel
theorem d1_72 : decode method_4_code 72 = .ok (.areturn, 1) := by decide +kernel
theorem d1_73 : decode method_4_code 73 = .ok (.iload_n 0, 1) := by decide +kernel
theorem d1_74 : decode method_4_code 74 = .ok (.bipush 8, 2) := by decide +kernel
theorem d1_76 : decode method_4_code 76 = .ok (.if_icmp .ne 7, 3) := by decide +kernel
theorem d1_79 : decode method_4_code 79 = .ok (.getstatic 49, 3) := by decide +kernel
theorem d1_82 : decode method_4_code 82 = .ok (.areturn, 1) := by decide +kernel
theorem d1_83 : decode method_4_code 83 = .ok (.iload_n 0, 1) := by decide +kernel
theorem d1_84 : decode method_4_code 84 = .ok (.bipush 9, 2) := by decide +kernel
theorem d1_86 : decode method_4_code 86 = .ok (.if_icmp .ne 7, 3) := by decide +kernel
theorem d1_89 : decode method_4_code 89 = .ok (.getstatic 52, 3) := by decide +kernel
theorem d1_92 : decode method_4_code 92 = .ok (.areturn, 1) := by decide +kernel
theorem d1_93 : decode method_4_code 93 = .ok (.iload_n 0, 1) := by decide +kernel
theorem d1_94 : decode method_4_code 94 = .ok (.bipush 10, 2) := by decide +kernel
theorem d1_96 : decode method_4_code 96 = .ok (.if_icmp .ne 7, 3) := by decide +kernel
theorem d1_99 : decode method_4_code 99 = .ok (.getstatic 55, 3) := by decide +kernel
theorem d1_102 : decode method_4_code 102 = .ok (.areturn, 1) := by decide +kernel
theorem d1_103 : decode method_4_code 103 = .ok (.iload_n 0, 1) := by decide +kernel
theorem d1_104 : decode method_4_code 104 = .ok (.bipush 11, 2) := by decide +kernel
theorem d1_106 : decode method_4_code 106 = .ok (.if_icmp .ne 7, 3) := by decide +kernel
theorem d1_109 : decode method_4_code 109 = .ok (.getstatic 58, 3) := by decide +kernel
theorem d1_112 : decode method_4_code 112 = .ok (.areturn, 1) := by decide +kernel
theorem d1_113 : decode method_4_code 113 = .ok (.iload_n 0, 1) := by decide +kernel
theorem d1_114 : decode method_4_code 114 = .ok (.bipush 12, 2) := by decide +kernel
theorem d1_116 : decode method_4_code 116 = .ok (.if_icmp .ne 7, 3) := by decide +kernel
theorem d1_119 : decode method_4_code 119 = .ok (.getstatic 61, 3) := by decide +kernel
theorem d1_122 : decode method_4_code 122 = .ok (.areturn, 1) := by decide +kernel
theorem d1_123 : decode method_4_code 123 = .ok (.iload_n 0, 1) := by decide +kernel
theorem d1_124 : decode method_4_code 124 = .ok (.bipush 13, 2) := by decide +kernel
theorem d1_126 : decode method_4_code 126 = .ok (.if_icmp .ne 7, 3) := by decide +kernel
theorem d1_129 : decode method_4_code 129 = .ok (.getstatic 64, 3) := by decide +kernel
theorem d1_132 : decode method_4_code 132 = .ok (.areturn, 1) := by decide +kernel
theorem d1_133 : decode method_4_code 133 = .ok (.iload_n 0, 1) := by decide +kernel
theorem d1_134 : decode method_4_code 134 = .ok (.bipush 14, 2) := by decide +kernel
theorem d1_136 : decode method_4_code 136 = .ok (.if_icmp .ne 7, 3) := by decide +kernel
theorem d1_139 : decode method_4_code 139 = .ok (.getstatic 67, 3) := by decide +kernel
theorem d1_142 : decode method_4_code 142 = .ok (.areturn, 1) := by decide +kernel
theorem d1_143 : decode method_4_code 143 = .ok (.iload_n 0, 1) := by decide +kernel
theorem d1_144 : decode method_4_code 144 = .ok (.bipush 15, 2) := by decide +kernel
theorem d1_146 : decode method_4_code 146 = .ok (.if_icmp .ne 7, 3) := by decide +kernel
theorem d1_149 : decode method_4_code 149 = .ok (.getstatic 70, 3) := by decide +kernel
theorem d1_152 : decode method_4_code 152 = .ok (.areturn, 1) := by decide +kernel
theorem d1_153 : decode method_4_code 153 = .ok (.iload_n 0, 1) := by decide +kernel
theorem d1_154 : decode method_4_code 154 = .ok (.bipush 16, 2) := by decide +kernel
theorem d1_156 : decode method_4_code 156 = .ok (.if_icmp .ne 7, 3) := by decide +kernel
theorem d1_159 : decode method_4_code 159 = .ok (.getstatic 73, 3) := by decide +kernel
theorem d1_162 : decode method_4_code 162 = .ok (.areturn, 1) := by decide +kernel
theorem d1_163 : decode method_4_code 163 = .ok (.iload_n 0, 1) := by decide +kernel
theorem d1_164 : decode method_4_code 164 = .ok (.bipush 17, 2) := by decide +kernel
theorem d1_166 : decode method_4_code 166 = .ok (.if_icmp .ne 7, 3) := by decide +kernel
theorem d1_169 : decode method_4_code 169 = .ok (.getstatic 76, 3) := by decide +kernel
theorem d1_172 : decode method_4_code 172 = .ok (.areturn, 1) := by decide +kernel
theorem d1_173 : decode method_4_code 173 = .ok (.iload_n 0, 1) := by decide +kernel
theorem d1_174 : decode method_4_code 174 = .ok (.bipush 18, 2) := by decide +kernel
theorem d1_176 : decode method_4_code 176 = .ok (.if_icmp .ne 7, 3) := by decide +kernel
theorem d1_179 : decode method_4_code 179 = .ok (.getstatic 79, 3) := by decide +kernel
theorem d1_182 : decode method_4_code 182 = .ok (.areturn, 1) := by decide +kernel
theorem d1_183 : decode method_4_code 183 = .ok (.iload_n 0, 1) := by decide +kernel
theorem d1_184 : decode method_4_code 184 = .ok (.bipush 19, 2) := by decide +kernel
theorem d1_186 : decode method_4_code 186 = .ok (.if_icmp .ne 7, 3) := by decide +kernel
theorem d1_189 : decode method_4_code 189 = .ok (.getstatic 82, 3) := by decide +kernel
theorem d1_192 : decode method_4_code 192 = .ok (.areturn, 1) := by decide +kernel
theorem d1_193 : decode method_4_code 193 = .ok (.getstatic 85, 3) := by decide +kernel
theorem d1_196 : decode method_4_code 196 = .ok (.areturn, 1) := by decide +kernel
theorem pn_0 : plainName "com/example/axiomloom/axiomloom/owl/ElementIsPropertyPinLaw" = true := by first | (simp [plainName, overriddenIn]; done) | decide +kernel
theorem ef_1 (m : MethodId) (i : Int32) : entryFrame m #[(.int i)] 1 = mkF m 0 #[.val (.int i)] [] := by first | (simp [entryFrame, mkF, argsToLocals, Value.category]; done) | rfl
def Q1 (Z : State) (i : Int32) (ad : Nat → Addr) (h0 : Heap) (n0 : Nat) (v : Option Value) (h : Heap) (L : List Loc) : Prop := v = some (.ref (own_pick ad i)) ∧ Fr n0 L ∧ h = h0
set_option maxRecDepth 65536 in
set_option maxHeartbeats 40000000 in
theorem rm1 (l : Launch) (Z : State) (a0 : Array Value) (hw : ∀ d ∈ tables_1, d.before a0 Z = true) (ws : List Jvm.Cond) (i : Int32) (ad : Nat → Addr) (h0 : Heap) (n0 : Nat) (Z0 : n0 ≤ h0.size) (Sd0 : Sta Z h0 "com/example/axiomloom/axiomloom/owl/Construct$Element" "CLASS_EXPRESSION" "Lcom/example/axiomloom/axiomloom/owl/Construct$Element;" (.ref (ad 0))) (Sd1 : Sta Z h0 "com/example/axiomloom/axiomloom/owl/Construct$Element" "CLASS" "Lcom/example/axiomloom/axiomloom/owl/Construct$Element;" (.ref (ad 1))) (Sd2 : Sta Z h0 "com/example/axiomloom/axiomloom/owl/Construct$Element" "OBJECT_PROPERTY_EXPRESSION" "Lcom/example/axiomloom/axiomloom/owl/Construct$Element;" (.ref (ad 2))) (Sd3 : Sta Z h0 "com/example/axiomloom/axiomloom/owl/Construct$Element" "OBJECT_PROPERTY" "Lcom/example/axiomloom/axiomloom/owl/Construct$Element;" (.ref (ad 3))) (Sd4 : Sta Z h0 "com/example/axiomloom/axiomloom/owl/Construct$Element" "SUB_OBJECT_PROPERTY" "Lcom/example/axiomloom/axiomloom/owl/Construct$Element;" (.ref (ad 4))) (Sd5 : Sta Z h0 "com/example/axiomloom/axiomloom/owl/Construct$Element" "DATA_PROPERTY" "Lcom/example/axiomloom/axiomloom/owl/Construct$Element;" (.ref (ad 5))) (Sd6 : Sta Z h0 "com/example/axiomloom/axiomloom/owl/Construct$Element" "DATA_PROPERTIES_AND_RANGE" "Lcom/example/axiomloom/axiomloom/owl/Construct$Element;" (.ref (ad 6))) (Sd7 : Sta Z h0 "com/example/axiomloom/axiomloom/owl/Construct$Element" "DATA_RANGE" "Lcom/example/axiomloom/axiomloom/owl/Construct$Element;" (.ref (ad 7))) (Sd8 : Sta Z h0 "com/example/axiomloom/axiomloom/owl/Construct$Element" "DATATYPE" "Lcom/example/axiomloom/axiomloom/owl/Construct$Element;" (.ref (ad 8))) (Sd9 : Sta Z h0 "com/example/axiomloom/axiomloom/owl/Construct$Element" "INDIVIDUAL" "Lcom/example/axiomloom/axiomloom/owl/Construct$Element;" (.ref (ad 9))) (Sd10 : Sta Z h0 "com/example/axiomloom/axiomloom/owl/Construct$Element" "NAMED_INDIVIDUAL" "Lcom/example/axiomloom/axiomloom/owl/Construct$Element;" (.ref (ad 10))) (Sd11 : Sta Z h0 "com/example/axiomloom/axiomloom/owl/Construct$Element" "LITERAL" "Lcom/example/axiomloom/axiomloom/owl/Construct$Element;" (.ref (ad 11))) (Sd12 : Sta Z h0 "com/example/axiomloom/axiomloom/owl/Construct$Element" "NON_NEGATIVE_INTEGER" "Lcom/example/axiomloom/axiomloom/owl/Construct$Element;" (.ref (ad 12))) (Sd13 : Sta Z h0 "com/example/axiomloom/axiomloom/owl/Construct$Element" "OBJECT_PROPERTY_LIST" "Lcom/example/axiomloom/axiomloom/owl/Construct$Element;" (.ref (ad 13))) (Sd14 : Sta Z h0 "com/example/axiomloom/axiomloom/owl/Construct$Element" "DATA_PROPERTY_LIST" "Lcom/example/axiomloom/axiomloom/owl/Construct$Element;" (.ref (ad 14))) (Sd15 : Sta Z h0 "com/example/axiomloom/axiomloom/owl/Construct$Element" "FACET_RESTRICTION" "Lcom/example/axiomloom/axiomloom/owl/Construct$Element;" (.ref (ad 15))) (Sd16 : Sta Z h0 "com/example/axiomloom/axiomloom/owl/Construct$Element" "ANNOTATION_PROPERTY" "Lcom/example/axiomloom/axiomloom/owl/Construct$Element;" (.ref (ad 16))) (Sd17 : Sta Z h0 "com/example/axiomloom/axiomloom/owl/Construct$Element" "ANNOTATION_SUBJECT" "Lcom/example/axiomloom/axiomloom/owl/Construct$Element;" (.ref (ad 17))) (Sd18 : Sta Z h0 "com/example/axiomloom/axiomloom/owl/Construct$Element" "ANNOTATION_VALUE" "Lcom/example/axiomloom/axiomloom/owl/Construct$Element;" (.ref (ad 18))) (Sd19 : Sta Z h0 "com/example/axiomloom/axiomloom/owl/Construct$Element" "IRI" "Lcom/example/axiomloom/axiomloom/owl/Construct$Element;" (.ref (ad 19))) (Sd20 : Sta Z h0 "com/example/axiomloom/axiomloom/owl/Construct$Element" "ENTITY" "Lcom/example/axiomloom/axiomloom/owl/Construct$Element;" (.ref (ad 20))) :
    MetFree l (⟨"com/example/axiomloom/axiomloom/owl/ElementIsPropertyPinLaw", "pick", "(I)Lcom/example/axiomloom/axiomloom/owl/Construct$Element;"⟩ : MethodName) (head1 (Jvm.Cond.code (⟨"com/example/axiomloom/axiomloom/owl/ElementIsPropertyPinLaw", "pick", "(I)Lcom/example/axiomloom/axiomloom/owl/Construct$Element;"⟩ : MethodName) method_4_code 1 (some (.object "com/example/axiomloom/axiomloom/owl/Construct$Element")) :: ws) ({ frames := 0, cells := 0, slots := 0, locals := 0 } : Room)) (fun a U => a = #[(.int i)] ∧ Z.Warmed39 U.vm ∧ U.heap = h0) (fun _ _ _ _ _ => True) (fun _ U o U' => ∃ v L, o = .returned v ∧ Q1 Z i ad h0 n0 v U'.heap L ∧ FrameEnd U o U' L ({ frames := 0, cells := 0, slots := 0, locals := 0 } : Room).cells ({ frames := 0, cells := 0, slots := 0, locals := 0 } : Room).slots) := by
  refine MetFree.of_bodySF (plainFor_of_name pn_0) hisR ?_
  intro p e s m args below meth c s₁ Bd hml0 hP hK
  obtain ⟨rfl, hZ, hh⟩ := hP
  have hx := Bd.exec
  have hby := Bd.bytes
  have hml : c.maxLocals = 1 := hml0
  have hown : s.vm.findClass "com/example/axiomloom/axiomloom/owl/ElementIsPropertyPinLaw" = some m.cls := findClass_of_methodNamed Bd.named
  have hnm := (name_of_methodNamed Bd.named Bd.method).1
  have hlk : meth.locks = false := Bd.notSynchronized
  have hrt := Bd.returns
  have X0 : Stand p l e ({ frames := 0, cells := 0, slots := 0, locals := 0 } : Room) s m #[(.int i)] below meth c s₁ [] 0 0 := Stand.of_body Bd
  have e0 : s₁.heap = h0 := by rw [← hh, Bd.state]; rfl
  have N0 := Fr.nil n0
  show own_Endz p.tables e below (own_EndQ s ({ frames := 0, cells := 0, slots := 0, locals := 0 } : Room).cells ({ frames := 0, cells := 0, slots := 0, locals := 0 } : Room).slots (Q1 Z i ad h0 n0)) (s₁.setTop (entryFrame m #[(.int i)] 1))
  refine own_cast (ef_1 m i) ?_
  refine own_go (b := s₁.setTop (mkF m 1 #[.val (.int i)] [(.int i)])) (fun t k => XS.iloadN X0.here hx rfl (hb hby d1_0) rfl  k) ?_
  by_cases hc1 : i = (0 : Int32)
  · refine own_go (b := s₁.setTop (mkF m 4 #[.val (.int i)] [])) (fun t k => XS.ifNo X0.here hx rfl (hb hby d1_1) rfl ((if0 _ _).trans (teq hc1).2) k) ?_
    obtain ⟨T2, X2, e2, st2⟩ := getS2 X0 hx hZ hown (host := "") (Or.inl (hw _ (List.mem_of_getElem? (i := 5) rfl))) Via.refl e0 Sd0 (g := (mkF m 4 #[.val (.int i)] [])) rfl (hb hby d1_4)
    refine own_go (b := T2.setTop (mkF m 7 #[.val (.int i)] [(.ref (ad 0))])) st2 ?_
    exact own_retA X2 hx hlk hrt rfl rfl (hb hby d1_7) (Nat.le_of_ble_eq_true rfl) (Nat.le_of_ble_eq_true rfl) (⟨by first | rfl | (simp only [own_pick, eq_true hc1, if_true, if_false]; done) | (simp only [own_pick, eq_true hc1, if_true, if_false]; rfl) | (simp [own_pick, eq_true hc1]; done) | (simp [own_pick, eq_true hc1]; rfl), N0, e2⟩)
  · refine own_go (b := s₁.setTop (mkF m 8 #[.val (.int i)] [])) (fun t k => XS.ifYes X0.here hx rfl (pc0 := 1) (pc' := 8) rfl (hb hby d1_1) rfl ((if0 _ _).trans (feq hc1).2) (by decide) (by decide) k) ?_
    refine own_go (b := s₁.setTop (mkF m 9 #[.val (.int i)] [(.int i)])) (fun t k => XS.iloadN X0.here hx rfl (hb hby d1_8) rfl  k) ?_
    refine own_go (b := s₁.setTop (mkF m 10 #[.val (.int i)] [(.int (1 : Int32)), (.int i)])) (fun t k => XS.iconst X0.here hx rfl (hb hby d1_9) k) ?_
    by_cases hc3 : i = (1 : Int32)
    · refine own_go (b := s₁.setTop (mkF m 13 #[.val (.int i)] [])) (fun t k => XS.icmpNo X0.here hx rfl (hb hby d1_10) rfl (teq hc3).2 k) ?_
      obtain ⟨T4, X4, e4, st4⟩ := getS2 X0 hx hZ hown (host := "") (Or.inl (hw _ (List.mem_of_getElem? (i := 38) rfl))) Via.refl e0 Sd1 (g := (mkF m 13 #[.val (.int i)] [])) rfl (hb hby d1_13)
      refine own_go (b := T4.setTop (mkF m 16 #[.val (.int i)] [(.ref (ad 1))])) st4 ?_
      exact own_retA X4 hx hlk hrt rfl rfl (hb hby d1_16) (Nat.le_of_ble_eq_true rfl) (Nat.le_of_ble_eq_true rfl) (⟨by first | rfl | (simp only [own_pick, eq_false hc1, eq_true hc3, if_true, if_false]; done) | (simp only [own_pick, eq_false hc1, eq_true hc3, if_true, if_false]; rfl) | (simp [own_pick, eq_false hc1, eq_true hc3]; done) | (simp [own_pick, eq_false hc1, eq_true hc3]; rfl), N0, e4⟩)
    · refine own_go (b := s₁.setTop (mkF m 17 #[.val (.int i)] [])) (fun t k => XS.icmpYes X0.here hx rfl (pc0 := 10) (pc' := 17) rfl (hb hby d1_10) rfl (feq hc3).2 (by decide) (by decide) k) ?_
      refine own_go (b := s₁.setTop (mkF m 18 #[.val (.int i)] [(.int i)])) (fun t k => XS.iloadN X0.here hx rfl (hb hby d1_17) rfl  k) ?_
      refine own_go (b := s₁.setTop (mkF m 19 #[.val (.int i)] [(.int (2 : Int32)), (.int i)])) (fun t k => XS.iconst X0.here hx rfl (hb hby d1_18) k) ?_
      by_cases hc5 : i = (2 : Int32)
      · refine own_go (b := s₁.setTop (mkF m 22 #[.val (.int i)] [])) (fun t k => XS.icmpNo X0.here hx rfl (hb hby d1_19) rfl (teq hc5).2 k) ?_
        obtain ⟨T6, X6, e6, st6⟩ := getS2 X0 hx hZ hown (host := "") (Or.inl (hw _ (List.mem_of_getElem? (i := 33) rfl))) Via.refl e0 Sd2 (g := (mkF m 22 #[.val (.int i)] [])) rfl (hb hby d1_22)
        refine own_go (b := T6.setTop (mkF m 25 #[.val (.int i)] [(.ref (ad 2))])) st6 ?_
        exact own_retA X6 hx hlk hrt rfl rfl (hb hby d1_25) (Nat.le_of_ble_eq_true rfl) (Nat.le_of_ble_eq_true rfl) (⟨by first | rfl | (simp only [own_pick, eq_false hc1, eq_false hc3, eq_true hc5, if_true, if_false]; done) | (simp only [own_pick, eq_false hc1, eq_false hc3, eq_true hc5, if_true, if_false]; rfl) | (simp [own_pick, eq_false hc1, eq_false hc3, eq_true hc5]; done) | (simp [own_pick, eq_false hc1, eq_false hc3, eq_true hc5]; rfl), N0, e6⟩)
      · refine own_go (b := s₁.setTop (mkF m 26 #[.val (.int i)] [])) (fun t k => XS.icmpYes X0.here hx rfl (pc0 := 19) (pc' := 26) rfl (hb hby d1_19) rfl (feq hc5).2 (by decide) (by decide) k) ?_
        refine own_go (b := s₁.setTop (mkF m 27 #[.val (.int i)] [(.int i)])) (fun t k => XS.iloadN X0.here hx rfl (hb hby d1_26) rfl  k) ?_
        refine own_go (b := s₁.setTop (mkF m 28 #[.val (.int i)] [(.int (3 : Int32)), (.int i)])) (fun t k => XS.iconst X0.here hx rfl (hb hby d1_27) k) ?_
        by_cases hc7 : i = (3 : Int32)
        · refine own_go (b := s₁.setTop (mkF m 31 #[.val (.int i)] [])) (fun t k => XS.icmpNo X0.here hx rfl (hb hby d1_28) rfl (teq hc7).2 k) ?_
          obtain ⟨T8, X8, e8, st8⟩ := getS2 X0 hx hZ hown (host := "") (Or.inl (hw _ (List.mem_of_getElem? (i := 24) rfl))) Via.refl e0 Sd3 (g := (mkF m 31 #[.val (.int i)] [])) rfl (hb hby d1_31)
          refine own_go (b := T8.setTop (mkF m 34 #[.val (.int i)] [(.ref (ad 3))])) st8 ?_
          exact own_retA X8 hx hlk hrt rfl rfl (hb hby d1_34) (Nat.le_of_ble_eq_true rfl) (Nat.le_of_ble_eq_true rfl) (⟨by first | rfl | (simp only [own_pick, eq_false hc1, eq_false hc3, eq_false hc5, eq_true hc7, if_true, if_false]; done) | (simp only [own_pick, eq_false hc1, eq_false hc3, eq_false hc5, eq_true hc7, if_true, if_false]; rfl) | (simp [own_pick, eq_false hc1, eq_false hc3, eq_false hc5, eq_true hc7]; done) | (simp [own_pick, eq_false hc1, eq_false hc3, eq_false hc5, eq_true hc7]; rfl), N0, e8⟩)
        · refine own_go (b := s₁.setTop (mkF m 35 #[.val (.int i)] [])) (fun t k => XS.icmpYes X0.here hx rfl (pc0 := 28) (pc' := 35) rfl (hb hby d1_28) rfl (feq hc7).2 (by decide) (by decide) k) ?_
          refine own_go (b := s₁.setTop (mkF m 36 #[.val (.int i)] [(.int i)])) (fun t k => XS.iloadN X0.here hx rfl (hb hby d1_35) rfl  k) ?_
          refine own_go (b := s₁.setTop (mkF m 37 #[.val (.int i)] [(.int (4 : Int32)), (.int i)])) (fun t k => XS.iconst X0.here hx rfl (hb hby d1_36) k) ?_
          by_cases hc9 : i = (4 : Int32)
          · refine own_go (b := s₁.setTop (mkF m 40 #[.val (.int i)] [])) (fun t k => XS.icmpNo X0.here hx rfl (hb hby d1_37) rfl (teq hc9).2 k) ?_
            obtain ⟨T10, X10, e10, st10⟩ := getS2 X0 hx hZ hown (host := "") (Or.inl (hw _ (List.mem_of_getElem? (i := 54) rfl))) Via.refl e0 Sd4 (g := (mkF m 40 #[.val (.int i)] [])) rfl (hb hby d1_40)
            refine own_go (b := T10.setTop (mkF m 43 #[.val (.int i)] [(.ref (ad 4))])) st10 ?_
            exact own_retA X10 hx hlk hrt rfl rfl (hb hby d1_43) (Nat.le_of_ble_eq_true rfl) (Nat.le_of_ble_eq_true rfl) (⟨by first | rfl | (simp only [own_pick, eq_false hc1, eq_false hc3, eq_false hc5, eq_false hc7, eq_true hc9, if_true, if_false]; done) | (simp only [own_pick, eq_false hc1, eq_false hc3, eq_false hc5, eq_false hc7, eq_true hc9, if_true, if_false]; rfl) | (simp [own_pick, eq_false hc1, eq_false hc3, eq_false hc5, eq_false hc7, eq_true hc9]; done) | (simp [own_pick, eq_false hc1, eq_false hc3, eq_false hc5, eq_false hc7, eq_true hc9]; rfl), N0, e10⟩)
          · refine own_go (b := s₁.setTop (mkF m 44 #[.val (.int i)] [])) (fun t k => XS.icmpYes X0.here hx rfl (pc0 := 37) (pc' := 44) rfl (hb hby d1_37) rfl (feq hc9).2 (by decide) (by decide) k) ?_
            refine own_go (b := s₁.setTop (mkF m 45 #[.val (.int i)] [(.int i)])) (fun t k => XS.iloadN X0.here hx rfl (hb hby d1_44) rfl  k) ?_
            refine own_go (b := s₁.setTop (mkF m 46 #[.val (.int i)] [(.int (5 : Int32)), (.int i)])) (fun t k => XS.iconst X0.here hx rfl (hb hby d1_45) k) ?_
            by_cases hc11 : i = (5 : Int32)
            · refine own_go (b := s₁.setTop (mkF m 49 #[.val (.int i)] [])) (fun t k => XS.icmpNo X0.here hx rfl (hb hby d1_46) rfl (teq hc11).2 k) ?_
              obtain ⟨T12, X12, e12, st12⟩ := getS2 X0 hx hZ hown (host := "") (Or.inl (hw _ (List.mem_of_getElem? (i := 25) rfl))) Via.refl e0 Sd5 (g := (mkF m 49 #[.val (.int i)] [])) rfl (hb hby d1_49)
              refine own_go (b := T12.setTop (mkF m 52 #[.val (.int i)] [(.ref (ad 5))])) st12 ?_
              exact own_retA X12 hx hlk hrt rfl rfl (hb hby d1_52) (Nat.le_of_ble_eq_true rfl) (Nat.le_of_ble_eq_true rfl) (⟨by first | rfl | (simp only [own_pick, eq_false hc1, eq_false hc3, eq_false hc5, eq_false hc7, eq_false hc9, eq_true hc11, if_true, if_false]; done) | (simp only [own_pick, eq_false hc1, eq_false hc3, eq_false hc5, eq_false hc7, eq_false hc9, eq_true hc11, if_true, if_false]; rfl) | (simp [own_pick, eq_false hc1, eq_false hc3, eq_false hc5, eq_false hc7, eq_false hc9, eq_true hc11]; done) | (simp [own_pick, eq_false hc1, eq_false hc3, eq_false hc5, eq_false hc7, eq_false hc9, eq_true hc11]; rfl), N0, e12⟩)
            · refine own_go (b := s₁.setTop (mkF m 53 #[.val (.int i)] [])) (fun t k => XS.icmpYes X0.here hx rfl (pc0 := 46) (pc' := 53) rfl (hb hby d1_46) rfl (feq hc11).2 (by decide) (by decide) k) ?_
              refine own_go (b := s₁.setTop (mkF m 54 #[.val (.int i)] [(.int i)])) (fun t k => XS.iloadN X0.here hx rfl (hb hby d1_53) rfl  k) ?_
              refine own_go (b := s₁.setTop (mkF m 56 #[.val (.int i)] [(.int (6 : Int32)), (.int i)])) (fun t k => XS.bipush X0.here hx rfl (hb hby d1_54) k) ?_
              by_cases hc13 : i = (6 : Int32)
              · refine own_go (b := s₁.setTop (mkF m 59 #[.val (.int i)] [])) (fun t k => XS.icmpNo X0.here hx rfl (hb hby d1_56) rfl (teq hc13).2 k) ?_
                obtain ⟨T14, X14, e14, st14⟩ := getS2 X0 hx hZ hown (host := "") (Or.inl (hw _ (List.mem_of_getElem? (i := 28) rfl))) Via.refl e0 Sd6 (g := (mkF m 59 #[.val (.int i)] [])) rfl (hb hby d1_59)
                refine own_go (b := T14.setTop (mkF m 62 #[.val (.int i)] [(.ref (ad 6))])) st14 ?_
                exact own_retA X14 hx hlk hrt rfl rfl (hb hby d1_62) (Nat.le_of_ble_eq_true rfl) (Nat.le_of_ble_eq_true rfl) (⟨by first | rfl | (simp only [own_pick, eq_false hc1, eq_false hc3, eq_false hc5, eq_false hc7, eq_false hc9, eq_false hc11, eq_true hc13, if_true, if_false]; done) | (simp only [own_pick, eq_false hc1, eq_false hc3, eq_false hc5, eq_false hc7, eq_false hc9, eq_false hc11, eq_true hc13, if_true, if_false]; rfl) | (simp [own_pick, eq_false hc1, eq_false hc3, eq_false hc5, eq_false hc7, eq_false hc9, eq_false hc11, eq_true hc13]; done) | (simp [own_pick, eq_false hc1, eq_false hc3, eq_false hc5, eq_false hc7, eq_false hc9, eq_false hc11, eq_true hc13]; rfl), N0, e14⟩)
              · refine own_go (b := s₁.setTop (mkF m 63 #[.val (.int i)] [])) (fun t k => XS.icmpYes X0.here hx rfl (pc0 := 56) (pc' := 63) rfl (hb hby d1_56) rfl (feq hc13).2 (by decide) (by decide) k) ?_
                refine own_go (b := s₁.setTop (mkF m 64 #[.val (.int i)] [(.int i)])) (fun t k => XS.iloadN X0.here hx rfl (hb hby d1_63) rfl  k) ?_
                refine own_go (b := s₁.setTop (mkF m 66 #[.val (.int i)] [(.int (7 : Int32)), (.int i)])) (fun t k => XS.bipush X0.here hx rfl (hb hby d1_64) k) ?_
                by_cases hc15 : i = (7 : Int32)
                · refine own_go (b := s₁.setTop (mkF m 69 #[.val (.int i)] [])) (fun t k => XS.icmpNo X0.here hx rfl (hb hby d1_66) rfl (teq hc15).2 k) ?_
                  obtain ⟨T16, X16, e16, st16⟩ := getS2 X0 hx hZ hown (host := "") (Or.inl (hw _ (List.mem_of_getElem? (i := 31) rfl))) Via.refl e0 Sd7 (g := (mkF m 69 #[.val (.int i)] [])) rfl (hb hby d1_69)
                  refine own_go (b := T16.setTop (mkF m 72 #[.val (.int i)] [(.ref (ad 7))])) st16 ?_
                  exact own_retA X16 hx hlk hrt rfl rfl (hb hby d1_72) (Nat.le_of_ble_eq_true rfl) (Nat.le_of_ble_eq_true rfl) (⟨by first | rfl | (simp only [own_pick, eq_false hc1, eq_false hc3, eq_false hc5, eq_false hc7, eq_false hc9, eq_false hc11, eq_false hc13, eq_true hc15, if_true, if_false]; done) | (simp only [own_pick, eq_false hc1, eq_false hc3, eq_false hc5, eq_false hc7, eq_false hc9, eq_false hc11, eq_false hc13, eq_true hc15, if_true, if_false]; rfl) | (simp [own_pick, eq_false hc1, eq_false hc3, eq_false hc5, eq_false hc7, eq_false hc9, eq_false hc11, eq_false hc13, eq_true hc15]; done) | (simp [own_pick, eq_false hc1, eq_false hc3, eq_false hc5, eq_false hc7, eq_false hc9, eq_false hc11, eq_false hc13, eq_true hc15]; rfl), N0, e16⟩)
                · refine own_go (b := s₁.setTop (mkF m 73 #[.val (.int i)] [])) (fun t k => XS.icmpYes X0.here hx rfl (pc0 := 66) (pc' := 73) rfl (hb hby d1_66) rfl (feq hc15).2 (by decide) (by decide) k) ?_
                  refine own_go (b := s₁.setTop (mkF m 74 #[.val (.int i)] [(.int i)])) (fun t k => XS.iloadN X0.here hx rfl (hb hby d1_73) rfl  k) ?_
                  refine own_go (b := s₁.setTop (mkF m 76 #[.val (.int i)] [(.int (8 : Int32)), (.int i)])) (fun t k => XS.bipush X0.here hx rfl (hb hby d1_74) k) ?_
                  by_cases hc17 : i = (8 : Int32)
                  · refine own_go (b := s₁.setTop (mkF m 79 #[.val (.int i)] [])) (fun t k => XS.icmpNo X0.here hx rfl (hb hby d1_76) rfl (teq hc17).2 k) ?_
                    obtain ⟨T18, X18, e18, st18⟩ := getS2 X0 hx hZ hown (host := "") (Or.inl (hw _ (List.mem_of_getElem? (i := 36) rfl))) Via.refl e0 Sd8 (g := (mkF m 79 #[.val (.int i)] [])) rfl (hb hby d1_79)
                    refine own_go (b := T18.setTop (mkF m 82 #[.val (.int i)] [(.ref (ad 8))])) st18 ?_
                    exact own_retA X18 hx hlk hrt rfl rfl (hb hby d1_82) (Nat.le_of_ble_eq_true rfl) (Nat.le_of_ble_eq_true rfl) (⟨by first | rfl | (simp only [own_pick, eq_false hc1, eq_false hc3, eq_false hc5, eq_false hc7, eq_false hc9, eq_false hc11, eq_false hc13, eq_false hc15, eq_true hc17, if_true, if_false]; done) | (simp only [own_pick, eq_false hc1, eq_false hc3, eq_false hc5, eq_false hc7, eq_false hc9, eq_false hc11, eq_false hc13, eq_false hc15, eq_true hc17, if_true, if_false]; rfl) | (simp [own_pick, eq_false hc1, eq_false hc3, eq_false hc5, eq_false hc7, eq_false hc9, eq_false hc11, eq_false hc13, eq_false hc15, eq_true hc17]; done) | (simp [own_pick, eq_false hc1, eq_false hc3, eq_false hc5, eq_false hc7, eq_false hc9, eq_false hc11, eq_false hc13, eq_false hc15, eq_true hc17]; rfl), N0, e18⟩)
                  · refine own_go (b := s₁.setTop (mkF m 83 #[.val (.int i)] [])) (fun t k => XS.icmpYes X0.here hx rfl (pc0 := 76) (pc' := 83) rfl (hb hby d1_76) rfl (feq hc17).2 (by decide) (by decide) k) ?_
                    refine own_go (b := s₁.setTop (mkF m 84 #[.val (.int i)] [(.int i)])) (fun t k => XS.iloadN X0.here hx rfl (hb hby d1_83) rfl  k) ?_
                    refine own_go (b := s₁.setTop (mkF m 86 #[.val (.int i)] [(.int (9 : Int32)), (.int i)])) (fun t k => XS.bipush X0.here hx rfl (hb hby d1_84) k) ?_
                    by_cases hc19 : i = (9 : Int32)
                    · refine own_go (b := s₁.setTop (mkF m 89 #[.val (.int i)] [])) (fun t k => XS.icmpNo X0.here hx rfl (hb hby d1_86) rfl (teq hc19).2 k) ?_
                      obtain ⟨T20, X20, e20, st20⟩ := getS2 X0 hx hZ hown (host := "") (Or.inl (hw _ (List.mem_of_getElem? (i := 44) rfl))) Via.refl e0 Sd9 (g := (mkF m 89 #[.val (.int i)] [])) rfl (hb hby d1_89)
                      refine own_go (b := T20.setTop (mkF m 92 #[.val (.int i)] [(.ref (ad 9))])) st20 ?_
                      exact own_retA X20 hx hlk hrt rfl rfl (hb hby d1_92) (Nat.le_of_ble_eq_true rfl) (Nat.le_of_ble_eq_true rfl) (⟨by first | rfl | (simp only [own_pick, eq_false hc1, eq_false hc3, eq_false hc5, eq_false hc7, eq_false hc9, eq_false hc11, eq_false hc13, eq_false hc15, eq_false hc17, eq_true hc19, if_true, if_false]; done) | (simp only [own_pick, eq_false hc1, eq_false hc3, eq_false hc5, eq_false hc7, eq_false hc9, eq_false hc11, eq_false hc13, eq_false hc15, eq_false hc17, eq_true hc19, if_true, if_false]; rfl) | (simp [own_pick, eq_false hc1, eq_false hc3, eq_false hc5, eq_false hc7, eq_false hc9, eq_false hc11, eq_false hc13, eq_false hc15, eq_false hc17, eq_true hc19]; done) | (simp [own_pick, eq_false hc1, eq_false hc3, eq_false hc5, eq_false hc7, eq_false hc9, eq_false hc11, eq_false hc13, eq_false hc15, eq_false hc17, eq_true hc19]; rfl), N0, e20⟩)
                    · refine own_go (b := s₁.setTop (mkF m 93 #[.val (.int i)] [])) (fun t k => XS.icmpYes X0.here hx rfl (pc0 := 86) (pc' := 93) rfl (hb hby d1_86) rfl (feq hc19).2 (by decide) (by decide) k) ?_
                      refine own_go (b := s₁.setTop (mkF m 94 #[.val (.int i)] [(.int i)])) (fun t k => XS.iloadN X0.here hx rfl (hb hby d1_93) rfl  k) ?_
                      refine own_go (b := s₁.setTop (mkF m 96 #[.val (.int i)] [(.int (10 : Int32)), (.int i)])) (fun t k => XS.bipush X0.here hx rfl (hb hby d1_94) k) ?_
                      by_cases hc21 : i = (10 : Int32)
                      · refine own_go (b := s₁.setTop (mkF m 99 #[.val (.int i)] [])) (fun t k => XS.icmpNo X0.here hx rfl (hb hby d1_96) rfl (teq hc21).2 k) ?_
                        obtain ⟨T22, X22, e22, st22⟩ := getS2 X0 hx hZ hown (host := "") (Or.inl (hw _ (List.mem_of_getElem? (i := 34) rfl))) Via.refl e0 Sd10 (g := (mkF m 99 #[.val (.int i)] [])) rfl (hb hby d1_99)
                        refine own_go (b := T22.setTop (mkF m 102 #[.val (.int i)] [(.ref (ad 10))])) st22 ?_
                        exact own_retA X22 hx hlk hrt rfl rfl (hb hby d1_102) (Nat.le_of_ble_eq_true rfl) (Nat.le_of_ble_eq_true rfl) (⟨by first | rfl | (simp only [own_pick, eq_false hc1, eq_false hc3, eq_false hc5, eq_false hc7, eq_false hc9, eq_false hc11, eq_false hc13, eq_false hc15, eq_false hc17, eq_false hc19, eq_true hc21, if_true, if_false]; done) | (simp only [own_pick, eq_false hc1, eq_false hc3, eq_false hc5, eq_false hc7, eq_false hc9, eq_false hc11, eq_false hc13, eq_false hc15, eq_false hc17, eq_false hc19, eq_true hc21, if_true, if_false]; rfl) | (simp [own_pick, eq_false hc1, eq_false hc3, eq_false hc5, eq_false hc7, eq_false hc9, eq_false hc11, eq_false hc13, eq_false hc15, eq_false hc17, eq_false hc19, eq_true hc21]; done) | (simp [own_pick, eq_false hc1, eq_false hc3, eq_false hc5, eq_false hc7, eq_false hc9, eq_false hc11, eq_false hc13, eq_false hc15, eq_false hc17, eq_false hc19, eq_true hc21]; rfl), N0, e22⟩)
                      · refine own_go (b := s₁.setTop (mkF m 103 #[.val (.int i)] [])) (fun t k => XS.icmpYes X0.here hx rfl (pc0 := 96) (pc' := 103) rfl (hb hby d1_96) rfl (feq hc21).2 (by decide) (by decide) k) ?_
                        refine own_go (b := s₁.setTop (mkF m 104 #[.val (.int i)] [(.int i)])) (fun t k => XS.iloadN X0.here hx rfl (hb hby d1_103) rfl  k) ?_
                        refine own_go (b := s₁.setTop (mkF m 106 #[.val (.int i)] [(.int (11 : Int32)), (.int i)])) (fun t k => XS.bipush X0.here hx rfl (hb hby d1_104) k) ?_
                        by_cases hc23 : i = (11 : Int32)
                        · refine own_go (b := s₁.setTop (mkF m 109 #[.val (.int i)] [])) (fun t k => XS.icmpNo X0.here hx rfl (hb hby d1_106) rfl (teq hc23).2 k) ?_
                          obtain ⟨T24, X24, e24, st24⟩ := getS2 X0 hx hZ hown (host := "") (Or.inl (hw _ (List.mem_of_getElem? (i := 29) rfl))) Via.refl e0 Sd11 (g := (mkF m 109 #[.val (.int i)] [])) rfl (hb hby d1_109)
                          refine own_go (b := T24.setTop (mkF m 112 #[.val (.int i)] [(.ref (ad 11))])) st24 ?_
                          exact own_retA X24 hx hlk hrt rfl rfl (hb hby d1_112) (Nat.le_of_ble_eq_true rfl) (Nat.le_of_ble_eq_true rfl) (⟨by first | rfl | (simp only [own_pick, eq_false hc1, eq_false hc3, eq_false hc5, eq_false hc7, eq_false hc9, eq_false hc11, eq_false hc13, eq_false hc15, eq_false hc17, eq_false hc19, eq_false hc21, eq_true hc23, if_true, if_false]; done) | (simp only [own_pick, eq_false hc1, eq_false hc3, eq_false hc5, eq_false hc7, eq_false hc9, eq_false hc11, eq_false hc13, eq_false hc15, eq_false hc17, eq_false hc19, eq_false hc21, eq_true hc23, if_true, if_false]; rfl) | (simp [own_pick, eq_false hc1, eq_false hc3, eq_false hc5, eq_false hc7, eq_false hc9, eq_false hc11, eq_false hc13, eq_false hc15, eq_false hc17, eq_false hc19, eq_false hc21, eq_true hc23]; done) | (simp [own_pick, eq_false hc1, eq_false hc3, eq_false hc5, eq_false hc7, eq_false hc9, eq_false hc11, eq_false hc13, eq_false hc15, eq_false hc17, eq_false hc19, eq_false hc21, eq_true hc23]; rfl), N0, e24⟩)
                        · refine own_go (b := s₁.setTop (mkF m 113 #[.val (.int i)] [])) (fun t k => XS.icmpYes X0.here hx rfl (pc0 := 106) (pc' := 113) rfl (hb hby d1_106) rfl (feq hc23).2 (by decide) (by decide) k) ?_
                          refine own_go (b := s₁.setTop (mkF m 114 #[.val (.int i)] [(.int i)])) (fun t k => XS.iloadN X0.here hx rfl (hb hby d1_113) rfl  k) ?_
                          refine own_go (b := s₁.setTop (mkF m 116 #[.val (.int i)] [(.int (12 : Int32)), (.int i)])) (fun t k => XS.bipush X0.here hx rfl (hb hby d1_114) k) ?_
                          by_cases hc25 : i = (12 : Int32)
                          · refine own_go (b := s₁.setTop (mkF m 119 #[.val (.int i)] [])) (fun t k => XS.icmpNo X0.here hx rfl (hb hby d1_116) rfl (teq hc25).2 k) ?_
                            obtain ⟨T26, X26, e26, st26⟩ := getS2 X0 hx hZ hown (host := "") (Or.inl (hw _ (List.mem_of_getElem? (i := 56) rfl))) Via.refl e0 Sd12 (g := (mkF m 119 #[.val (.int i)] [])) rfl (hb hby d1_119)
                            refine own_go (b := T26.setTop (mkF m 122 #[.val (.int i)] [(.ref (ad 12))])) st26 ?_
                            exact own_retA X26 hx hlk hrt rfl rfl (hb hby d1_122) (Nat.le_of_ble_eq_true rfl) (Nat.le_of_ble_eq_true rfl) (⟨by first | rfl | (simp only [own_pick, eq_false hc1, eq_false hc3, eq_false hc5, eq_false hc7, eq_false hc9, eq_false hc11, eq_false hc13, eq_false hc15, eq_false hc17, eq_false hc19, eq_false hc21, eq_false hc23, eq_true hc25, if_true, if_false]; done) | (simp only [own_pick, eq_false hc1, eq_false hc3, eq_false hc5, eq_false hc7, eq_false hc9, eq_false hc11, eq_false hc13, eq_false hc15, eq_false hc17, eq_false hc19, eq_false hc21, eq_false hc23, eq_true hc25, if_true, if_false]; rfl) | (simp [own_pick, eq_false hc1, eq_false hc3, eq_false hc5, eq_false hc7, eq_false hc9, eq_false hc11, eq_false hc13, eq_false hc15, eq_false hc17, eq_false hc19, eq_false hc21, eq_false hc23, eq_true hc25]; done) | (simp [own_pick, eq_false hc1, eq_false hc3, eq_false hc5, eq_false hc7, eq_false hc9, eq_false hc11, eq_false hc13, eq_false hc15, eq_false hc17, eq_false hc19, eq_false hc21, eq_false hc23, eq_true hc25]; rfl), N0, e26⟩)
                          · refine own_go (b := s₁.setTop (mkF m 123 #[.val (.int i)] [])) (fun t k => XS.icmpYes X0.here hx rfl (pc0 := 116) (pc' := 123) rfl (hb hby d1_116) rfl (feq hc25).2 (by decide) (by decide) k) ?_
                            refine own_go (b := s₁.setTop (mkF m 124 #[.val (.int i)] [(.int i)])) (fun t k => XS.iloadN X0.here hx rfl (hb hby d1_123) rfl  k) ?_
                            refine own_go (b := s₁.setTop (mkF m 126 #[.val (.int i)] [(.int (13 : Int32)), (.int i)])) (fun t k => XS.bipush X0.here hx rfl (hb hby d1_124) k) ?_
                            by_cases hc27 : i = (13 : Int32)
                            · refine own_go (b := s₁.setTop (mkF m 129 #[.val (.int i)] [])) (fun t k => XS.icmpNo X0.here hx rfl (hb hby d1_126) rfl (teq hc27).2 k) ?_
                              obtain ⟨T28, X28, e28, st28⟩ := getS2 X0 hx hZ hown (host := "") (Or.inl (hw _ (List.mem_of_getElem? (i := 26) rfl))) Via.refl e0 Sd13 (g := (mkF m 129 #[.val (.int i)] [])) rfl (hb hby d1_129)
                              refine own_go (b := T28.setTop (mkF m 132 #[.val (.int i)] [(.ref (ad 13))])) st28 ?_
                              exact own_retA X28 hx hlk hrt rfl rfl (hb hby d1_132) (Nat.le_of_ble_eq_true rfl) (Nat.le_of_ble_eq_true rfl) (⟨by first | rfl | (simp only [own_pick, eq_false hc1, eq_false hc3, eq_false hc5, eq_false hc7, eq_false hc9, eq_false hc11, eq_false hc13, eq_false hc15, eq_false hc17, eq_false hc19, eq_false hc21, eq_false hc23, eq_false hc25, eq_true hc27, if_true, if_false]; done) | (simp only [own_pick, eq_false hc1, eq_false hc3, eq_false hc5, eq_false hc7, eq_false hc9, eq_false hc11, eq_false hc13, eq_false hc15, eq_false hc17, eq_false hc19, eq_false hc21, eq_false hc23, eq_false hc25, eq_true hc27, if_true, if_false]; rfl) | (simp [own_pick, eq_false hc1, eq_false hc3, eq_false hc5, eq_false hc7, eq_false hc9, eq_false hc11, eq_false hc13, eq_false hc15, eq_false hc17, eq_false hc19, eq_false hc21, eq_false hc23, eq_false hc25, eq_true hc27]; done) | (simp [own_pick, eq_false hc1, eq_false hc3, eq_false hc5, eq_false hc7, eq_false hc9, eq_false hc11, eq_false hc13, eq_false hc15, eq_false hc17, eq_false hc19, eq_false hc21, eq_false hc23, eq_false hc25, eq_true hc27]; rfl), N0, e28⟩)
                            · refine own_go (b := s₁.setTop (mkF m 133 #[.val (.int i)] [])) (fun t k => XS.icmpYes X0.here hx rfl (pc0 := 126) (pc' := 133) rfl (hb hby d1_126) rfl (feq hc27).2 (by decide) (by decide) k) ?_
                              refine own_go (b := s₁.setTop (mkF m 134 #[.val (.int i)] [(.int i)])) (fun t k => XS.iloadN X0.here hx rfl (hb hby d1_133) rfl  k) ?_
                              refine own_go (b := s₁.setTop (mkF m 136 #[.val (.int i)] [(.int (14 : Int32)), (.int i)])) (fun t k => XS.bipush X0.here hx rfl (hb hby d1_134) k) ?_
                              by_cases hc29 : i = (14 : Int32)
                              · refine own_go (b := s₁.setTop (mkF m 139 #[.val (.int i)] [])) (fun t k => XS.icmpNo X0.here hx rfl (hb hby d1_136) rfl (teq hc29).2 k) ?_
                                obtain ⟨T30, X30, e30, st30⟩ := getS2 X0 hx hZ hown (host := "") (Or.inl (hw _ (List.mem_of_getElem? (i := 40) rfl))) Via.refl e0 Sd14 (g := (mkF m 139 #[.val (.int i)] [])) rfl (hb hby d1_139)
                                refine own_go (b := T30.setTop (mkF m 142 #[.val (.int i)] [(.ref (ad 14))])) st30 ?_
                                exact own_retA X30 hx hlk hrt rfl rfl (hb hby d1_142) (Nat.le_of_ble_eq_true rfl) (Nat.le_of_ble_eq_true rfl) (⟨by first | rfl | (simp only [own_pick, eq_false hc1, eq_false hc3, eq_false hc5, eq_false hc7, eq_false hc9, eq_false hc11, eq_false hc13, eq_false hc15, eq_false hc17, eq_false hc19, eq_false hc21, eq_false hc23, eq_false hc25, eq_false hc27, eq_true hc29, if_true, if_false]; done) | (simp only [own_pick, eq_false hc1, eq_false hc3, eq_false hc5, eq_false hc7, eq_false hc9, eq_false hc11, eq_false hc13, eq_false hc15, eq_false hc17, eq_false hc19, eq_false hc21, eq_false hc23, eq_false hc25, eq_false hc27, eq_true hc29, if_true, if_false]; rfl) | (simp [own_pick, eq_false hc1, eq_false hc3, eq_false hc5, eq_false hc7, eq_false hc9, eq_false hc11, eq_false hc13, eq_false hc15, eq_false hc17, eq_false hc19, eq_false hc21, eq_false hc23, eq_false hc25, eq_false hc27, eq_true hc29]; done) | (simp [own_pick, eq_false hc1, eq_false hc3, eq_false hc5, eq_false hc7, eq_false hc9, eq_false hc11, eq_false hc13, eq_false hc15, eq_false hc17, eq_false hc19, eq_false hc21, eq_false hc23, eq_false hc25, eq_false hc27, eq_true hc29]; rfl), N0, e30⟩)
                              · refine own_go (b := s₁.setTop (mkF m 143 #[.val (.int i)] [])) (fun t k => XS.icmpYes X0.here hx rfl (pc0 := 136) (pc' := 143) rfl (hb hby d1_136) rfl (feq hc29).2 (by decide) (by decide) k) ?_
                                refine own_go (b := s₁.setTop (mkF m 144 #[.val (.int i)] [(.int i)])) (fun t k => XS.iloadN X0.here hx rfl (hb hby d1_143) rfl  k) ?_
                                refine own_go (b := s₁.setTop (mkF m 146 #[.val (.int i)] [(.int (15 : Int32)), (.int i)])) (fun t k => XS.bipush X0.here hx rfl (hb hby d1_144) k) ?_
                                by_cases hc31 : i = (15 : Int32)
                                · refine own_go (b := s₁.setTop (mkF m 149 #[.val (.int i)] [])) (fun t k => XS.icmpNo X0.here hx rfl (hb hby d1_146) rfl (teq hc31).2 k) ?_
                                  obtain ⟨T32, X32, e32, st32⟩ := getS2 X0 hx hZ hown (host := "") (Or.inl (hw _ (List.mem_of_getElem? (i := 42) rfl))) Via.refl e0 Sd15 (g := (mkF m 149 #[.val (.int i)] [])) rfl (hb hby d1_149)
                                  refine own_go (b := T32.setTop (mkF m 152 #[.val (.int i)] [(.ref (ad 15))])) st32 ?_
                                  exact own_retA X32 hx hlk hrt rfl rfl (hb hby d1_152) (Nat.le_of_ble_eq_true rfl) (Nat.le_of_ble_eq_true rfl) (⟨by first | rfl | (simp only [own_pick, eq_false hc1, eq_false hc3, eq_false hc5, eq_false hc7, eq_false hc9, eq_false hc11, eq_false hc13, eq_false hc15, eq_false hc17, eq_false hc19, eq_false hc21, eq_false hc23, eq_false hc25, eq_false hc27, eq_false hc29, eq_true hc31, if_true, if_false]; done) | (simp only [own_pick, eq_false hc1, eq_false hc3, eq_false hc5, eq_false hc7, eq_false hc9, eq_false hc11, eq_false hc13, eq_false hc15, eq_false hc17, eq_false hc19, eq_false hc21, eq_false hc23, eq_false hc25, eq_false hc27, eq_false hc29, eq_true hc31, if_true, if_false]; rfl) | (simp [own_pick, eq_false hc1, eq_false hc3, eq_false hc5, eq_false hc7, eq_false hc9, eq_false hc11, eq_false hc13, eq_false hc15, eq_false hc17, eq_false hc19, eq_false hc21, eq_false hc23, eq_false hc25, eq_false hc27, eq_false hc29, eq_true hc31]; done) | (simp [own_pick, eq_false hc1, eq_false hc3, eq_false hc5, eq_false hc7, eq_false hc9, eq_false hc11, eq_false hc13, eq_false hc15, eq_false hc17, eq_false hc19, eq_false hc21, eq_false hc23, eq_false hc25, eq_false hc27, eq_false hc29, eq_true hc31]; rfl), N0, e32⟩)
                                · refine own_go (b := s₁.setTop (mkF m 153 #[.val (.int i)] [])) (fun t k => XS.icmpYes X0.here hx rfl (pc0 := 146) (pc' := 153) rfl (hb hby d1_146) rfl (feq hc31).2 (by decide) (by decide) k) ?_
                                  refine own_go (b := s₁.setTop (mkF m 154 #[.val (.int i)] [(.int i)])) (fun t k => XS.iloadN X0.here hx rfl (hb hby d1_153) rfl  k) ?_
                                  refine own_go (b := s₁.setTop (mkF m 156 #[.val (.int i)] [(.int (16 : Int32)), (.int i)])) (fun t k => XS.bipush X0.here hx rfl (hb hby d1_154) k) ?_
                                  by_cases hc33 : i = (16 : Int32)
                                  · refine own_go (b := s₁.setTop (mkF m 159 #[.val (.int i)] [])) (fun t k => XS.icmpNo X0.here hx rfl (hb hby d1_156) rfl (teq hc33).2 k) ?_
                                    obtain ⟨T34, X34, e34, st34⟩ := getS2 X0 hx hZ hown (host := "") (Or.inl (hw _ (List.mem_of_getElem? (i := 48) rfl))) Via.refl e0 Sd16 (g := (mkF m 159 #[.val (.int i)] [])) rfl (hb hby d1_159)
                                    refine own_go (b := T34.setTop (mkF m 162 #[.val (.int i)] [(.ref (ad 16))])) st34 ?_
                                    exact own_retA X34 hx hlk hrt rfl rfl (hb hby d1_162) (Nat.le_of_ble_eq_true rfl) (Nat.le_of_ble_eq_true rfl) (⟨by first | rfl | (simp only [own_pick, eq_false hc1, eq_false hc3, eq_false hc5, eq_false hc7, eq_false hc9, eq_false hc11, eq_false hc13, eq_false hc15, eq_false hc17, eq_false hc19, eq_false hc21, eq_false hc23, eq_false hc25, eq_false hc27, eq_false hc29, eq_false hc31, eq_true hc33, if_true, if_false]; done) | (simp only [own_pick, eq_false hc1, eq_false hc3, eq_false hc5, eq_false hc7, eq_false hc9, eq_false hc11, eq_false hc13, eq_false hc15, eq_false hc17, eq_false hc19, eq_false hc21, eq_false hc23, eq_false hc25, eq_false hc27, eq_false hc29, eq_false hc31, eq_true hc33, if_true, if_false]; rfl) | (simp [own_pick, eq_false hc1, eq_false hc3, eq_false hc5, eq_false hc7, eq_false hc9, eq_false hc11, eq_false hc13, eq_false hc15, eq_false hc17, eq_false hc19, eq_false hc21, eq_false hc23, eq_false hc25, eq_false hc27, eq_false hc29, eq_false hc31, eq_true hc33]; done) | (simp [own_pick, eq_false hc1, eq_false hc3, eq_false hc5, eq_false hc7, eq_false hc9, eq_false hc11, eq_false hc13, eq_false hc15, eq_false hc17, eq_false hc19, eq_false hc21, eq_false hc23, eq_false hc25, eq_false hc27, eq_false hc29, eq_false hc31, eq_true hc33]; rfl), N0, e34⟩)
                                  · refine own_go (b := s₁.setTop (mkF m 163 #[.val (.int i)] [])) (fun t k => XS.icmpYes X0.here hx rfl (pc0 := 156) (pc' := 163) rfl (hb hby d1_156) rfl (feq hc33).2 (by decide) (by decide) k) ?_
                                    refine own_go (b := s₁.setTop (mkF m 164 #[.val (.int i)] [(.int i)])) (fun t k => XS.iloadN X0.here hx rfl (hb hby d1_163) rfl  k) ?_
                                    refine own_go (b := s₁.setTop (mkF m 166 #[.val (.int i)] [(.int (17 : Int32)), (.int i)])) (fun t k => XS.bipush X0.here hx rfl (hb hby d1_164) k) ?_
                                    by_cases hc35 : i = (17 : Int32)
                                    · refine own_go (b := s₁.setTop (mkF m 169 #[.val (.int i)] [])) (fun t k => XS.icmpNo X0.here hx rfl (hb hby d1_166) rfl (teq hc35).2 k) ?_
                                      obtain ⟨T36, X36, e36, st36⟩ := getS2 X0 hx hZ hown (host := "") (Or.inl (hw _ (List.mem_of_getElem? (i := 50) rfl))) Via.refl e0 Sd17 (g := (mkF m 169 #[.val (.int i)] [])) rfl (hb hby d1_169)
                                      refine own_go (b := T36.setTop (mkF m 172 #[.val (.int i)] [(.ref (ad 17))])) st36 ?_
                                      exact own_retA X36 hx hlk hrt rfl rfl (hb hby d1_172) (Nat.le_of_ble_eq_true rfl) (Nat.le_of_ble_eq_true rfl) (⟨by first | rfl | (simp only [own_pick, eq_false hc1, eq_false hc3, eq_false hc5, eq_false hc7, eq_false hc9, eq_false hc11, eq_false hc13, eq_false hc15, eq_false hc17, eq_false hc19, eq_false hc21, eq_false hc23, eq_false hc25, eq_false hc27, eq_false hc29, eq_false hc31, eq_false hc33, eq_true hc35, if_true, if_false]; done) | (simp only [own_pick, eq_false hc1, eq_false hc3, eq_false hc5, eq_false hc7, eq_false hc9, eq_false hc11, eq_false hc13, eq_false hc15, eq_false hc17, eq_false hc19, eq_false hc21, eq_false hc23, eq_false hc25, eq_false hc27, eq_false hc29, eq_false hc31, eq_false hc33, eq_true hc35, if_true, if_false]; rfl) | (simp [own_pick, eq_false hc1, eq_false hc3, eq_false hc5, eq_false hc7, eq_false hc9, eq_false hc11, eq_false hc13, eq_false hc15, eq_false hc17, eq_false hc19, eq_false hc21, eq_false hc23, eq_false hc25, eq_false hc27, eq_false hc29, eq_false hc31, eq_false hc33, eq_true hc35]; done) | (simp [own_pick, eq_false hc1, eq_false hc3, eq_false hc5, eq_false hc7, eq_false hc9, eq_false hc11, eq_false hc13, eq_false hc15, eq_false hc17, eq_false hc19, eq_false hc21, eq_false hc23, eq_false hc25, eq_false hc27, eq_false hc29, eq_false hc31, eq_false hc33, eq_true hc35]; rfl), N0, e36⟩)
                                    · refine own_go (b := s₁.setTop (mkF m 173 #[.val (.int i)] [])) (fun t k => XS.icmpYes X0.here hx rfl (pc0 := 166) (pc' := 173) rfl (hb hby d1_166) rfl (feq hc35).2 (by decide) (by decide) k) ?_
                                      refine own_go (b := s₁.setTop (mkF m 174 #[.val (.int i)] [(.int i)])) (fun t k => XS.iloadN X0.here hx rfl (hb hby d1_173) rfl  k) ?_
                                      refine own_go (b := s₁.setTop (mkF m 176 #[.val (.int i)] [(.int (18 : Int32)), (.int i)])) (fun t k => XS.bipush X0.here hx rfl (hb hby d1_174) k) ?_
                                      by_cases hc37 : i = (18 : Int32)
                                      · refine own_go (b := s₁.setTop (mkF m 179 #[.val (.int i)] [])) (fun t k => XS.icmpNo X0.here hx rfl (hb hby d1_176) rfl (teq hc37).2 k) ?_
                                        obtain ⟨T38, X38, e38, st38⟩ := getS2 X0 hx hZ hown (host := "") (Or.inl (hw _ (List.mem_of_getElem? (i := 58) rfl))) Via.refl e0 Sd18 (g := (mkF m 179 #[.val (.int i)] [])) rfl (hb hby d1_179)
                                        refine own_go (b := T38.setTop (mkF m 182 #[.val (.int i)] [(.ref (ad 18))])) st38 ?_
                                        exact own_retA X38 hx hlk hrt rfl rfl (hb hby d1_182) (Nat.le_of_ble_eq_true rfl) (Nat.le_of_ble_eq_true rfl) (⟨by first | rfl | (simp only [own_pick, eq_false hc1, eq_false hc3, eq_false hc5, eq_false hc7, eq_false hc9, eq_false hc11, eq_false hc13, eq_false hc15, eq_false hc17, eq_false hc19, eq_false hc21, eq_false hc23, eq_false hc25, eq_false hc27, eq_false hc29, eq_false hc31, eq_false hc33, eq_false hc35, eq_true hc37, if_true, if_false]; done) | (simp only [own_pick, eq_false hc1, eq_false hc3, eq_false hc5, eq_false hc7, eq_false hc9, eq_false hc11, eq_false hc13, eq_false hc15, eq_false hc17, eq_false hc19, eq_false hc21, eq_false hc23, eq_false hc25, eq_false hc27, eq_false hc29, eq_false hc31, eq_false hc33, eq_false hc35, eq_true hc37, if_true, if_false]; rfl) | (simp [own_pick, eq_false hc1, eq_false hc3, eq_false hc5, eq_false hc7, eq_false hc9, eq_false hc11, eq_false hc13, eq_false hc15, eq_false hc17, eq_false hc19, eq_false hc21, eq_false hc23, eq_false hc25, eq_false hc27, eq_false hc29, eq_false hc31, eq_false hc33, eq_false hc35, eq_true hc37]; done) | (simp [own_pick, eq_false hc1, eq_false hc3, eq_false hc5, eq_false hc7, eq_false hc9, eq_false hc11, eq_false hc13, eq_false hc15, eq_false hc17, eq_false hc19, eq_false hc21, eq_false hc23, eq_false hc25, eq_false hc27, eq_false hc29, eq_false hc31, eq_false hc33, eq_false hc35, eq_true hc37]; rfl), N0, e38⟩)
                                      · refine own_go (b := s₁.setTop (mkF m 183 #[.val (.int i)] [])) (fun t k => XS.icmpYes X0.here hx rfl (pc0 := 176) (pc' := 183) rfl (hb hby d1_176) rfl (feq hc37).2 (by decide) (by decide) k) ?_
                                        refine own_go (b := s₁.setTop (mkF m 184 #[.val (.int i)] [(.int i)])) (fun t k => XS.iloadN X0.here hx rfl (hb hby d1_183) rfl  k) ?_
                                        refine own_go (b := s₁.setTop (mkF m 186 #[.val (.int i)] [(.int (19 : Int32)), (.int i)])) (fun t k => XS.bipush X0.here hx rfl (hb hby d1_184) k) ?_
                                        by_cases hc39 : i = (19 : Int32)
                                        · refine own_go (b := s₁.setTop (mkF m 189 #[.val (.int i)] [])) (fun t k => XS.icmpNo X0.here hx rfl (hb hby d1_186) rfl (teq hc39).2 k) ?_
                                          obtain ⟨T40, X40, e40, st40⟩ := getS2 X0 hx hZ hown (host := "") (Or.inl (hw _ (List.mem_of_getElem? (i := 46) rfl))) Via.refl e0 Sd19 (g := (mkF m 189 #[.val (.int i)] [])) rfl (hb hby d1_189)
                                          refine own_go (b := T40.setTop (mkF m 192 #[.val (.int i)] [(.ref (ad 19))])) st40 ?_
                                          exact own_retA X40 hx hlk hrt rfl rfl (hb hby d1_192) (Nat.le_of_ble_eq_true rfl) (Nat.le_of_ble_eq_true rfl) (⟨by first | rfl | (simp only [own_pick, eq_false hc1, eq_false hc3, eq_false hc5, eq_false hc7, eq_false hc9, eq_false hc11, eq_false hc13, eq_false hc15, eq_false hc17, eq_false hc19, eq_false hc21, eq_false hc23, eq_false hc25, eq_false hc27, eq_false hc29, eq_false hc31, eq_false hc33, eq_false hc35, eq_false hc37, eq_true hc39, if_true, if_false]; done) | (simp only [own_pick, eq_false hc1, eq_false hc3, eq_false hc5, eq_false hc7, eq_false hc9, eq_false hc11, eq_false hc13, eq_false hc15, eq_false hc17, eq_false hc19, eq_false hc21, eq_false hc23, eq_false hc25, eq_false hc27, eq_false hc29, eq_false hc31, eq_false hc33, eq_false hc35, eq_false hc37, eq_true hc39, if_true, if_false]; rfl) | (simp [own_pick, eq_false hc1, eq_false hc3, eq_false hc5, eq_false hc7, eq_false hc9, eq_false hc11, eq_false hc13, eq_false hc15, eq_false hc17, eq_false hc19, eq_false hc21, eq_false hc23, eq_false hc25, eq_false hc27, eq_false hc29, eq_false hc31, eq_false hc33, eq_false hc35, eq_false hc37, eq_true hc39]; done) | (simp [own_pick, eq_false hc1, eq_false hc3, eq_false hc5, eq_false hc7, eq_false hc9, eq_false hc11, eq_false hc13, eq_false hc15, eq_false hc17, eq_false hc19, eq_false hc21, eq_false hc23, eq_false hc25, eq_false hc27, eq_false hc29, eq_false hc31, eq_false hc33, eq_false hc35, eq_false hc37, eq_true hc39]; rfl), N0, e40⟩)
                                        · refine own_go (b := s₁.setTop (mkF m 193 #[.val (.int i)] [])) (fun t k => XS.icmpYes X0.here hx rfl (pc0 := 186) (pc' := 193) rfl (hb hby d1_186) rfl (feq hc39).2 (by decide) (by decide) k) ?_
                                          obtain ⟨T41, X41, e41, st41⟩ := getS2 X0 hx hZ hown (host := "") (Or.inl (hw _ (List.mem_of_getElem? (i := 52) rfl))) Via.refl e0 Sd20 (g := (mkF m 193 #[.val (.int i)] [])) rfl (hb hby d1_193)
                                          refine own_go (b := T41.setTop (mkF m 196 #[.val (.int i)] [(.ref (ad 20))])) st41 ?_
                                          exact own_retA X41 hx hlk hrt rfl rfl (hb hby d1_196) (Nat.le_of_ble_eq_true rfl) (Nat.le_of_ble_eq_true rfl) (⟨by first | rfl | (simp only [own_pick, eq_false hc1, eq_false hc3, eq_false hc5, eq_false hc7, eq_false hc9, eq_false hc11, eq_false hc13, eq_false hc15, eq_false hc17, eq_false hc19, eq_false hc21, eq_false hc23, eq_false hc25, eq_false hc27, eq_false hc29, eq_false hc31, eq_false hc33, eq_false hc35, eq_false hc37, eq_false hc39, if_true, if_false]; done) | (simp only [own_pick, eq_false hc1, eq_false hc3, eq_false hc5, eq_false hc7, eq_false hc9, eq_false hc11, eq_false hc13, eq_false hc15, eq_false hc17, eq_false hc19, eq_false hc21, eq_false hc23, eq_false hc25, eq_false hc27, eq_false hc29, eq_false hc31, eq_false hc33, eq_false hc35, eq_false hc37, eq_false hc39, if_true, if_false]; rfl) | (simp [own_pick, eq_false hc1, eq_false hc3, eq_false hc5, eq_false hc7, eq_false hc9, eq_false hc11, eq_false hc13, eq_false hc15, eq_false hc17, eq_false hc19, eq_false hc21, eq_false hc23, eq_false hc25, eq_false hc27, eq_false hc29, eq_false hc31, eq_false hc33, eq_false hc35, eq_false hc37, eq_false hc39]; done) | (simp [own_pick, eq_false hc1, eq_false hc3, eq_false hc5, eq_false hc7, eq_false hc9, eq_false hc11, eq_false hc13, eq_false hc15, eq_false hc17, eq_false hc19, eq_false hc21, eq_false hc23, eq_false hc25, eq_false hc27, eq_false hc29, eq_false hc31, eq_false hc33, eq_false hc35, eq_false hc37, eq_false hc39]; rfl), N0, e41⟩)
theorem d2_0 : decode method_3_code 0 = .ok (.iload_n 0, 1) := by decide +kernel
theorem d2_1 : decode method_3_code 1 = .ok (.iconst 2, 1) := by decide +kernel
theorem d2_2 : decode method_3_code 2 = .ok (.if_icmp .ne 5, 3) := by decide +kernel
theorem d2_5 : decode method_3_code 5 = .ok (.iconst 1, 1) := by decide +kernel
theorem d2_6 : decode method_3_code 6 = .ok (.ireturn, 1) := by decide +kernel
theorem d2_7 : decode method_3_code 7 = .ok (.iload_n 0, 1) := by decide +kernel
theorem d2_8 : decode method_3_code 8 = .ok (.iconst 3, 1) := by decide +kernel
theorem d2_9 : decode method_3_code 9 = .ok (.if_icmp .ne 5, 3) := by decide +kernel
theorem d2_12 : decode method_3_code 12 = .ok (.iconst 1, 1) := by decide +kernel
theorem d2_13 : decode method_3_code 13 = .ok (.ireturn, 1) := by decide +kernel
theorem d2_14 : decode method_3_code 14 = .ok (.iload_n 0, 1) := by decide +kernel
theorem d2_15 : decode method_3_code 15 = .ok (.iconst 5, 1) := by decide +kernel
theorem d2_16 : decode method_3_code 16 = .ok (.if_icmp .ne 5, 3) := by decide +kernel
theorem d2_19 : decode method_3_code 19 = .ok (.iconst 1, 1) := by decide +kernel
theorem d2_20 : decode method_3_code 20 = .ok (.ireturn, 1) := by decide +kernel
theorem d2_21 : decode method_3_code 21 = .ok (.iload_n 0, 1) := by decide +kernel
theorem d2_22 : decode method_3_code 22 = .ok (.bipush 6, 2) := by decide +kernel
theorem d2_24 : decode method_3_code 24 = .ok (.if_icmp .ne 5, 3) := by decide +kernel
theorem d2_27 : decode method_3_code 27 = .ok (.iconst 1, 1) := by decide +kernel
theorem d2_28 : decode method_3_code 28 = .ok (.ireturn, 1) := by decide +kernel
theorem d2_29 : decode method_3_code 29 = .ok (.iconst 0, 1) := by decide +kernel
theorem d2_30 : decode method_3_code 30 = .ok (.ireturn, 1) := by decide +kernel
theorem ef_2 (m : MethodId) (i : Int32) : entryFrame m #[(.int i)] 1 = mkF m 0 #[.val (.int i)] [] := by first | (simp [entryFrame, mkF, argsToLocals, Value.category]; done) | rfl
def Q2 (Z : State) (i : Int32) (h0 : Heap) (n0 : Nat) (v : Option Value) (h : Heap) (L : List Loc) : Prop := v = some (.int (own_exp i)) ∧ Fr n0 L ∧ h = h0
set_option maxRecDepth 65536 in
set_option maxHeartbeats 40000000 in
theorem rm2 (l : Launch) (Z : State) (a0 : Array Value) (hw : ∀ d ∈ tables_1, d.before a0 Z = true) (ws : List Jvm.Cond) (i : Int32) (h0 : Heap) (n0 : Nat) (Z0 : n0 ≤ h0.size) :
    MetFree l (⟨"com/example/axiomloom/axiomloom/owl/ElementIsPropertyPinLaw", "expectedFor", "(I)Z"⟩ : MethodName) (head1 (Jvm.Cond.code (⟨"com/example/axiomloom/axiomloom/owl/ElementIsPropertyPinLaw", "expectedFor", "(I)Z"⟩ : MethodName) method_3_code 1 (some .boolean) :: ws) ({ frames := 0, cells := 0, slots := 0, locals := 0 } : Room)) (fun a U => a = #[(.int i)] ∧ Z.Warmed39 U.vm ∧ U.heap = h0) (fun _ _ _ _ _ => True) (fun _ U o U' => ∃ v L, o = .returned v ∧ Q2 Z i h0 n0 v U'.heap L ∧ FrameEnd U o U' L ({ frames := 0, cells := 0, slots := 0, locals := 0 } : Room).cells ({ frames := 0, cells := 0, slots := 0, locals := 0 } : Room).slots) := by
  refine MetFree.of_bodySF (plainFor_of_name pn_0) hisR ?_
  intro p e s m args below meth c s₁ Bd hml0 hP hK
  obtain ⟨rfl, hZ, hh⟩ := hP
  have hx := Bd.exec
  have hby := Bd.bytes
  have hml : c.maxLocals = 1 := hml0
  have hown : s.vm.findClass "com/example/axiomloom/axiomloom/owl/ElementIsPropertyPinLaw" = some m.cls := findClass_of_methodNamed Bd.named
  have hnm := (name_of_methodNamed Bd.named Bd.method).1
  have hlk : meth.locks = false := Bd.notSynchronized
  have hrt := Bd.returns
  have X0 : Stand p l e ({ frames := 0, cells := 0, slots := 0, locals := 0 } : Room) s m #[(.int i)] below meth c s₁ [] 0 0 := Stand.of_body Bd
  have e0 : s₁.heap = h0 := by rw [← hh, Bd.state]; rfl
  have N0 := Fr.nil n0
  show own_Endz p.tables e below (own_EndQ s ({ frames := 0, cells := 0, slots := 0, locals := 0 } : Room).cells ({ frames := 0, cells := 0, slots := 0, locals := 0 } : Room).slots (Q2 Z i h0 n0)) (s₁.setTop (entryFrame m #[(.int i)] 1))
  refine own_cast (ef_2 m i) ?_
  refine own_go (b := s₁.setTop (mkF m 1 #[.val (.int i)] [(.int i)])) (fun t k => XS.iloadN X0.here hx rfl (hb hby d2_0) rfl  k) ?_
  refine own_go (b := s₁.setTop (mkF m 2 #[.val (.int i)] [(.int (2 : Int32)), (.int i)])) (fun t k => XS.iconst X0.here hx rfl (hb hby d2_1) k) ?_
  by_cases hc1 : i = (2 : Int32)
  · refine own_go (b := s₁.setTop (mkF m 5 #[.val (.int i)] [])) (fun t k => XS.icmpNo X0.here hx rfl (hb hby d2_2) rfl (teq hc1).2 k) ?_
    refine own_go (b := s₁.setTop (mkF m 6 #[.val (.int i)] [(.int (1 : Int32))])) (fun t k => XS.iconst X0.here hx rfl (hb hby d2_5) k) ?_
    exact own_retN X0 hx hlk (t := .boolean) hrt (by simp) (hb hby d2_6) (Nat.le_of_ble_eq_true rfl) (Nat.le_of_ble_eq_true rfl) (⟨by first | rfl | (simp only [own_exp, nar, eq_true hc1, if_true, if_false]; done) | (simp only [own_exp, nar, eq_true hc1, if_true, if_false]; rfl) | (simp [own_exp, nar, eq_true hc1]; done) | (simp [own_exp, nar, eq_true hc1]; rfl), N0, e0⟩)
  · refine own_go (b := s₁.setTop (mkF m 7 #[.val (.int i)] [])) (fun t k => XS.icmpYes X0.here hx rfl (pc0 := 2) (pc' := 7) rfl (hb hby d2_2) rfl (feq hc1).2 (by decide) (by decide) k) ?_
    refine own_go (b := s₁.setTop (mkF m 8 #[.val (.int i)] [(.int i)])) (fun t k => XS.iloadN X0.here hx rfl (hb hby d2_7) rfl  k) ?_
    refine own_go (b := s₁.setTop (mkF m 9 #[.val (.int i)] [(.int (3 : Int32)), (.int i)])) (fun t k => XS.iconst X0.here hx rfl (hb hby d2_8) k) ?_
    by_cases hc2 : i = (3 : Int32)
    · refine own_go (b := s₁.setTop (mkF m 12 #[.val (.int i)] [])) (fun t k => XS.icmpNo X0.here hx rfl (hb hby d2_9) rfl (teq hc2).2 k) ?_
      refine own_go (b := s₁.setTop (mkF m 13 #[.val (.int i)] [(.int (1 : Int32))])) (fun t k => XS.iconst X0.here hx rfl (hb hby d2_12) k) ?_
      exact own_retN X0 hx hlk (t := .boolean) hrt (by simp) (hb hby d2_13) (Nat.le_of_ble_eq_true rfl) (Nat.le_of_ble_eq_true rfl) (⟨by first | rfl | (simp only [own_exp, nar, eq_false hc1, eq_true hc2, if_true, if_false]; done) | (simp only [own_exp, nar, eq_false hc1, eq_true hc2, if_true, if_false]; rfl) | (simp [own_exp, nar, eq_false hc1, eq_true hc2]; done) | (simp [own_exp, nar, eq_false hc1, eq_true hc2]; rfl), N0, e0⟩)
    · refine own_go (b := s₁.setTop (mkF m 14 #[.val (.int i)] [])) (fun t k => XS.icmpYes X0.here hx rfl (pc0 := 9) (pc' := 14) rfl (hb hby d2_9) rfl (feq hc2).2 (by decide) (by decide) k) ?_
      refine own_go (b := s₁.setTop (mkF m 15 #[.val (.int i)] [(.int i)])) (fun t k => XS.iloadN X0.here hx rfl (hb hby d2_14) rfl  k) ?_
      refine own_go (b := s₁.setTop (mkF m 16 #[.val (.int i)] [(.int (5 : Int32)), (.int i)])) (fun t k => XS.iconst X0.here hx rfl (hb hby d2_15) k) ?_
      by_cases hc3 : i = (5 : Int32)
      · refine own_go (b := s₁.setTop (mkF m 19 #[.val (.int i)] [])) (fun t k => XS.icmpNo X0.here hx rfl (hb hby d2_16) rfl (teq hc3).2 k) ?_
        refine own_go (b := s₁.setTop (mkF m 20 #[.val (.int i)] [(.int (1 : Int32))])) (fun t k => XS.iconst X0.here hx rfl (hb hby d2_19) k) ?_
        exact own_retN X0 hx hlk (t := .boolean) hrt (by simp) (hb hby d2_20) (Nat.le_of_ble_eq_true rfl) (Nat.le_of_ble_eq_true rfl) (⟨by first | rfl | (simp only [own_exp, nar, eq_false hc1, eq_false hc2, eq_true hc3, if_true, if_false]; done) | (simp only [own_exp, nar, eq_false hc1, eq_false hc2, eq_true hc3, if_true, if_false]; rfl) | (simp [own_exp, nar, eq_false hc1, eq_false hc2, eq_true hc3]; done) | (simp [own_exp, nar, eq_false hc1, eq_false hc2, eq_true hc3]; rfl), N0, e0⟩)
      · refine own_go (b := s₁.setTop (mkF m 21 #[.val (.int i)] [])) (fun t k => XS.icmpYes X0.here hx rfl (pc0 := 16) (pc' := 21) rfl (hb hby d2_16) rfl (feq hc3).2 (by decide) (by decide) k) ?_
        refine own_go (b := s₁.setTop (mkF m 22 #[.val (.int i)] [(.int i)])) (fun t k => XS.iloadN X0.here hx rfl (hb hby d2_21) rfl  k) ?_
        refine own_go (b := s₁.setTop (mkF m 24 #[.val (.int i)] [(.int (6 : Int32)), (.int i)])) (fun t k => XS.bipush X0.here hx rfl (hb hby d2_22) k) ?_
        by_cases hc4 : i = (6 : Int32)
        · refine own_go (b := s₁.setTop (mkF m 27 #[.val (.int i)] [])) (fun t k => XS.icmpNo X0.here hx rfl (hb hby d2_24) rfl (teq hc4).2 k) ?_
          refine own_go (b := s₁.setTop (mkF m 28 #[.val (.int i)] [(.int (1 : Int32))])) (fun t k => XS.iconst X0.here hx rfl (hb hby d2_27) k) ?_
          exact own_retN X0 hx hlk (t := .boolean) hrt (by simp) (hb hby d2_28) (Nat.le_of_ble_eq_true rfl) (Nat.le_of_ble_eq_true rfl) (⟨by first | rfl | (simp only [own_exp, nar, eq_false hc1, eq_false hc2, eq_false hc3, eq_true hc4, if_true, if_false]; done) | (simp only [own_exp, nar, eq_false hc1, eq_false hc2, eq_false hc3, eq_true hc4, if_true, if_false]; rfl) | (simp [own_exp, nar, eq_false hc1, eq_false hc2, eq_false hc3, eq_true hc4]; done) | (simp [own_exp, nar, eq_false hc1, eq_false hc2, eq_false hc3, eq_true hc4]; rfl), N0, e0⟩)
        · refine own_go (b := s₁.setTop (mkF m 29 #[.val (.int i)] [])) (fun t k => XS.icmpYes X0.here hx rfl (pc0 := 24) (pc' := 29) rfl (hb hby d2_24) rfl (feq hc4).2 (by decide) (by decide) k) ?_
          refine own_go (b := s₁.setTop (mkF m 30 #[.val (.int i)] [(.int (0 : Int32))])) (fun t k => XS.iconst X0.here hx rfl (hb hby d2_29) k) ?_
          exact own_retN X0 hx hlk (t := .boolean) hrt (by simp) (hb hby d2_30) (Nat.le_of_ble_eq_true rfl) (Nat.le_of_ble_eq_true rfl) (⟨by first | rfl | (simp only [own_exp, nar, eq_false hc1, eq_false hc2, eq_false hc3, eq_false hc4, if_true, if_false]; done) | (simp only [own_exp, nar, eq_false hc1, eq_false hc2, eq_false hc3, eq_false hc4, if_true, if_false]; rfl) | (simp [own_exp, nar, eq_false hc1, eq_false hc2, eq_false hc3, eq_false hc4]; done) | (simp [own_exp, nar, eq_false hc1, eq_false hc2, eq_false hc3, eq_false hc4]; rfl), N0, e0⟩)
theorem d3_0 : decode prog_81_method_5_code 0 = .ok (.aload_n 0, 1) := by decide +kernel
theorem d3_1 : decode prog_81_method_5_code 1 = .ok (.getstatic 10, 3) := by decide +kernel
theorem d3_4 : decode prog_81_method_5_code 4 = .ok (.if_acmp .eq 24, 3) := by decide +kernel
theorem d3_7 : decode prog_81_method_5_code 7 = .ok (.aload_n 0, 1) := by decide +kernel
theorem d3_8 : decode prog_81_method_5_code 8 = .ok (.getstatic 13, 3) := by decide +kernel
theorem d3_11 : decode prog_81_method_5_code 11 = .ok (.if_acmp .eq 17, 3) := by decide +kernel
theorem d3_14 : decode prog_81_method_5_code 14 = .ok (.aload_n 0, 1) := by decide +kernel
theorem d3_15 : decode prog_81_method_5_code 15 = .ok (.getstatic 19, 3) := by decide +kernel
theorem d3_18 : decode prog_81_method_5_code 18 = .ok (.if_acmp .eq 10, 3) := by decide +kernel
theorem d3_21 : decode prog_81_method_5_code 21 = .ok (.aload_n 0, 1) := by decide +kernel
theorem d3_22 : decode prog_81_method_5_code 22 = .ok (.getstatic 22, 3) := by decide +kernel
theorem d3_25 : decode prog_81_method_5_code 25 = .ok (.if_acmp .ne 7, 3) := by decide +kernel
theorem d3_28 : decode prog_81_method_5_code 28 = .ok (.iconst 1, 1) := by decide +kernel
theorem d3_29 : decode prog_81_method_5_code 29 = .ok (.goto 4, 3) := by decide +kernel
theorem d3_32 : decode prog_81_method_5_code 32 = .ok (.iconst 0, 1) := by decide +kernel
theorem d3_33 : decode prog_81_method_5_code 33 = .ok (.ireturn, 1) := by decide +kernel
theorem pn_1 : plainName "com/example/axiomloom/axiomloom/owl/Construct$Element" = true := by first | (simp [plainName, overriddenIn]; done) | decide +kernel
theorem ef_3 (m : MethodId) (r : Addr) : entryFrame m #[(.ref r)] 1 = mkF m 0 #[.val (.ref r)] [] := by first | (simp [entryFrame, mkF, argsToLocals, Value.category]; done) | rfl
def Q3 (Z : State) (r : Addr) (ad : Nat → Addr) (h0 : Heap) (n0 : Nat) (v : Option Value) (h : Heap) (L : List Loc) : Prop := v = some (.int (own_isP ad r)) ∧ Fr n0 L ∧ h = h0
set_option maxRecDepth 65536 in
set_option maxHeartbeats 40000000 in
theorem rm3 (l : Launch) (Z : State) (a0 : Array Value) (hw : ∀ d ∈ tables_1, d.before a0 Z = true) (ws : List Jvm.Cond) (r : Addr) (ad : Nat → Addr) (h0 : Heap) (n0 : Nat) (Z0 : n0 ≤ h0.size) (Sd0 : Sta Z h0 "com/example/axiomloom/axiomloom/owl/Construct$Element" "CLASS_EXPRESSION" "Lcom/example/axiomloom/axiomloom/owl/Construct$Element;" (.ref (ad 0))) (Sd1 : Sta Z h0 "com/example/axiomloom/axiomloom/owl/Construct$Element" "CLASS" "Lcom/example/axiomloom/axiomloom/owl/Construct$Element;" (.ref (ad 1))) (Sd2 : Sta Z h0 "com/example/axiomloom/axiomloom/owl/Construct$Element" "OBJECT_PROPERTY_EXPRESSION" "Lcom/example/axiomloom/axiomloom/owl/Construct$Element;" (.ref (ad 2))) (Sd3 : Sta Z h0 "com/example/axiomloom/axiomloom/owl/Construct$Element" "OBJECT_PROPERTY" "Lcom/example/axiomloom/axiomloom/owl/Construct$Element;" (.ref (ad 3))) (Sd4 : Sta Z h0 "com/example/axiomloom/axiomloom/owl/Construct$Element" "SUB_OBJECT_PROPERTY" "Lcom/example/axiomloom/axiomloom/owl/Construct$Element;" (.ref (ad 4))) (Sd5 : Sta Z h0 "com/example/axiomloom/axiomloom/owl/Construct$Element" "DATA_PROPERTY" "Lcom/example/axiomloom/axiomloom/owl/Construct$Element;" (.ref (ad 5))) (Sd6 : Sta Z h0 "com/example/axiomloom/axiomloom/owl/Construct$Element" "DATA_PROPERTIES_AND_RANGE" "Lcom/example/axiomloom/axiomloom/owl/Construct$Element;" (.ref (ad 6))) (Sd7 : Sta Z h0 "com/example/axiomloom/axiomloom/owl/Construct$Element" "DATA_RANGE" "Lcom/example/axiomloom/axiomloom/owl/Construct$Element;" (.ref (ad 7))) (Sd8 : Sta Z h0 "com/example/axiomloom/axiomloom/owl/Construct$Element" "DATATYPE" "Lcom/example/axiomloom/axiomloom/owl/Construct$Element;" (.ref (ad 8))) (Sd9 : Sta Z h0 "com/example/axiomloom/axiomloom/owl/Construct$Element" "INDIVIDUAL" "Lcom/example/axiomloom/axiomloom/owl/Construct$Element;" (.ref (ad 9))) (Sd10 : Sta Z h0 "com/example/axiomloom/axiomloom/owl/Construct$Element" "NAMED_INDIVIDUAL" "Lcom/example/axiomloom/axiomloom/owl/Construct$Element;" (.ref (ad 10))) (Sd11 : Sta Z h0 "com/example/axiomloom/axiomloom/owl/Construct$Element" "LITERAL" "Lcom/example/axiomloom/axiomloom/owl/Construct$Element;" (.ref (ad 11))) (Sd12 : Sta Z h0 "com/example/axiomloom/axiomloom/owl/Construct$Element" "NON_NEGATIVE_INTEGER" "Lcom/example/axiomloom/axiomloom/owl/Construct$Element;" (.ref (ad 12))) (Sd13 : Sta Z h0 "com/example/axiomloom/axiomloom/owl/Construct$Element" "OBJECT_PROPERTY_LIST" "Lcom/example/axiomloom/axiomloom/owl/Construct$Element;" (.ref (ad 13))) (Sd14 : Sta Z h0 "com/example/axiomloom/axiomloom/owl/Construct$Element" "DATA_PROPERTY_LIST" "Lcom/example/axiomloom/axiomloom/owl/Construct$Element;" (.ref (ad 14))) (Sd15 : Sta Z h0 "com/example/axiomloom/axiomloom/owl/Construct$Element" "FACET_RESTRICTION" "Lcom/example/axiomloom/axiomloom/owl/Construct$Element;" (.ref (ad 15))) (Sd16 : Sta Z h0 "com/example/axiomloom/axiomloom/owl/Construct$Element" "ANNOTATION_PROPERTY" "Lcom/example/axiomloom/axiomloom/owl/Construct$Element;" (.ref (ad 16))) (Sd17 : Sta Z h0 "com/example/axiomloom/axiomloom/owl/Construct$Element" "ANNOTATION_SUBJECT" "Lcom/example/axiomloom/axiomloom/owl/Construct$Element;" (.ref (ad 17))) (Sd18 : Sta Z h0 "com/example/axiomloom/axiomloom/owl/Construct$Element" "ANNOTATION_VALUE" "Lcom/example/axiomloom/axiomloom/owl/Construct$Element;" (.ref (ad 18))) (Sd19 : Sta Z h0 "com/example/axiomloom/axiomloom/owl/Construct$Element" "IRI" "Lcom/example/axiomloom/axiomloom/owl/Construct$Element;" (.ref (ad 19))) (Sd20 : Sta Z h0 "com/example/axiomloom/axiomloom/owl/Construct$Element" "ENTITY" "Lcom/example/axiomloom/axiomloom/owl/Construct$Element;" (.ref (ad 20))) :
    MetFree l (⟨"com/example/axiomloom/axiomloom/owl/Construct$Element", "isProperty", "()Z"⟩ : MethodName) (head1 (Jvm.Cond.code (⟨"com/example/axiomloom/axiomloom/owl/Construct$Element", "isProperty", "()Z"⟩ : MethodName) prog_81_method_5_code 1 (some .boolean) :: ws) ({ frames := 0, cells := 0, slots := 0, locals := 0 } : Room)) (fun a U => a = #[(.ref r)] ∧ Z.Warmed39 U.vm ∧ U.heap = h0) (fun _ _ _ _ _ => True) (fun _ U o U' => ∃ v L, o = .returned v ∧ Q3 Z r ad h0 n0 v U'.heap L ∧ FrameEnd U o U' L ({ frames := 0, cells := 0, slots := 0, locals := 0 } : Room).cells ({ frames := 0, cells := 0, slots := 0, locals := 0 } : Room).slots) := by
  refine MetFree.of_bodySF (plainFor_of_name pn_1) hisR ?_
  intro p e s m args below meth c s₁ Bd hml0 hP hK
  obtain ⟨rfl, hZ, hh⟩ := hP
  have hx := Bd.exec
  have hby := Bd.bytes
  have hml : c.maxLocals = 1 := hml0
  have hown : s.vm.findClass "com/example/axiomloom/axiomloom/owl/Construct$Element" = some m.cls := findClass_of_methodNamed Bd.named
  have hnm := (name_of_methodNamed Bd.named Bd.method).1
  have hlk : meth.locks = false := Bd.notSynchronized
  have hrt := Bd.returns
  have X0 : Stand p l e ({ frames := 0, cells := 0, slots := 0, locals := 0 } : Room) s m #[(.ref r)] below meth c s₁ [] 0 0 := Stand.of_body Bd
  have e0 : s₁.heap = h0 := by rw [← hh, Bd.state]; rfl
  have N0 := Fr.nil n0
  show own_Endz p.tables e below (own_EndQ s ({ frames := 0, cells := 0, slots := 0, locals := 0 } : Room).cells ({ frames := 0, cells := 0, slots := 0, locals := 0 } : Room).slots (Q3 Z r ad h0 n0)) (s₁.setTop (entryFrame m #[(.ref r)] 1))
  refine own_cast (ef_3 m r) ?_
  refine own_go (b := s₁.setTop (mkF m 1 #[.val (.ref r)] [(.ref r)])) (fun t k => XS.aloadN X0.here hx rfl (hb hby d3_0) rfl rfl k) ?_
  obtain ⟨T1, X1, e1, st1⟩ := getS2 X0 hx hZ hown (host := "") (Or.inl (hw _ (List.mem_of_getElem? (i := 16) rfl))) Via.refl e0 Sd2 (g := (mkF m 1 #[.val (.ref r)] [(.ref r)])) rfl (hb hby d3_1)
  refine own_go (b := T1.setTop (mkF m 4 #[.val (.ref r)] [(.ref (ad 2)), (.ref r)])) st1 ?_
  by_cases hc2 : r = (ad 2)
  · refine own_go (b := T1.setTop (mkF m 28 #[.val (.ref r)] [])) (fun t k => Jvm.RoadKit.acmp (g := (mkF m 4 #[.val (.ref r)] [(.ref (ad 2)), (.ref r)])) X1 hx rfl rfl rfl (pc0 := 4) (pc' := 28) (same := true) rfl (hb hby d3_4) rfl (decide_eq_true (congrArg Value.ref hc2)) (by decide) (by decide) k) ?_
    refine own_go (b := T1.setTop (mkF m 29 #[.val (.ref r)] [(.int (1 : Int32))])) (fun t k => XS.iconst X1.here hx rfl (hb hby d3_28) k) ?_
    refine own_go (b := T1.setTop (mkF m 33 #[.val (.ref r)] [(.int (1 : Int32))])) (fun t k => XS.goto X1.here hx rfl (pc0 := 29) (pc' := 33) rfl (hb hby d3_29) (by decide) (by decide) k) ?_
    exact own_retN X1 hx hlk (t := .boolean) hrt (by simp) (hb hby d3_33) (Nat.le_of_ble_eq_true rfl) (Nat.le_of_ble_eq_true rfl) (⟨by first | rfl | (simp only [own_isP, nar, eq_true hc2, if_true, if_false]; done) | (simp only [own_isP, nar, eq_true hc2, if_true, if_false]; rfl) | (simp [own_isP, nar, eq_true hc2]; done) | (simp [own_isP, nar, eq_true hc2]; rfl), N0, e1⟩)
  · refine own_go (b := T1.setTop (mkF m 7 #[.val (.ref r)] [])) (fun t k => Jvm.RoadKit.acmp (g := (mkF m 4 #[.val (.ref r)] [(.ref (ad 2)), (.ref r)])) X1 hx rfl rfl rfl (pc0 := 4) (pc' := 7) (same := false) rfl (hb hby d3_4) rfl (decide_eq_false fun q => hc2 (Value.ref.inj q)) (by decide) (by decide) k) ?_
    refine own_go (b := T1.setTop (mkF m 8 #[.val (.ref r)] [(.ref r)])) (fun t k => XS.aloadN X1.here hx rfl (hb hby d3_7) rfl rfl k) ?_
    obtain ⟨T3, X3, e3, st3⟩ := getS2 X1 hx hZ hown (host := "") (Or.inl (hw _ (List.mem_of_getElem? (i := 18) rfl))) Via.refl e1 Sd3 (g := (mkF m 8 #[.val (.ref r)] [(.ref r)])) rfl (hb hby d3_8)
    refine own_go (b := T3.setTop (mkF m 11 #[.val (.ref r)] [(.ref (ad 3)), (.ref r)])) st3 ?_
    by_cases hc4 : r = (ad 3)
    · refine own_go (b := T3.setTop (mkF m 28 #[.val (.ref r)] [])) (fun t k => Jvm.RoadKit.acmp (g := (mkF m 11 #[.val (.ref r)] [(.ref (ad 3)), (.ref r)])) X3 hx rfl rfl rfl (pc0 := 11) (pc' := 28) (same := true) rfl (hb hby d3_11) rfl (decide_eq_true (congrArg Value.ref hc4)) (by decide) (by decide) k) ?_
      refine own_go (b := T3.setTop (mkF m 29 #[.val (.ref r)] [(.int (1 : Int32))])) (fun t k => XS.iconst X3.here hx rfl (hb hby d3_28) k) ?_
      refine own_go (b := T3.setTop (mkF m 33 #[.val (.ref r)] [(.int (1 : Int32))])) (fun t k => XS.goto X3.here hx rfl (pc0 := 29) (pc' := 33) rfl (hb hby d3_29) (by decide) (by decide) k) ?_
      exact own_retN X3 hx hlk (t := .boolean) hrt (by simp) (hb hby d3_33) (Nat.le_of_ble_eq_true rfl) (Nat.le_of_ble_eq_true rfl) (⟨by first | rfl | (simp only [own_isP, nar, eq_false hc2, eq_true hc4, if_true, if_false]; done) | (simp only [own_isP, nar, eq_false hc2, eq_true hc4, if_true, if_false]; rfl) | (simp [own_isP, nar, eq_false hc2, eq_true hc4]; done) | (simp [own_isP, nar, eq_false hc2, eq_true hc4]; rfl), N0, e3⟩)
    · refine own_go (b := T3.setTop (mkF m 14 #[.val (.ref r)] [])) (fun t k => Jvm.RoadKit.acmp (g := (mkF m 11 #[.val (.ref r)] [(.ref (ad 3)), (.ref r)])) X3 hx rfl rfl rfl (pc0 := 11) (pc' := 14) (same := false) rfl (hb hby d3_11) rfl (decide_eq_false fun q => hc4 (Value.ref.inj q)) (by decide) (by decide) k) ?_
      refine own_go (b := T3.setTop (mkF m 15 #[.val (.ref r)] [(.ref r)])) (fun t k => XS.aloadN X3.here hx rfl (hb hby d3_14) rfl rfl k) ?_
      obtain ⟨T5, X5, e5, st5⟩ := getS2 X3 hx hZ hown (host := "") (Or.inl (hw _ (List.mem_of_getElem? (i := 20) rfl))) Via.refl e3 Sd5 (g := (mkF m 15 #[.val (.ref r)] [(.ref r)])) rfl (hb hby d3_15)
      refine own_go (b := T5.setTop (mkF m 18 #[.val (.ref r)] [(.ref (ad 5)), (.ref r)])) st5 ?_
      by_cases hc6 : r = (ad 5)
      · refine own_go (b := T5.setTop (mkF m 28 #[.val (.ref r)] [])) (fun t k => Jvm.RoadKit.acmp (g := (mkF m 18 #[.val (.ref r)] [(.ref (ad 5)), (.ref r)])) X5 hx rfl rfl rfl (pc0 := 18) (pc' := 28) (same := true) rfl (hb hby d3_18) rfl (decide_eq_true (congrArg Value.ref hc6)) (by decide) (by decide) k) ?_
        refine own_go (b := T5.setTop (mkF m 29 #[.val (.ref r)] [(.int (1 : Int32))])) (fun t k => XS.iconst X5.here hx rfl (hb hby d3_28) k) ?_
        refine own_go (b := T5.setTop (mkF m 33 #[.val (.ref r)] [(.int (1 : Int32))])) (fun t k => XS.goto X5.here hx rfl (pc0 := 29) (pc' := 33) rfl (hb hby d3_29) (by decide) (by decide) k) ?_
        exact own_retN X5 hx hlk (t := .boolean) hrt (by simp) (hb hby d3_33) (Nat.le_of_ble_eq_true rfl) (Nat.le_of_ble_eq_true rfl) (⟨by first | rfl | (simp only [own_isP, nar, eq_false hc2, eq_false hc4, eq_true hc6, if_true, if_false]; done) | (simp only [own_isP, nar, eq_false hc2, eq_false hc4, eq_true hc6, if_true, if_false]; rfl) | (simp [own_isP, nar, eq_false hc2, eq_false hc4, eq_true hc6]; done) | (simp [own_isP, nar, eq_false hc2, eq_false hc4, eq_true hc6]; rfl), N0, e5⟩)
      · refine own_go (b := T5.setTop (mkF m 21 #[.val (.ref r)] [])) (fun t k => Jvm.RoadKit.acmp (g := (mkF m 18 #[.val (.ref r)] [(.ref (ad 5)), (.ref r)])) X5 hx rfl rfl rfl (pc0 := 18) (pc' := 21) (same := false) rfl (hb hby d3_18) rfl (decide_eq_false fun q => hc6 (Value.ref.inj q)) (by decide) (by decide) k) ?_
        refine own_go (b := T5.setTop (mkF m 22 #[.val (.ref r)] [(.ref r)])) (fun t k => XS.aloadN X5.here hx rfl (hb hby d3_21) rfl rfl k) ?_
        obtain ⟨T7, X7, e7, st7⟩ := getS2 X5 hx hZ hown (host := "") (Or.inl (hw _ (List.mem_of_getElem? (i := 22) rfl))) Via.refl e5 Sd6 (g := (mkF m 22 #[.val (.ref r)] [(.ref r)])) rfl (hb hby d3_22)
        refine own_go (b := T7.setTop (mkF m 25 #[.val (.ref r)] [(.ref (ad 6)), (.ref r)])) st7 ?_
        by_cases hc8 : r = (ad 6)
        · refine own_go (b := T7.setTop (mkF m 28 #[.val (.ref r)] [])) (fun t k => Jvm.RoadKit.acmp (g := (mkF m 25 #[.val (.ref r)] [(.ref (ad 6)), (.ref r)])) X7 hx rfl rfl rfl (pc0 := 25) (pc' := 28) (same := true) rfl (hb hby d3_25) rfl (decide_eq_true (congrArg Value.ref hc8)) (by decide) (by decide) k) ?_
          refine own_go (b := T7.setTop (mkF m 29 #[.val (.ref r)] [(.int (1 : Int32))])) (fun t k => XS.iconst X7.here hx rfl (hb hby d3_28) k) ?_
          refine own_go (b := T7.setTop (mkF m 33 #[.val (.ref r)] [(.int (1 : Int32))])) (fun t k => XS.goto X7.here hx rfl (pc0 := 29) (pc' := 33) rfl (hb hby d3_29) (by decide) (by decide) k) ?_
          exact own_retN X7 hx hlk (t := .boolean) hrt (by simp) (hb hby d3_33) (Nat.le_of_ble_eq_true rfl) (Nat.le_of_ble_eq_true rfl) (⟨by first | rfl | (simp only [own_isP, nar, eq_false hc2, eq_false hc4, eq_false hc6, eq_true hc8, if_true, if_false]; done) | (simp only [own_isP, nar, eq_false hc2, eq_false hc4, eq_false hc6, eq_true hc8, if_true, if_false]; rfl) | (simp [own_isP, nar, eq_false hc2, eq_false hc4, eq_false hc6, eq_true hc8]; done) | (simp [own_isP, nar, eq_false hc2, eq_false hc4, eq_false hc6, eq_true hc8]; rfl), N0, e7⟩)
        · refine own_go (b := T7.setTop (mkF m 32 #[.val (.ref r)] [])) (fun t k => Jvm.RoadKit.acmp (g := (mkF m 25 #[.val (.ref r)] [(.ref (ad 6)), (.ref r)])) X7 hx rfl rfl rfl (pc0 := 25) (pc' := 32) (same := false) rfl (hb hby d3_25) rfl (decide_eq_false fun q => hc8 (Value.ref.inj q)) (by decide) (by decide) k) ?_
          refine own_go (b := T7.setTop (mkF m 33 #[.val (.ref r)] [(.int (0 : Int32))])) (fun t k => XS.iconst X7.here hx rfl (hb hby d3_32) k) ?_
          exact own_retN X7 hx hlk (t := .boolean) hrt (by simp) (hb hby d3_33) (Nat.le_of_ble_eq_true rfl) (Nat.le_of_ble_eq_true rfl) (⟨by first | rfl | (simp only [own_isP, nar, eq_false hc2, eq_false hc4, eq_false hc6, eq_false hc8, if_true, if_false]; done) | (simp only [own_isP, nar, eq_false hc2, eq_false hc4, eq_false hc6, eq_false hc8, if_true, if_false]; rfl) | (simp [own_isP, nar, eq_false hc2, eq_false hc4, eq_false hc6, eq_false hc8]; done) | (simp [own_isP, nar, eq_false hc2, eq_false hc4, eq_false hc6, eq_false hc8]; rfl), N0, e7⟩)
theorem own_range (k : Int32) : ∃ j : Nat, j < 21 ∧ (k &&& 2147483647) % 21 = j.toInt32 := by
  have h1 := c_mask k 2147483647 31 (by decide) (by decide)
  have h2 := (c_irem (k &&& 2147483647) 21 21 (by decide)).1 (by omega)
  refine ⟨((k &&& 2147483647) % 21).toInt.toNat, by omega, ?_⟩
  rw [← Int32.toInt_inj, len_toInt (by omega)]
  omega
theorem own_law {ad : Nat → Addr} (hinj : ∀ i j, i < 21 → j < 21 → (ad i = ad j ↔ i = j)) (k : Int32) : own_isP ad (own_pick ad ((k &&& 2147483647) % 21)) = own_exp ((k &&& 2147483647) % 21) := by
  obtain ⟨j, hj, h⟩ := own_range k
  rw [h]
  match j, hj with
  | 0, _ => simp [own_isP, own_pick, own_exp, hinj, Nat.toInt32]
  | 1, _ => simp [own_isP, own_pick, own_exp, hinj, Nat.toInt32]
  | 2, _ => simp [own_isP, own_pick, own_exp, hinj, Nat.toInt32]
  | 3, _ => simp [own_isP, own_pick, own_exp, hinj, Nat.toInt32]
  | 4, _ => simp [own_isP, own_pick, own_exp, hinj, Nat.toInt32]
  | 5, _ => simp [own_isP, own_pick, own_exp, hinj, Nat.toInt32]
  | 6, _ => simp [own_isP, own_pick, own_exp, hinj, Nat.toInt32]
  | 7, _ => simp [own_isP, own_pick, own_exp, hinj, Nat.toInt32]
  | 8, _ => simp [own_isP, own_pick, own_exp, hinj, Nat.toInt32]
  | 9, _ => simp [own_isP, own_pick, own_exp, hinj, Nat.toInt32]
  | 10, _ => simp [own_isP, own_pick, own_exp, hinj, Nat.toInt32]
  | 11, _ => simp [own_isP, own_pick, own_exp, hinj, Nat.toInt32]
  | 12, _ => simp [own_isP, own_pick, own_exp, hinj, Nat.toInt32]
  | 13, _ => simp [own_isP, own_pick, own_exp, hinj, Nat.toInt32]
  | 14, _ => simp [own_isP, own_pick, own_exp, hinj, Nat.toInt32]
  | 15, _ => simp [own_isP, own_pick, own_exp, hinj, Nat.toInt32]
  | 16, _ => simp [own_isP, own_pick, own_exp, hinj, Nat.toInt32]
  | 17, _ => simp [own_isP, own_pick, own_exp, hinj, Nat.toInt32]
  | 18, _ => simp [own_isP, own_pick, own_exp, hinj, Nat.toInt32]
  | 19, _ => simp [own_isP, own_pick, own_exp, hinj, Nat.toInt32]
  | 20, _ => simp [own_isP, own_pick, own_exp, hinj, Nat.toInt32]
  | j + 21, h => omega
theorem pd_0 : parseMethodDescriptor "(I)Lcom/example/axiomloom/axiomloom/owl/Construct$Element;" = some ⟨[.int], some (.object "com/example/axiomloom/axiomloom/owl/Construct$Element")⟩ := by decide +kernel
theorem pd_1 : parseMethodDescriptor "(I)Z" = some ⟨[.int], some .boolean⟩ := by decide +kernel
theorem pd_2 : parseMethodDescriptor "()Z" = some ⟨[], some .boolean⟩ := by decide +kernel
theorem ef_0 (m : MethodId) (pr : Int32) : entryFrame m #[(.int pr)] maxLocals = mkF m 0 #[.val (.int pr), .unset, .unset, .unset] [] := by first | (simp [entryFrame, mkF, argsToLocals, Value.category, maxLocals]; done) | rfl
def Q0 (Z : State) (pr : Int32) (ad : Nat → Addr) (h0 : Heap) (n0 : Nat) (v : Option Value) (h : Heap) (L : List Loc) : Prop := v = some (.int 1) ∧ Fr n0 L
set_option maxRecDepth 65536 in
set_option maxHeartbeats 40000000 in
theorem rm0 (l : Launch) (Z : State) (a0 : Array Value) (hw : ∀ d ∈ tables_1, d.before a0 Z = true) (ws : List Jvm.Cond) (pr : Int32) (ad : Nat → Addr) (h0 : Heap) (n0 : Nat) (Z0 : n0 ≤ h0.size) (Sd0 : Sta Z h0 "com/example/axiomloom/axiomloom/owl/Construct$Element" "CLASS_EXPRESSION" "Lcom/example/axiomloom/axiomloom/owl/Construct$Element;" (.ref (ad 0))) (Sd1 : Sta Z h0 "com/example/axiomloom/axiomloom/owl/Construct$Element" "CLASS" "Lcom/example/axiomloom/axiomloom/owl/Construct$Element;" (.ref (ad 1))) (Sd2 : Sta Z h0 "com/example/axiomloom/axiomloom/owl/Construct$Element" "OBJECT_PROPERTY_EXPRESSION" "Lcom/example/axiomloom/axiomloom/owl/Construct$Element;" (.ref (ad 2))) (Sd3 : Sta Z h0 "com/example/axiomloom/axiomloom/owl/Construct$Element" "OBJECT_PROPERTY" "Lcom/example/axiomloom/axiomloom/owl/Construct$Element;" (.ref (ad 3))) (Sd4 : Sta Z h0 "com/example/axiomloom/axiomloom/owl/Construct$Element" "SUB_OBJECT_PROPERTY" "Lcom/example/axiomloom/axiomloom/owl/Construct$Element;" (.ref (ad 4))) (Sd5 : Sta Z h0 "com/example/axiomloom/axiomloom/owl/Construct$Element" "DATA_PROPERTY" "Lcom/example/axiomloom/axiomloom/owl/Construct$Element;" (.ref (ad 5))) (Sd6 : Sta Z h0 "com/example/axiomloom/axiomloom/owl/Construct$Element" "DATA_PROPERTIES_AND_RANGE" "Lcom/example/axiomloom/axiomloom/owl/Construct$Element;" (.ref (ad 6))) (Sd7 : Sta Z h0 "com/example/axiomloom/axiomloom/owl/Construct$Element" "DATA_RANGE" "Lcom/example/axiomloom/axiomloom/owl/Construct$Element;" (.ref (ad 7))) (Sd8 : Sta Z h0 "com/example/axiomloom/axiomloom/owl/Construct$Element" "DATATYPE" "Lcom/example/axiomloom/axiomloom/owl/Construct$Element;" (.ref (ad 8))) (Sd9 : Sta Z h0 "com/example/axiomloom/axiomloom/owl/Construct$Element" "INDIVIDUAL" "Lcom/example/axiomloom/axiomloom/owl/Construct$Element;" (.ref (ad 9))) (Sd10 : Sta Z h0 "com/example/axiomloom/axiomloom/owl/Construct$Element" "NAMED_INDIVIDUAL" "Lcom/example/axiomloom/axiomloom/owl/Construct$Element;" (.ref (ad 10))) (Sd11 : Sta Z h0 "com/example/axiomloom/axiomloom/owl/Construct$Element" "LITERAL" "Lcom/example/axiomloom/axiomloom/owl/Construct$Element;" (.ref (ad 11))) (Sd12 : Sta Z h0 "com/example/axiomloom/axiomloom/owl/Construct$Element" "NON_NEGATIVE_INTEGER" "Lcom/example/axiomloom/axiomloom/owl/Construct$Element;" (.ref (ad 12))) (Sd13 : Sta Z h0 "com/example/axiomloom/axiomloom/owl/Construct$Element" "OBJECT_PROPERTY_LIST" "Lcom/example/axiomloom/axiomloom/owl/Construct$Element;" (.ref (ad 13))) (Sd14 : Sta Z h0 "com/example/axiomloom/axiomloom/owl/Construct$Element" "DATA_PROPERTY_LIST" "Lcom/example/axiomloom/axiomloom/owl/Construct$Element;" (.ref (ad 14))) (Sd15 : Sta Z h0 "com/example/axiomloom/axiomloom/owl/Construct$Element" "FACET_RESTRICTION" "Lcom/example/axiomloom/axiomloom/owl/Construct$Element;" (.ref (ad 15))) (Sd16 : Sta Z h0 "com/example/axiomloom/axiomloom/owl/Construct$Element" "ANNOTATION_PROPERTY" "Lcom/example/axiomloom/axiomloom/owl/Construct$Element;" (.ref (ad 16))) (Sd17 : Sta Z h0 "com/example/axiomloom/axiomloom/owl/Construct$Element" "ANNOTATION_SUBJECT" "Lcom/example/axiomloom/axiomloom/owl/Construct$Element;" (.ref (ad 17))) (Sd18 : Sta Z h0 "com/example/axiomloom/axiomloom/owl/Construct$Element" "ANNOTATION_VALUE" "Lcom/example/axiomloom/axiomloom/owl/Construct$Element;" (.ref (ad 18))) (Sd19 : Sta Z h0 "com/example/axiomloom/axiomloom/owl/Construct$Element" "IRI" "Lcom/example/axiomloom/axiomloom/owl/Construct$Element;" (.ref (ad 19))) (Sd20 : Sta Z h0 "com/example/axiomloom/axiomloom/owl/Construct$Element" "ENTITY" "Lcom/example/axiomloom/axiomloom/owl/Construct$Element;" (.ref (ad 20))) (Ed : ∀ i, Exa Z h0 (own_pick ad i) "com/example/axiomloom/axiomloom/owl/Construct$Element") (hinj : ∀ i j, i < 21 → j < 21 → (ad i = ad j ↔ i = j)) :
    MetFree l x (head1 (Jvm.Cond.code x code maxLocals ret :: ws) room_1) (fun a U => a = #[(.int pr)] ∧ Z.Warmed39 U.vm ∧ U.heap = h0) (fun _ _ _ _ _ => True) (fun _ U o U' => ∃ v L, o = .returned v ∧ Q0 Z pr ad h0 n0 v U'.heap L ∧ FrameEnd U o U' L room_1.cells room_1.slots) := by
  refine MetFree.of_bodySF (plainFor_of_name pn_0) hisR ?_
  intro p e s m args below meth c s₁ Bd hml0 hP hK
  obtain ⟨rfl, hZ, hh⟩ := hP
  have hx := Bd.exec
  have hby := Bd.bytes
  have hml : c.maxLocals = 4 := hml0
  have hown : s.vm.findClass "com/example/axiomloom/axiomloom/owl/ElementIsPropertyPinLaw" = some m.cls := findClass_of_methodNamed Bd.named
  have hnm := (name_of_methodNamed Bd.named Bd.method).1
  have hlk : meth.locks = false := Bd.notSynchronized
  have hrt := Bd.returns
  have X0 : Stand p l e room_1 s m #[(.int pr)] below meth c s₁ [] 0 0 := Stand.of_body Bd
  have e0 : s₁.heap = h0 := by rw [← hh, Bd.state]; rfl
  have N0 := Fr.nil n0
  show own_Endz p.tables e below (own_EndQ s room_1.cells room_1.slots (Q0 Z pr ad h0 n0)) (s₁.setTop (entryFrame m #[(.int pr)] maxLocals))
  refine own_cast (ef_0 m pr) ?_
  refine own_go (b := s₁.setTop (mkF m 1 #[.val (.int pr), .unset, .unset, .unset] [(.int pr)])) (fun t k => XS.iloadN X0.here hx rfl (hb hby at_0) rfl  k) ?_
  refine own_go (b := s₁.setTop (mkF m 3 #[.val (.int pr), .unset, .unset, .unset] [(.int (2147483647 : Int32)), (.int pr)])) (fun t k => X0.ldcInt hx hown (mvT hZ (hw _ (List.mem_of_getElem? (i := 0) rfl))) (g := (mkF m 1 #[.val (.int pr), .unset, .unset, .unset] [(.int pr)])) rfl (hb hby at_1) t k) ?_
  refine own_go (b := s₁.setTop (mkF m 4 #[.val (.int pr), .unset, .unset, .unset] [(.int (pr &&& (2147483647 : Int32)))])) (fun t k => XS.iand X0.here hx rfl (hb hby at_3) rfl k) ?_
  refine own_go (b := s₁.setTop (mkF m 6 #[.val (.int pr), .unset, .unset, .unset] [(.int (21 : Int32)), (.int (pr &&& (2147483647 : Int32)))])) (fun t k => XS.bipush X0.here hx rfl (hb hby at_4) k) ?_
  refine own_go (b := s₁.setTop (mkF m 7 #[.val (.int pr), .unset, .unset, .unset] [(.int ((pr &&& (2147483647 : Int32)) % (21 : Int32)))])) (fun t k => iremM X0 hx rfl (hb hby at_6) rfl (by decide) k) ?_
  refine own_go (b := s₁.setTop (mkF m 8 #[.val (.int pr), .val (.int ((pr &&& (2147483647 : Int32)) % (21 : Int32))), .unset, .unset] [])) (fun t k => XS.istoreN X0.here hx rfl (hb hby at_7) rfl (l' := #[.val (.int pr), .val (.int ((pr &&& (2147483647 : Int32)) % (21 : Int32))), .unset, .unset]) rfl k) ?_
  refine own_go (b := s₁.setTop (mkF m 9 #[.val (.int pr), .val (.int ((pr &&& (2147483647 : Int32)) % (21 : Int32))), .unset, .unset] [(.int ((pr &&& (2147483647 : Int32)) % (21 : Int32)))])) (fun t k => XS.iloadN X0.here hx rfl (hb hby at_8) rfl  k) ?_
  obtain ⟨_, _, ⟨T1, L1, k1, n1⟩, -, X1, ⟨Lc1, hQ1, l1, y1, z1⟩, st1⟩ := Jvm.LawKit.callS X0 hx (y := (⟨"com/example/axiomloom/axiomloom/owl/ElementIsPropertyPinLaw", "pick", "(I)Lcom/example/axiomloom/axiomloom/owl/Construct$Element;"⟩ : MethodName)) hown (mvT hZ (hw _ (List.mem_of_getElem? (i := 1) rfl))) (mvT hZ (hw _ (List.mem_of_getElem? (i := 2) rfl))) (mvT hZ (hw _ (List.mem_of_getElem? (i := 3) rfl))) (mvT hZ (hw _ (List.mem_of_getElem? (i := 4) rfl))) (by decide) (backOf (W := 0) (rm1 l Z a0 hw [] ((pr &&& (2147483647 : Int32)) % (21 : Int32)) ad h0 n0 Z0 Sd0 Sd1 Sd2 Sd3 Sd4 Sd5 Sd6 Sd7 Sd8 Sd9 Sd10 Sd11 Sd12 Sd13 Sd14 Sd15 Sd16 Sd17 Sd18 Sd19 Sd20) hZ (hw _ (List.mem_of_getElem? (i := 4) rfl)) (hw _ (List.mem_of_getElem? (i := 3) rfl)) (by decide) (by decide)) (g := (mkF m 9 #[.val (.int pr), .val (.int ((pr &&& (2147483647 : Int32)) % (21 : Int32))), .unset, .unset] [(.int ((pr &&& (2147483647 : Int32)) % (21 : Int32)))])) rfl (by rw [hml]; rfl) (argsL := [(.int ((pr &&& (2147483647 : Int32)) % (21 : Int32)))]) (rest := []) (lenOf pd_0 rfl) rfl (by show 2 * 0 + _ ≤ _; exact Nat.le_of_eq rfl) (hb hby at_9) (fun _ _ => ⟨rfl, e0, (by decide : 0 + 0 ≤ _), (by decide : 0 + 0 ≤ _)⟩)
  dsimp only [Pt.U, Pt.locs, Pt.cells, Pt.slots] at X1 l1 y1 z1 st1 hQ1
  subst l1 y1 z1
  obtain ⟨rfl, N1q, e1⟩ := hQ1
  have N1 := Fr.app N0 N1q
  refine own_go (b := T1.setTop (mkF m 12 #[.val (.int pr), .val (.int ((pr &&& (2147483647 : Int32)) % (21 : Int32))), .unset, .unset] [(.ref (own_pick ad ((pr &&& (2147483647 : Int32)) % (21 : Int32))))])) st1 ?_
  refine own_go (b := T1.setTop (mkF m 13 #[.val (.int pr), .val (.int ((pr &&& (2147483647 : Int32)) % (21 : Int32))), .val (.ref (own_pick ad ((pr &&& (2147483647 : Int32)) % (21 : Int32)))), .unset] [])) (fun t k => XS.astoreN X1.here hx rfl (hb hby at_12) rfl rfl (l' := #[.val (.int pr), .val (.int ((pr &&& (2147483647 : Int32)) % (21 : Int32))), .val (.ref (own_pick ad ((pr &&& (2147483647 : Int32)) % (21 : Int32)))), .unset]) rfl k) ?_
  refine own_go (b := T1.setTop (mkF m 14 #[.val (.int pr), .val (.int ((pr &&& (2147483647 : Int32)) % (21 : Int32))), .val (.ref (own_pick ad ((pr &&& (2147483647 : Int32)) % (21 : Int32)))), .unset] [(.int ((pr &&& (2147483647 : Int32)) % (21 : Int32)))])) (fun t k => XS.iloadN X1.here hx rfl (hb hby at_13) rfl  k) ?_
  obtain ⟨_, _, ⟨T2, L2, k2, n2⟩, -, X2, ⟨Lc2, hQ2, l2, y2, z2⟩, st2⟩ := Jvm.LawKit.callS X1 hx (y := (⟨"com/example/axiomloom/axiomloom/owl/ElementIsPropertyPinLaw", "expectedFor", "(I)Z"⟩ : MethodName)) hown (mvT hZ (hw _ (List.mem_of_getElem? (i := 8) rfl))) (mvT hZ (hw _ (List.mem_of_getElem? (i := 9) rfl))) (mvT hZ (hw _ (List.mem_of_getElem? (i := 3) rfl))) (mvT hZ (hw _ (List.mem_of_getElem? (i := 10) rfl))) (by decide) (backOf (W := 0) (rm2 l Z a0 hw [] ((pr &&& (2147483647 : Int32)) % (21 : Int32))  h0 n0 Z0 ) hZ (hw _ (List.mem_of_getElem? (i := 10) rfl)) (hw _ (List.mem_of_getElem? (i := 3) rfl)) (by decide) (by decide)) (g := (mkF m 14 #[.val (.int pr), .val (.int ((pr &&& (2147483647 : Int32)) % (21 : Int32))), .val (.ref (own_pick ad ((pr &&& (2147483647 : Int32)) % (21 : Int32)))), .unset] [(.int ((pr &&& (2147483647 : Int32)) % (21 : Int32)))])) rfl (by rw [hml]; rfl) (argsL := [(.int ((pr &&& (2147483647 : Int32)) % (21 : Int32)))]) (rest := []) (lenOf pd_1 rfl) rfl (by show 2 * 0 + _ ≤ _; exact Nat.le_of_eq rfl) (hb hby at_14) (fun _ _ => ⟨rfl, e1, (by decide : 0 + 0 ≤ _), (by decide : 0 + 0 ≤ _)⟩)
  dsimp only [Pt.U, Pt.locs, Pt.cells, Pt.slots] at X2 l2 y2 z2 st2 hQ2
  subst l2 y2 z2
  obtain ⟨rfl, N2q, e2⟩ := hQ2
  have N2 := Fr.app N1 N2q
  refine own_go (b := T2.setTop (mkF m 17 #[.val (.int pr), .val (.int ((pr &&& (2147483647 : Int32)) % (21 : Int32))), .val (.ref (own_pick ad ((pr &&& (2147483647 : Int32)) % (21 : Int32)))), .unset] [(.int (own_exp ((pr &&& (2147483647 : Int32)) % (21 : Int32))))])) st2 ?_
  refine own_go (b := T2.setTop (mkF m 18 #[.val (.int pr), .val (.int ((pr &&& (2147483647 : Int32)) % (21 : Int32))), .val (.ref (own_pick ad ((pr &&& (2147483647 : Int32)) % (21 : Int32)))), .val (.int (own_exp ((pr &&& (2147483647 : Int32)) % (21 : Int32))))] [])) (fun t k => XS.istoreN X2.here hx rfl (hb hby at_17) rfl (l' := #[.val (.int pr), .val (.int ((pr &&& (2147483647 : Int32)) % (21 : Int32))), .val (.ref (own_pick ad ((pr &&& (2147483647 : Int32)) % (21 : Int32)))), .val (.int (own_exp ((pr &&& (2147483647 : Int32)) % (21 : Int32))))]) rfl k) ?_
  refine own_go (b := T2.setTop (mkF m 19 #[.val (.int pr), .val (.int ((pr &&& (2147483647 : Int32)) % (21 : Int32))), .val (.ref (own_pick ad ((pr &&& (2147483647 : Int32)) % (21 : Int32)))), .val (.int (own_exp ((pr &&& (2147483647 : Int32)) % (21 : Int32))))] [(.ref (own_pick ad ((pr &&& (2147483647 : Int32)) % (21 : Int32))))])) (fun t k => XS.aloadN X2.here hx rfl (hb hby at_18) rfl rfl k) ?_
  obtain ⟨cq3, kq3, q3a, q3b, q3c⟩ := isOf hZ e2 (Ed ((pr &&& (2147483647 : Int32)) % (21 : Int32)))
  obtain ⟨_, _, ⟨T3, L3, k3, n3⟩, -, X3, ⟨Lc3, hQ3, l3, y3, z3⟩, st3⟩ := X2.virtualBack hx (y := (⟨"com/example/axiomloom/axiomloom/owl/Construct$Element", "isProperty", "()Z"⟩ : MethodName)) (z := (⟨"com/example/axiomloom/axiomloom/owl/Construct$Element", "isProperty", "()Z"⟩ : MethodName)) hown (mvT hZ (hw _ (List.mem_of_getElem? (i := 11) rfl))) (mvT hZ (hw _ (List.mem_of_getElem? (i := 12) rfl))) (notFace_of_selects (args := #[]) (mvT hZ (hw _ (List.mem_of_getElem? (i := 14) rfl)))) (mvT hZ (hw _ (List.mem_of_getElem? (i := 14) rfl))) (mvT hZ (hw _ (List.mem_of_getElem? (i := 13) rfl))) (by decide) (backOf (W := 0) (rm3 l Z a0 hw [] (own_pick ad ((pr &&& (2147483647 : Int32)) % (21 : Int32))) ad h0 n0 Z0 Sd0 Sd1 Sd2 Sd3 Sd4 Sd5 Sd6 Sd7 Sd8 Sd9 Sd10 Sd11 Sd12 Sd13 Sd14 Sd15 Sd16 Sd17 Sd18 Sd19 Sd20) hZ (hw _ (List.mem_of_getElem? (i := 15) rfl)) (hw _ (List.mem_of_getElem? (i := 6) rfl)) (by decide) (by decide)) q3a q3c (g := (mkF m 19 #[.val (.int pr), .val (.int ((pr &&& (2147483647 : Int32)) % (21 : Int32))), .val (.ref (own_pick ad ((pr &&& (2147483647 : Int32)) % (21 : Int32)))), .val (.int (own_exp ((pr &&& (2147483647 : Int32)) % (21 : Int32))))] [(.ref (own_pick ad ((pr &&& (2147483647 : Int32)) % (21 : Int32))))])) rfl (by rw [hml]; rfl) (Steps.refl _) (argsL := []) (rest := []) (lenOf pd_2 rfl) rfl (by show 2 * 0 + _ ≤ _; exact Nat.le_of_eq rfl) (hb hby at_19) (fun _ _ => ⟨rfl, e2, (by decide : 0 + 0 ≤ _), (by decide : 0 + 0 ≤ _)⟩)
  dsimp only [Pt.U, Pt.locs, Pt.cells, Pt.slots] at X3 l3 y3 z3 st3 hQ3
  subst l3 y3 z3
  obtain ⟨rfl, N3q, e3⟩ := hQ3
  have N3 := Fr.app N2 N3q
  refine own_tr (b := T3.setTop (mkF m 22 #[.val (.int pr), .val (.int ((pr &&& (2147483647 : Int32)) % (21 : Int32))), .val (.ref (own_pick ad ((pr &&& (2147483647 : Int32)) % (21 : Int32)))), .val (.int (own_exp ((pr &&& (2147483647 : Int32)) % (21 : Int32))))] [(.int (own_isP ad (own_pick ad ((pr &&& (2147483647 : Int32)) % (21 : Int32)))))])) st3 ?_
  refine own_go (b := T3.setTop (mkF m 23 #[.val (.int pr), .val (.int ((pr &&& (2147483647 : Int32)) % (21 : Int32))), .val (.ref (own_pick ad ((pr &&& (2147483647 : Int32)) % (21 : Int32)))), .val (.int (own_exp ((pr &&& (2147483647 : Int32)) % (21 : Int32))))] [(.int (own_exp ((pr &&& (2147483647 : Int32)) % (21 : Int32)))), (.int (own_isP ad (own_pick ad ((pr &&& (2147483647 : Int32)) % (21 : Int32)))))])) (fun t k => XS.iloadN X3.here hx rfl (hb hby at_22) rfl  k) ?_
  by_cases hc4 : (own_isP ad (own_pick ad ((pr &&& (2147483647 : Int32)) % (21 : Int32)))) = (own_exp ((pr &&& (2147483647 : Int32)) % (21 : Int32)))
  · refine own_go (b := T3.setTop (mkF m 26 #[.val (.int pr), .val (.int ((pr &&& (2147483647 : Int32)) % (21 : Int32))), .val (.ref (own_pick ad ((pr &&& (2147483647 : Int32)) % (21 : Int32)))), .val (.int (own_exp ((pr &&& (2147483647 : Int32)) % (21 : Int32))))] [])) (fun t k => XS.icmpNo X3.here hx rfl (hb hby at_23) rfl (teq hc4).2 k) ?_
    refine own_go (b := T3.setTop (mkF m 27 #[.val (.int pr), .val (.int ((pr &&& (2147483647 : Int32)) % (21 : Int32))), .val (.ref (own_pick ad ((pr &&& (2147483647 : Int32)) % (21 : Int32)))), .val (.int (own_exp ((pr &&& (2147483647 : Int32)) % (21 : Int32))))] [(.int (1 : Int32))])) (fun t k => XS.iconst X3.here hx rfl (hb hby at_26) k) ?_
    refine own_go (b := T3.setTop (mkF m 31 #[.val (.int pr), .val (.int ((pr &&& (2147483647 : Int32)) % (21 : Int32))), .val (.ref (own_pick ad ((pr &&& (2147483647 : Int32)) % (21 : Int32)))), .val (.int (own_exp ((pr &&& (2147483647 : Int32)) % (21 : Int32))))] [(.int (1 : Int32))])) (fun t k => XS.goto X3.here hx rfl (pc0 := 27) (pc' := 31) rfl (hb hby at_27) (by decide) (by decide) k) ?_
    exact own_retN X3 hx hlk (t := .boolean) hrt (by simp) (hb hby at_31) (Nat.le_of_ble_eq_true rfl) (Nat.le_of_ble_eq_true rfl) (⟨rfl, N3⟩)
  · refine own_go (b := T3.setTop (mkF m 30 #[.val (.int pr), .val (.int ((pr &&& (2147483647 : Int32)) % (21 : Int32))), .val (.ref (own_pick ad ((pr &&& (2147483647 : Int32)) % (21 : Int32)))), .val (.int (own_exp ((pr &&& (2147483647 : Int32)) % (21 : Int32))))] [])) (fun t k => XS.icmpYes X3.here hx rfl (pc0 := 23) (pc' := 30) rfl (hb hby at_23) rfl (feq hc4).2 (by decide) (by decide) k) ?_
    refine own_go (b := T3.setTop (mkF m 31 #[.val (.int pr), .val (.int ((pr &&& (2147483647 : Int32)) % (21 : Int32))), .val (.ref (own_pick ad ((pr &&& (2147483647 : Int32)) % (21 : Int32)))), .val (.int (own_exp ((pr &&& (2147483647 : Int32)) % (21 : Int32))))] [(.int (0 : Int32))])) (fun t k => XS.iconst X3.here hx rfl (hb hby at_30) k) ?_
    exact own_retN X3 hx hlk (t := .boolean) hrt (by simp) (hb hby at_31) (Nat.le_of_ble_eq_true rfl) (Nat.le_of_ble_eq_true rfl) (absurd (own_law hinj pr) hc4)
set_option maxRecDepth 65536 in
set_option maxHeartbeats 40000000 in
theorem comes_1 {Post : Tables → Env → Array Value → State → Outcome → State → Prop} (hpost : ∀ tb e args s v u, (limb_1_1.after args s (.returned v) u = true ∧ limb_1_2.after args s (.returned v) u = true ∧ True) → FrameEnd s (.returned v) u (Jvm.fieldLocs frame_1_writes args s ++ Jvm.arrayLocs frame_1_arrays args s ++ Jvm.staticLocs frame_1_statics s) 0 0 → Post tb e args s (.returned v) u) :
    ArmFor flags0 classFile x code maxLocals ret World_1 tables_1 room_1 Calls_1 rest_1 Pre_1 Post := by
  intro l hfl _ _ p e ha hc hk s m args below hf hA hF happ hP
  obtain ⟨hcalls, hrest, hpre⟩ := hP
  obtain ⟨-, -, -, hnamed, -, -, -, hat⟩ := (Spec.applies_iff hf).mp happ
  obtain ⟨hg, hn⟩ := and_e (Cond.before_iff.mp (show (Jvm.Cond.and given_1 narrow_1).before args s = true from hpre))
  obtain ⟨g1, g2⟩ := and_e hg
  obtain ⟨g3, g4⟩ := and_e hn
  obtain ⟨g5, g6⟩ := and_e g4
  obtain ⟨g7, g8⟩ := and_e g6
  obtain ⟨g9, g10⟩ := and_e g8
  obtain ⟨g11, g12⟩ := and_e g10
  obtain ⟨g13, g14⟩ := and_e g12
  obtain ⟨g15, g16⟩ := and_e g14
  obtain ⟨g17, g18⟩ := and_e g16
  obtain ⟨g19, g20⟩ := and_e g18
  obtain ⟨g21, g22⟩ := and_e g20
  obtain ⟨g23, g24⟩ := and_e g22
  obtain ⟨g25, g26⟩ := and_e g24
  obtain ⟨g27, g28⟩ := and_e g26
  obtain ⟨g29, g30⟩ := and_e g28
  obtain ⟨g31, g32⟩ := and_e g30
  obtain ⟨g33, g34⟩ := and_e g32
  obtain ⟨g35, g36⟩ := and_e g34
  obtain ⟨g37, g38⟩ := and_e g36
  obtain ⟨g39, g40⟩ := and_e g38
  obtain ⟨g41, g42⟩ := and_e g40
  obtain ⟨g43, g44⟩ := and_e g42
  obtain ⟨g45, g46⟩ := and_e g44
  obtain ⟨g47, g48⟩ := and_e g46
  obtain ⟨g49, g50⟩ := and_e g48
  obtain ⟨g51, g52⟩ := and_e g50
  obtain ⟨g53, g54⟩ := and_e g52
  obtain ⟨g55, g56⟩ := and_e g54
  obtain ⟨g57, g58⟩ := and_e g56
  obtain ⟨g59, g60⟩ := and_e g58
  obtain ⟨g61, g62⟩ := and_e g60
  obtain ⟨g63, g64⟩ := and_e g62
  obtain ⟨g65, g66⟩ := and_e g64
  obtain ⟨g67, g68⟩ := and_e g66
  obtain ⟨g69, g70⟩ := and_e g68
  obtain ⟨g71, g72⟩ := and_e g70
  obtain ⟨g73, g74⟩ := and_e g72
  obtain ⟨g75, g76⟩ := and_e g74
  obtain ⟨g77, g78⟩ := and_e g76
  obtain ⟨g79, g80⟩ := and_e g78
  obtain ⟨g81, g82⟩ := and_e g80
  obtain ⟨g83, g84⟩ := and_e g82
  obtain ⟨w0, rfl⟩ : ∃ w0 : Value, args = #[w0] := by
    have hs : args.size = 1 := by simpa [Cond.value, given_1] using g1
    obtain ⟨L⟩ := args
    match L, hs with
    | [w0], _ => exact ⟨w0, rfl⟩
  have hw := fun d (hd : d ∈ tables_1) => atoms_spec (ws := Jvm.Cond.code x code maxLocals ret :: tables_1) hat d (List.mem_cons_of_mem _ hd)
  have hfit : Fit s := fun {y c} hc i hi => by
    obtain ⟨ha, rfl⟩ := Array.getElem?_eq_some_iff.mp hc
    have q := List.all_eq_true.mp ((Array.all_eq_true_iff_forall_mem.mp hF) _ (Array.getElem_mem ha)) i (List.mem_range.mpr hi)
    simpa [Array.getElem?_eq_getElem hi] using q
  obtain ⟨i0, ei0⟩ := is_v g2
  obtain rfl : w0 = (.int i0) := Option.some.inj ei0
  obtain ⟨a_CLASS_EXPRESSION, ev_CLASS_EXPRESSION⟩ := exa_v g3
  have S_CLASS_EXPRESSION := Sta.start ev_CLASS_EXPRESSION (Or.inr ⟨(hw _ (List.mem_of_getElem? (i := 6) rfl)), (hw _ (List.mem_of_getElem? (i := 7) rfl))⟩)
  have E_CLASS_EXPRESSION := Exa.start ev_CLASS_EXPRESSION g3
  obtain ⟨a_OBJECT_PROPERTY_EXPRESSION, ev_OBJECT_PROPERTY_EXPRESSION⟩ := exa_v g5
  have S_OBJECT_PROPERTY_EXPRESSION := Sta.start ev_OBJECT_PROPERTY_EXPRESSION (Or.inr ⟨(hw _ (List.mem_of_getElem? (i := 6) rfl)), (hw _ (List.mem_of_getElem? (i := 17) rfl))⟩)
  have E_OBJECT_PROPERTY_EXPRESSION := Exa.start ev_OBJECT_PROPERTY_EXPRESSION g5
  obtain ⟨a_OBJECT_PROPERTY, ev_OBJECT_PROPERTY⟩ := exa_v g11
  have S_OBJECT_PROPERTY := Sta.start ev_OBJECT_PROPERTY (Or.inr ⟨(hw _ (List.mem_of_getElem? (i := 6) rfl)), (hw _ (List.mem_of_getElem? (i := 19) rfl))⟩)
  have E_OBJECT_PROPERTY := Exa.start ev_OBJECT_PROPERTY g11
  obtain ⟨a_DATA_PROPERTY, ev_DATA_PROPERTY⟩ := exa_v g15
  have S_DATA_PROPERTY := Sta.start ev_DATA_PROPERTY (Or.inr ⟨(hw _ (List.mem_of_getElem? (i := 6) rfl)), (hw _ (List.mem_of_getElem? (i := 21) rfl))⟩)
  have E_DATA_PROPERTY := Exa.start ev_DATA_PROPERTY g15
  obtain ⟨a_DATA_PROPERTIES_AND_RANGE, ev_DATA_PROPERTIES_AND_RANGE⟩ := exa_v g19
  have S_DATA_PROPERTIES_AND_RANGE := Sta.start ev_DATA_PROPERTIES_AND_RANGE (Or.inr ⟨(hw _ (List.mem_of_getElem? (i := 6) rfl)), (hw _ (List.mem_of_getElem? (i := 23) rfl))⟩)
  have E_DATA_PROPERTIES_AND_RANGE := Exa.start ev_DATA_PROPERTIES_AND_RANGE g19
  obtain ⟨a_OBJECT_PROPERTY_LIST, ev_OBJECT_PROPERTY_LIST⟩ := exa_v g23
  have S_OBJECT_PROPERTY_LIST := Sta.start ev_OBJECT_PROPERTY_LIST (Or.inr ⟨(hw _ (List.mem_of_getElem? (i := 6) rfl)), (hw _ (List.mem_of_getElem? (i := 27) rfl))⟩)
  have E_OBJECT_PROPERTY_LIST := Exa.start ev_OBJECT_PROPERTY_LIST g23
  obtain ⟨a_LITERAL, ev_LITERAL⟩ := exa_v g27
  have S_LITERAL := Sta.start ev_LITERAL (Or.inr ⟨(hw _ (List.mem_of_getElem? (i := 6) rfl)), (hw _ (List.mem_of_getElem? (i := 30) rfl))⟩)
  have E_LITERAL := Exa.start ev_LITERAL g27
  obtain ⟨a_DATA_RANGE, ev_DATA_RANGE⟩ := exa_v g31
  have S_DATA_RANGE := Sta.start ev_DATA_RANGE (Or.inr ⟨(hw _ (List.mem_of_getElem? (i := 6) rfl)), (hw _ (List.mem_of_getElem? (i := 32) rfl))⟩)
  have E_DATA_RANGE := Exa.start ev_DATA_RANGE g31
  obtain ⟨a_NAMED_INDIVIDUAL, ev_NAMED_INDIVIDUAL⟩ := exa_v g35
  have S_NAMED_INDIVIDUAL := Sta.start ev_NAMED_INDIVIDUAL (Or.inr ⟨(hw _ (List.mem_of_getElem? (i := 6) rfl)), (hw _ (List.mem_of_getElem? (i := 35) rfl))⟩)
  have E_NAMED_INDIVIDUAL := Exa.start ev_NAMED_INDIVIDUAL g35
  obtain ⟨a_DATATYPE, ev_DATATYPE⟩ := exa_v g39
  have S_DATATYPE := Sta.start ev_DATATYPE (Or.inr ⟨(hw _ (List.mem_of_getElem? (i := 6) rfl)), (hw _ (List.mem_of_getElem? (i := 37) rfl))⟩)
  have E_DATATYPE := Exa.start ev_DATATYPE g39
  obtain ⟨a_CLASS, ev_CLASS⟩ := exa_v g43
  have S_CLASS := Sta.start ev_CLASS (Or.inr ⟨(hw _ (List.mem_of_getElem? (i := 6) rfl)), (hw _ (List.mem_of_getElem? (i := 39) rfl))⟩)
  have E_CLASS := Exa.start ev_CLASS g43
  obtain ⟨a_DATA_PROPERTY_LIST, ev_DATA_PROPERTY_LIST⟩ := exa_v g47
  have S_DATA_PROPERTY_LIST := Sta.start ev_DATA_PROPERTY_LIST (Or.inr ⟨(hw _ (List.mem_of_getElem? (i := 6) rfl)), (hw _ (List.mem_of_getElem? (i := 41) rfl))⟩)
  have E_DATA_PROPERTY_LIST := Exa.start ev_DATA_PROPERTY_LIST g47
  obtain ⟨a_FACET_RESTRICTION, ev_FACET_RESTRICTION⟩ := exa_v g51
  have S_FACET_RESTRICTION := Sta.start ev_FACET_RESTRICTION (Or.inr ⟨(hw _ (List.mem_of_getElem? (i := 6) rfl)), (hw _ (List.mem_of_getElem? (i := 43) rfl))⟩)
  have E_FACET_RESTRICTION := Exa.start ev_FACET_RESTRICTION g51
  obtain ⟨a_INDIVIDUAL, ev_INDIVIDUAL⟩ := exa_v g55
  have S_INDIVIDUAL := Sta.start ev_INDIVIDUAL (Or.inr ⟨(hw _ (List.mem_of_getElem? (i := 6) rfl)), (hw _ (List.mem_of_getElem? (i := 45) rfl))⟩)
  have E_INDIVIDUAL := Exa.start ev_INDIVIDUAL g55
  obtain ⟨a_IRI, ev_IRI⟩ := exa_v g59
  have S_IRI := Sta.start ev_IRI (Or.inr ⟨(hw _ (List.mem_of_getElem? (i := 6) rfl)), (hw _ (List.mem_of_getElem? (i := 47) rfl))⟩)
  have E_IRI := Exa.start ev_IRI g59
  obtain ⟨a_ANNOTATION_PROPERTY, ev_ANNOTATION_PROPERTY⟩ := exa_v g63
  have S_ANNOTATION_PROPERTY := Sta.start ev_ANNOTATION_PROPERTY (Or.inr ⟨(hw _ (List.mem_of_getElem? (i := 6) rfl)), (hw _ (List.mem_of_getElem? (i := 49) rfl))⟩)
  have E_ANNOTATION_PROPERTY := Exa.start ev_ANNOTATION_PROPERTY g63
  obtain ⟨a_ANNOTATION_SUBJECT, ev_ANNOTATION_SUBJECT⟩ := exa_v g67
  have S_ANNOTATION_SUBJECT := Sta.start ev_ANNOTATION_SUBJECT (Or.inr ⟨(hw _ (List.mem_of_getElem? (i := 6) rfl)), (hw _ (List.mem_of_getElem? (i := 51) rfl))⟩)
  have E_ANNOTATION_SUBJECT := Exa.start ev_ANNOTATION_SUBJECT g67
  obtain ⟨a_ENTITY, ev_ENTITY⟩ := exa_v g71
  have S_ENTITY := Sta.start ev_ENTITY (Or.inr ⟨(hw _ (List.mem_of_getElem? (i := 6) rfl)), (hw _ (List.mem_of_getElem? (i := 53) rfl))⟩)
  have E_ENTITY := Exa.start ev_ENTITY g71
  obtain ⟨a_SUB_OBJECT_PROPERTY, ev_SUB_OBJECT_PROPERTY⟩ := exa_v g75
  have S_SUB_OBJECT_PROPERTY := Sta.start ev_SUB_OBJECT_PROPERTY (Or.inr ⟨(hw _ (List.mem_of_getElem? (i := 6) rfl)), (hw _ (List.mem_of_getElem? (i := 55) rfl))⟩)
  have E_SUB_OBJECT_PROPERTY := Exa.start ev_SUB_OBJECT_PROPERTY g75
  obtain ⟨a_NON_NEGATIVE_INTEGER, ev_NON_NEGATIVE_INTEGER⟩ := exa_v g79
  have S_NON_NEGATIVE_INTEGER := Sta.start ev_NON_NEGATIVE_INTEGER (Or.inr ⟨(hw _ (List.mem_of_getElem? (i := 6) rfl)), (hw _ (List.mem_of_getElem? (i := 57) rfl))⟩)
  have E_NON_NEGATIVE_INTEGER := Exa.start ev_NON_NEGATIVE_INTEGER g79
  obtain ⟨a_ANNOTATION_VALUE, ev_ANNOTATION_VALUE⟩ := exa_v g83
  have S_ANNOTATION_VALUE := Sta.start ev_ANNOTATION_VALUE (Or.inr ⟨(hw _ (List.mem_of_getElem? (i := 6) rfl)), (hw _ (List.mem_of_getElem? (i := 59) rfl))⟩)
  have E_ANNOTATION_VALUE := Exa.start ev_ANNOTATION_VALUE g83
  have O_CLASS_EXPRESSION_ordinal := own_fld ev_CLASS_EXPRESSION g7
  have O_OBJECT_PROPERTY_EXPRESSION_ordinal := own_fld ev_OBJECT_PROPERTY_EXPRESSION g9
  have O_OBJECT_PROPERTY_ordinal := own_fld ev_OBJECT_PROPERTY g13
  have O_DATA_PROPERTY_ordinal := own_fld ev_DATA_PROPERTY g17
  have O_DATA_PROPERTIES_AND_RANGE_ordinal := own_fld ev_DATA_PROPERTIES_AND_RANGE g21
  have O_OBJECT_PROPERTY_LIST_ordinal := own_fld ev_OBJECT_PROPERTY_LIST g25
  have O_LITERAL_ordinal := own_fld ev_LITERAL g29
  have O_DATA_RANGE_ordinal := own_fld ev_DATA_RANGE g33
  have O_NAMED_INDIVIDUAL_ordinal := own_fld ev_NAMED_INDIVIDUAL g37
  have O_DATATYPE_ordinal := own_fld ev_DATATYPE g41
  have O_CLASS_ordinal := own_fld ev_CLASS g45
  have O_DATA_PROPERTY_LIST_ordinal := own_fld ev_DATA_PROPERTY_LIST g49
  have O_FACET_RESTRICTION_ordinal := own_fld ev_FACET_RESTRICTION g53
  have O_INDIVIDUAL_ordinal := own_fld ev_INDIVIDUAL g57
  have O_IRI_ordinal := own_fld ev_IRI g61
  have O_ANNOTATION_PROPERTY_ordinal := own_fld ev_ANNOTATION_PROPERTY g65
  have O_ANNOTATION_SUBJECT_ordinal := own_fld ev_ANNOTATION_SUBJECT g69
  have O_ENTITY_ordinal := own_fld ev_ENTITY g73
  have O_SUB_OBJECT_PROPERTY_ordinal := own_fld ev_SUB_OBJECT_PROPERTY g77
  have O_NON_NEGATIVE_INTEGER_ordinal := own_fld ev_NON_NEGATIVE_INTEGER g81
  have O_ANNOTATION_VALUE_ordinal := own_fld ev_ANNOTATION_VALUE g84
  obtain ⟨ad, had⟩ : ∃ ad : Nat → Addr, ad = fun k => [a_CLASS_EXPRESSION, a_CLASS, a_OBJECT_PROPERTY_EXPRESSION, a_OBJECT_PROPERTY, a_SUB_OBJECT_PROPERTY, a_DATA_PROPERTY, a_DATA_PROPERTIES_AND_RANGE, a_DATA_RANGE, a_DATATYPE, a_INDIVIDUAL, a_NAMED_INDIVIDUAL, a_LITERAL, a_NON_NEGATIVE_INTEGER, a_OBJECT_PROPERTY_LIST, a_DATA_PROPERTY_LIST, a_FACET_RESTRICTION, a_ANNOTATION_PROPERTY, a_ANNOTATION_SUBJECT, a_ANNOTATION_VALUE, a_IRI, a_ENTITY].getD k 0 := ⟨_, rfl⟩
  have had0 : ad 0 = a_CLASS_EXPRESSION := by rw [had]; rfl
  have had1 : ad 1 = a_CLASS := by rw [had]; rfl
  have had2 : ad 2 = a_OBJECT_PROPERTY_EXPRESSION := by rw [had]; rfl
  have had3 : ad 3 = a_OBJECT_PROPERTY := by rw [had]; rfl
  have had4 : ad 4 = a_SUB_OBJECT_PROPERTY := by rw [had]; rfl
  have had5 : ad 5 = a_DATA_PROPERTY := by rw [had]; rfl
  have had6 : ad 6 = a_DATA_PROPERTIES_AND_RANGE := by rw [had]; rfl
  have had7 : ad 7 = a_DATA_RANGE := by rw [had]; rfl
  have had8 : ad 8 = a_DATATYPE := by rw [had]; rfl
  have had9 : ad 9 = a_INDIVIDUAL := by rw [had]; rfl
  have had10 : ad 10 = a_NAMED_INDIVIDUAL := by rw [had]; rfl
  have had11 : ad 11 = a_LITERAL := by rw [had]; rfl
  have had12 : ad 12 = a_NON_NEGATIVE_INTEGER := by rw [had]; rfl
  have had13 : ad 13 = a_OBJECT_PROPERTY_LIST := by rw [had]; rfl
  have had14 : ad 14 = a_DATA_PROPERTY_LIST := by rw [had]; rfl
  have had15 : ad 15 = a_FACET_RESTRICTION := by rw [had]; rfl
  have had16 : ad 16 = a_ANNOTATION_PROPERTY := by rw [had]; rfl
  have had17 : ad 17 = a_ANNOTATION_SUBJECT := by rw [had]; rfl
  have had18 : ad 18 = a_ANNOTATION_VALUE := by rw [had]; rfl
  have had19 : ad 19 = a_IRI := by rw [had]; rfl
  have had20 : ad 20 = a_ENTITY := by rw [had]; rfl
  rw [← had0] at S_CLASS_EXPRESSION E_CLASS_EXPRESSION
  rw [← had1] at S_CLASS E_CLASS
  rw [← had2] at S_OBJECT_PROPERTY_EXPRESSION E_OBJECT_PROPERTY_EXPRESSION
  rw [← had3] at S_OBJECT_PROPERTY E_OBJECT_PROPERTY
  rw [← had4] at S_SUB_OBJECT_PROPERTY E_SUB_OBJECT_PROPERTY
  rw [← had5] at S_DATA_PROPERTY E_DATA_PROPERTY
  rw [← had6] at S_DATA_PROPERTIES_AND_RANGE E_DATA_PROPERTIES_AND_RANGE
  rw [← had7] at S_DATA_RANGE E_DATA_RANGE
  rw [← had8] at S_DATATYPE E_DATATYPE
  rw [← had9] at S_INDIVIDUAL E_INDIVIDUAL
  rw [← had10] at S_NAMED_INDIVIDUAL E_NAMED_INDIVIDUAL
  rw [← had11] at S_LITERAL E_LITERAL
  rw [← had12] at S_NON_NEGATIVE_INTEGER E_NON_NEGATIVE_INTEGER
  rw [← had13] at S_OBJECT_PROPERTY_LIST E_OBJECT_PROPERTY_LIST
  rw [← had14] at S_DATA_PROPERTY_LIST E_DATA_PROPERTY_LIST
  rw [← had15] at S_FACET_RESTRICTION E_FACET_RESTRICTION
  rw [← had16] at S_ANNOTATION_PROPERTY E_ANNOTATION_PROPERTY
  rw [← had17] at S_ANNOTATION_SUBJECT E_ANNOTATION_SUBJECT
  rw [← had18] at S_ANNOTATION_VALUE E_ANNOTATION_VALUE
  rw [← had19] at S_IRI E_IRI
  rw [← had20] at S_ENTITY E_ENTITY
  rw [← had0] at O_CLASS_EXPRESSION_ordinal
  rw [← had1] at O_CLASS_ordinal
  rw [← had2] at O_OBJECT_PROPERTY_EXPRESSION_ordinal
  rw [← had3] at O_OBJECT_PROPERTY_ordinal
  rw [← had4] at O_SUB_OBJECT_PROPERTY_ordinal
  rw [← had5] at O_DATA_PROPERTY_ordinal
  rw [← had6] at O_DATA_PROPERTIES_AND_RANGE_ordinal
  rw [← had7] at O_DATA_RANGE_ordinal
  rw [← had8] at O_DATATYPE_ordinal
  rw [← had9] at O_INDIVIDUAL_ordinal
  rw [← had10] at O_NAMED_INDIVIDUAL_ordinal
  rw [← had11] at O_LITERAL_ordinal
  rw [← had12] at O_NON_NEGATIVE_INTEGER_ordinal
  rw [← had13] at O_OBJECT_PROPERTY_LIST_ordinal
  rw [← had14] at O_DATA_PROPERTY_LIST_ordinal
  rw [← had15] at O_FACET_RESTRICTION_ordinal
  rw [← had16] at O_ANNOTATION_PROPERTY_ordinal
  rw [← had17] at O_ANNOTATION_SUBJECT_ordinal
  rw [← had18] at O_ANNOTATION_VALUE_ordinal
  rw [← had19] at O_IRI_ordinal
  rw [← had20] at O_ENTITY_ordinal
  have hF0 : ∀ i, i < 21 → Fld s s.heap (ad i) "java/lang/Enum" "ordinal" "I" (.int i.toInt32) := by
    intro j hj
    match j, hj with
    | 0, _ => exact O_CLASS_EXPRESSION_ordinal
    | 1, _ => exact O_CLASS_ordinal
    | 2, _ => exact O_OBJECT_PROPERTY_EXPRESSION_ordinal
    | 3, _ => exact O_OBJECT_PROPERTY_ordinal
    | 4, _ => exact O_SUB_OBJECT_PROPERTY_ordinal
    | 5, _ => exact O_DATA_PROPERTY_ordinal
    | 6, _ => exact O_DATA_PROPERTIES_AND_RANGE_ordinal
    | 7, _ => exact O_DATA_RANGE_ordinal
    | 8, _ => exact O_DATATYPE_ordinal
    | 9, _ => exact O_INDIVIDUAL_ordinal
    | 10, _ => exact O_NAMED_INDIVIDUAL_ordinal
    | 11, _ => exact O_LITERAL_ordinal
    | 12, _ => exact O_NON_NEGATIVE_INTEGER_ordinal
    | 13, _ => exact O_OBJECT_PROPERTY_LIST_ordinal
    | 14, _ => exact O_DATA_PROPERTY_LIST_ordinal
    | 15, _ => exact O_FACET_RESTRICTION_ordinal
    | 16, _ => exact O_ANNOTATION_PROPERTY_ordinal
    | 17, _ => exact O_ANNOTATION_SUBJECT_ordinal
    | 18, _ => exact O_ANNOTATION_VALUE_ordinal
    | 19, _ => exact O_IRI_ordinal
    | 20, _ => exact O_ENTITY_ordinal
    | j + 21, h => omega
  have hinj := own_enum (n := 21) (by decide) hF0
  obtain ⟨n, o, h1, h2, h3, _, L, rfl, ⟨rfl, N⟩, hq⟩ := rm0 l s _ hw tables_1 i0 ad s.heap s.heap.size (Nat.le_refl _) S_CLASS_EXPRESSION S_CLASS S_OBJECT_PROPERTY_EXPRESSION S_OBJECT_PROPERTY S_SUB_OBJECT_PROPERTY S_DATA_PROPERTY S_DATA_PROPERTIES_AND_RANGE S_DATA_RANGE S_DATATYPE S_INDIVIDUAL S_NAMED_INDIVIDUAL S_LITERAL S_NON_NEGATIVE_INTEGER S_OBJECT_PROPERTY_LIST S_DATA_PROPERTY_LIST S_FACET_RESTRICTION S_ANNOTATION_PROPERTY S_ANNOTATION_SUBJECT S_ANNOTATION_VALUE S_IRI S_ENTITY (fun i => own_pick_all (P := fun a => Exa s s.heap a _) i E_CLASS_EXPRESSION E_CLASS E_OBJECT_PROPERTY_EXPRESSION E_OBJECT_PROPERTY E_SUB_OBJECT_PROPERTY E_DATA_PROPERTY E_DATA_PROPERTIES_AND_RANGE E_DATA_RANGE E_DATATYPE E_INDIVIDUAL E_NAMED_INDIVIDUAL E_LITERAL E_NON_NEGATIVE_INTEGER E_OBJECT_PROPERTY_LIST E_DATA_PROPERTY_LIST E_FACET_RESTRICTION E_ANNOTATION_PROPERTY E_ANNOTATION_SUBJECT E_ANNOTATION_VALUE E_IRI E_ENTITY) hinj p e ha hc hk s m _ below hf ((Spec.applies_iff_loose hf).mp happ).1 ⟨rfl, State.Warmed39.refl s, rfl⟩ trivial
  refine ⟨n, _, h1, h2, h3, hpost _ _ _ _ _ _ ⟨Cond.after_iff.mpr rfl, Cond.after_iff.mpr (eq_i res_at (Term.int_eval (1)) rfl), trivial⟩ ⟨hq.1, hq.2.1, (hq.2.2.sift fun y hy => Or.inr (N y hy)).mono (by decide) (by decide)⟩⟩
theorem main_1_1 : Claimed_1_1 := comes_1 fun _ _ _ _ _ _ h hF => ⟨h.1, hF⟩
theorem main_1_2 : Claimed_1_2 := comes_1 fun _ _ _ _ _ _ h hF => ⟨h.2.1, hF⟩
end Jvm.Pilot.@@N@@
namespace Jvm.Pilot.@@N@@
open Jvm Jvm.ClassFile Sem Op Lib Jvm.Free Jvm.Stand Jvm.Pilot.@@N@@.Jvm.D
/-! MADE BY PROGRAM (witnessworld.py) out of the Statement's table words and the real class files: 12 classes; the members and pool entries that the words name. The judged class is class 1, her method 1. -/
namespace start1
open Jvm.ClassFile
def u (s : String) : CpInfo := .utf8 (stringToUtf16 s)
/-- a pool by its gaps: so many unusable entries, then the entry; so many at the end -/
def gap : Nat → List CpInfo → List CpInfo
  | 0, r => r
  | n + 1, r => .unusable :: gap n r
def poolList (es : List (Nat × CpInfo)) (last : Nat) : List CpInfo := es.foldr (fun e r => gap e.1 (e.2 :: r)) (gap last [])
def pool (es : List (Nat × CpInfo)) (last : Nat) : Array CpInfo := ⟨poolList es last⟩
def fileOf (pool : Array CpInfo) (this : Nat) (attrs : Array Attribute := #[]) (ms : Array MethodInfo := #[]) (fl : Nat := 33) (sup : Nat := 0) (ifs : Array Nat := #[]) (fds : Array FieldInfo := #[]) : ClassFile where
  minorVersion := 0
  majorVersion := 65
  constantPool := pool
  accessFlags := fl
  thisClass := this
  superClass := sup
  interfaces := ifs
  fields := fds
  methods := ms
  attributes := attrs
def plain (name : String) (sup : Option ClassId) : Class where
  name := name
  kind := .ordinary
  loader := none
  accessFlags := 33
  super := sup
  interfaces := #[]
  cf := none
  fields := #[]
  methods := #[]
  instanceTypes := #[]
  staticTypes := #[]
  resolved := #[]
  callSites := []
  init := .initialized
  statics := none
  mirror := none

def pool0 : Array CpInfo := pool [(5, u "<init>"), (0, u "()V"), (1, .class_ 10), (1, u "java/lang/Object")] 113

def k0m0 : Method := { name := "<init>", desc := "()V", sig := { parameters := [], returnType := none }, accessFlags := 1, code := none }
/-- java/lang/Object -/
def k0 : Class := { plain "java/lang/Object" none with
  accessFlags := 33
  interfaces := #[]
  cf := some (fileOf pool0 8 #[] #[{ accessFlags := 1, nameIndex := 5, descriptorIndex := 6, attributes := #[] }] 33 0 #[] #[])
  fields := #[]
  methods := #[k0m0]
  instanceTypes := #[]
  staticTypes := #[]
  resolved := Array.replicate 124 none
  statics := none }

def pool1 : Array CpInfo := pool [(2, .class_ 4), (1, u "java/lang/Object"), (0, u "<init>"), (0, u "()V"), (0, .integer 2147483647), (0, .methodref 9 10), (0, .class_ 11), (0, .nameAndType 12 13), (0, u "com/example/axiomloom/axiomloom/owl/ElementIsPropertyPinLaw"), (0, u "pick"), (0, u "(I)Lcom/example/axiomloom/axiomloom/owl/Construct$Element;"), (0, .methodref 9 15), (0, .nameAndType 16 17), (0, u "expectedFor"), (0, u "(I)Z"), (0, .methodref 19 20), (0, .class_ 21), (0, .nameAndType 22 23), (0, u "com/example/axiomloom/axiomloom/owl/Construct$Element"), (0, u "isProperty"), (0, u "()Z"), (0, .fieldref 19 25), (0, .nameAndType 26 27), (0, u "CLASS_EXPRESSION"), (0, u "Lcom/example/axiomloom/axiomloom/owl/Construct$Element;"), (0, .fieldref 19 29), (0, .nameAndType 30 27), (0, u "CLASS"), (0, .fieldref 19 32), (0, .nameAndType 33 27), (0, u "OBJECT_PROPERTY_EXPRESSION"), (0, .fieldref 19 35), (0, .nameAndType 36 27), (0, u "OBJECT_PROPERTY"), (0, .fieldref 19 38), (0, .nameAndType 39 27), (0, u "SUB_OBJECT_PROPERTY"), (0, .fieldref 19 41), (0, .nameAndType 42 27), (0, u "DATA_PROPERTY"), (0, .fieldref 19 44), (0, .nameAndType 45 27), (0, u "DATA_PROPERTIES_AND_RANGE"), (0, .fieldref 19 47), (0, .nameAndType 48 27), (0, u "DATA_RANGE"), (0, .fieldref 19 50), (0, .nameAndType 51 27), (0, u "DATATYPE"), (0, .fieldref 19 53), (0, .nameAndType 54 27), (0, u "INDIVIDUAL"), (0, .fieldref 19 56), (0, .nameAndType 57 27), (0, u "NAMED_INDIVIDUAL"), (0, .fieldref 19 59), (0, .nameAndType 60 27), (0, u "LITERAL"), (0, .fieldref 19 62), (0, .nameAndType 63 27), (0, u "NON_NEGATIVE_INTEGER"), (0, .fieldref 19 65), (0, .nameAndType 66 27), (0, u "OBJECT_PROPERTY_LIST"), (0, .fieldref 19 68), (0, .nameAndType 69 27), (0, u "DATA_PROPERTY_LIST"), (0, .fieldref 19 71), (0, .nameAndType 72 27), (0, u "FACET_RESTRICTION"), (0, .fieldref 19 74), (0, .nameAndType 75 27), (0, u "ANNOTATION_PROPERTY"), (0, .fieldref 19 77), (0, .nameAndType 78 27), (0, u "ANNOTATION_SUBJECT"), (0, .fieldref 19 80), (0, .nameAndType 81 27), (0, u "ANNOTATION_VALUE"), (0, .fieldref 19 83), (0, .nameAndType 84 27), (0, u "IRI"), (0, .fieldref 19 86), (0, .nameAndType 87 27), (0, u "ENTITY"), (2, u "law")] 7

def k1m0 : Method := { name := "<init>", desc := "()V", sig := { parameters := [], returnType := none }, accessFlags := 2, code := none }
def k1c1 : Code := { maxStack := 2, maxLocals := 4, code := code, exceptionTable := #[], attributes := #[] }
def k1m1 : Method := { name := "law", desc := "(I)Z", sig := { parameters := [.int], returnType := some .boolean }, accessFlags := 9, code := some k1c1 }
def k1c2 : Code := { maxStack := 2, maxLocals := 1, code := method_3_code, exceptionTable := #[], attributes := #[] }
def k1m2 : Method := { name := "expectedFor", desc := "(I)Z", sig := { parameters := [.int], returnType := some .boolean }, accessFlags := 10, code := some k1c2 }
def k1c3 : Code := { maxStack := 2, maxLocals := 1, code := method_4_code, exceptionTable := #[], attributes := #[] }
def k1m3 : Method := { name := "pick", desc := "(I)Lcom/example/axiomloom/axiomloom/owl/Construct$Element;", sig := { parameters := [.int], returnType := some (.object "com/example/axiomloom/axiomloom/owl/Construct$Element") }, accessFlags := 10, code := some k1c3 }
/-- com/example/axiomloom/axiomloom/owl/ElementIsPropertyPinLaw -/
def k1 : Class := { plain "com/example/axiomloom/axiomloom/owl/ElementIsPropertyPinLaw" (some 0) with
  accessFlags := 49
  interfaces := #[]
  cf := some (fileOf pool1 9 #[] #[{ accessFlags := 2, nameIndex := 5, descriptorIndex := 6, attributes := #[] }, { accessFlags := 9, nameIndex := 90, descriptorIndex := 17, attributes := #[] }, { accessFlags := 10, nameIndex := 16, descriptorIndex := 17, attributes := #[] }, { accessFlags := 10, nameIndex := 12, descriptorIndex := 13, attributes := #[] }] 49 2 #[] #[])
  fields := #[]
  methods := #[k1m0, k1m1, k1m2, k1m3]
  instanceTypes := #[]
  staticTypes := #[]
  resolved := Array.replicate 98 none
  statics := none }

def pool2 : Array CpInfo := pool [(1, .class_ 2), (0, u "java/lang/constant/Constable"), (0, .class_ 4), (0, u "java/lang/Object")] 6

/-- java/lang/constant/Constable -/
def k2 : Class := { plain "java/lang/constant/Constable" (some 0) with
  accessFlags := 1537
  interfaces := #[]
  cf := some (fileOf pool2 1 #[] #[] 1537 3 #[] #[])
  fields := #[]
  methods := #[]
  instanceTypes := #[]
  staticTypes := #[]
  resolved := Array.replicate 11 none
  statics := none }

def pool3 : Array CpInfo := pool [(1, .class_ 2), (0, u "java/lang/Comparable"), (0, .class_ 4), (0, u "java/lang/Object")] 7

/-- java/lang/Comparable -/
def k3 : Class := { plain "java/lang/Comparable" (some 0) with
  accessFlags := 1537
  interfaces := #[]
  cf := some (fileOf pool3 1 #[] #[] 1537 3 #[] #[])
  fields := #[]
  methods := #[]
  instanceTypes := #[]
  staticTypes := #[]
  resolved := Array.replicate 12 none
  statics := none }

def pool4 : Array CpInfo := pool [(1, .class_ 2), (0, u "java/io/Serializable"), (0, .class_ 4), (0, u "java/lang/Object")] 2

/-- java/io/Serializable -/
def k4 : Class := { plain "java/io/Serializable" (some 0) with
  accessFlags := 1537
  interfaces := #[]
  cf := some (fileOf pool4 1 #[] #[] 1537 3 #[] #[])
  fields := #[]
  methods := #[]
  instanceTypes := #[]
  staticTypes := #[]
  resolved := Array.replicate 7 none
  statics := none }

def pool5 : Array CpInfo := pool [(2, .class_ 4), (1, u "java/lang/Enum"), (0, u "name"), (0, u "Ljava/lang/String;"), (2, u "ordinal"), (0, u "I"), (1, .class_ 14), (1, u "java/lang/Object"), (4, u "hash"), (86, .class_ 108), (1, u "java/lang/Enum$EnumDesc"), (2, .class_ 112), (0, u "java/lang/constant/Constable"), (0, .class_ 114), (0, u "java/lang/Comparable"), (0, .class_ 116), (0, u "java/io/Serializable")] 87

/-- java/lang/Enum -/
def k5 : Class := { plain "java/lang/Enum" (some 0) with
  accessFlags := 1057
  interfaces := #[2, 3, 4]
  cf := some (fileOf pool5 2 #[.nestMembers #[106]] #[] 1057 12 #[111, 113, 115] #[{ accessFlags := 18, nameIndex := 5, descriptorIndex := 6, attributes := #[] }, { accessFlags := 18, nameIndex := 9, descriptorIndex := 10, attributes := #[] }, { accessFlags := 2, nameIndex := 19, descriptorIndex := 10, attributes := #[] }])
  fields := #[{ name := "name", type := (.object "java/lang/String"), accessFlags := 18, slot := 0, constantValue := 0 }, { name := "ordinal", type := .int, accessFlags := 18, slot := 1, constantValue := 0 }, { name := "hash", type := .int, accessFlags := 2, slot := 2, constantValue := 0 }]
  methods := #[]
  instanceTypes := #[(.object "java/lang/String"), .int, .int]
  staticTypes := #[]
  resolved := Array.replicate 204 none
  statics := none }

def pool6 : Array CpInfo := pool [(1, .class_ 2), (0, u "com/example/axiomloom/axiomloom/owl/Construct$Element"), (2, u "CLASS_EXPRESSION"), (0, u "Lcom/example/axiomloom/axiomloom/owl/Construct$Element;"), (2, u "CLASS"), (0, .fieldref 1 11), (0, .nameAndType 12 6), (0, u "OBJECT_PROPERTY_EXPRESSION"), (0, .fieldref 1 14), (0, .nameAndType 15 6), (0, u "OBJECT_PROPERTY"), (2, u "SUB_OBJECT_PROPERTY"), (0, .fieldref 1 20), (0, .nameAndType 21 6), (0, u "DATA_PROPERTY"), (0, .fieldref 1 23), (0, .nameAndType 24 6), (0, u "DATA_PROPERTIES_AND_RANGE"), (2, u "DATA_RANGE"), (2, u "DATATYPE"), (2, u "INDIVIDUAL"), (2, u "NAMED_INDIVIDUAL"), (2, u "LITERAL"), (2, u "NON_NEGATIVE_INTEGER"), (2, u "OBJECT_PROPERTY_LIST"), (2, u "DATA_PROPERTY_LIST"), (2, u "FACET_RESTRICTION"), (2, u "ANNOTATION_PROPERTY"), (2, u "ANNOTATION_SUBJECT"), (2, u "ANNOTATION_VALUE"), (2, u "IRI"), (2, u "ENTITY"), (2, u "$VALUES"), (0, u "[Lcom/example/axiomloom/axiomloom/owl/Construct$Element;"), (6, .class_ 79), (1, u "java/lang/Enum"), (8, u "plural"), (0, u "Ljava/lang/String;"), (68, u "isProperty"), (0, u "()Z"), (7, .class_ 168), (0, u "com/example/axiomloom/axiomloom/owl/Construct")] 2

def k6c0 : Code := { maxStack := 2, maxLocals := 1, code := prog_81_method_5_code, exceptionTable := #[], attributes := #[] }
def k6m0 : Method := { name := "isProperty", desc := "()Z", sig := { parameters := [], returnType := some .boolean }, accessFlags := 0, code := some k6c0 }
/-- com/example/axiomloom/axiomloom/owl/Construct$Element -/
def k6 : Class := { plain "com/example/axiomloom/axiomloom/owl/Construct$Element" (some 5) with
  accessFlags := 16432
  interfaces := #[]
  cf := some (fileOf pool6 1 #[.nestHost 167] #[{ accessFlags := 0, nameIndex := 158, descriptorIndex := 159, attributes := #[] }] 16432 77 #[] #[{ accessFlags := 16409, nameIndex := 5, descriptorIndex := 6, attributes := #[] }, { accessFlags := 16409, nameIndex := 9, descriptorIndex := 6, attributes := #[] }, { accessFlags := 16409, nameIndex := 12, descriptorIndex := 6, attributes := #[] }, { accessFlags := 16409, nameIndex := 15, descriptorIndex := 6, attributes := #[] }, { accessFlags := 16409, nameIndex := 18, descriptorIndex := 6, attributes := #[] }, { accessFlags := 16409, nameIndex := 21, descriptorIndex := 6, attributes := #[] }, { accessFlags := 16409, nameIndex := 24, descriptorIndex := 6, attributes := #[] }, { accessFlags := 16409, nameIndex := 27, descriptorIndex := 6, attributes := #[] }, { accessFlags := 16409, nameIndex := 30, descriptorIndex := 6, attributes := #[] }, { accessFlags := 16409, nameIndex := 33, descriptorIndex := 6, attributes := #[] }, { accessFlags := 16409, nameIndex := 36, descriptorIndex := 6, attributes := #[] }, { accessFlags := 16409, nameIndex := 39, descriptorIndex := 6, attributes := #[] }, { accessFlags := 16409, nameIndex := 42, descriptorIndex := 6, attributes := #[] }, { accessFlags := 16409, nameIndex := 45, descriptorIndex := 6, attributes := #[] }, { accessFlags := 16409, nameIndex := 48, descriptorIndex := 6, attributes := #[] }, { accessFlags := 16409, nameIndex := 51, descriptorIndex := 6, attributes := #[] }, { accessFlags := 16409, nameIndex := 54, descriptorIndex := 6, attributes := #[] }, { accessFlags := 16409, nameIndex := 57, descriptorIndex := 6, attributes := #[] }, { accessFlags := 16409, nameIndex := 60, descriptorIndex := 6, attributes := #[] }, { accessFlags := 16409, nameIndex := 63, descriptorIndex := 6, attributes := #[] }, { accessFlags := 16409, nameIndex := 66, descriptorIndex := 6, attributes := #[] }, { accessFlags := 18, nameIndex := 88, descriptorIndex := 89, attributes := #[] }, { accessFlags := 4122, nameIndex := 69, descriptorIndex := 70, attributes := #[] }])
  fields := #[{ name := "CLASS_EXPRESSION", type := (.object "com/example/axiomloom/axiomloom/owl/Construct$Element"), accessFlags := 16409, slot := 0, constantValue := 0 }, { name := "CLASS", type := (.object "com/example/axiomloom/axiomloom/owl/Construct$Element"), accessFlags := 16409, slot := 1, constantValue := 0 }, { name := "OBJECT_PROPERTY_EXPRESSION", type := (.object "com/example/axiomloom/axiomloom/owl/Construct$Element"), accessFlags := 16409, slot := 2, constantValue := 0 }, { name := "OBJECT_PROPERTY", type := (.object "com/example/axiomloom/axiomloom/owl/Construct$Element"), accessFlags := 16409, slot := 3, constantValue := 0 }, { name := "SUB_OBJECT_PROPERTY", type := (.object "com/example/axiomloom/axiomloom/owl/Construct$Element"), accessFlags := 16409, slot := 4, constantValue := 0 }, { name := "DATA_PROPERTY", type := (.object "com/example/axiomloom/axiomloom/owl/Construct$Element"), accessFlags := 16409, slot := 5, constantValue := 0 }, { name := "DATA_PROPERTIES_AND_RANGE", type := (.object "com/example/axiomloom/axiomloom/owl/Construct$Element"), accessFlags := 16409, slot := 6, constantValue := 0 }, { name := "DATA_RANGE", type := (.object "com/example/axiomloom/axiomloom/owl/Construct$Element"), accessFlags := 16409, slot := 7, constantValue := 0 }, { name := "DATATYPE", type := (.object "com/example/axiomloom/axiomloom/owl/Construct$Element"), accessFlags := 16409, slot := 8, constantValue := 0 }, { name := "INDIVIDUAL", type := (.object "com/example/axiomloom/axiomloom/owl/Construct$Element"), accessFlags := 16409, slot := 9, constantValue := 0 }, { name := "NAMED_INDIVIDUAL", type := (.object "com/example/axiomloom/axiomloom/owl/Construct$Element"), accessFlags := 16409, slot := 10, constantValue := 0 }, { name := "LITERAL", type := (.object "com/example/axiomloom/axiomloom/owl/Construct$Element"), accessFlags := 16409, slot := 11, constantValue := 0 }, { name := "NON_NEGATIVE_INTEGER", type := (.object "com/example/axiomloom/axiomloom/owl/Construct$Element"), accessFlags := 16409, slot := 12, constantValue := 0 }, { name := "OBJECT_PROPERTY_LIST", type := (.object "com/example/axiomloom/axiomloom/owl/Construct$Element"), accessFlags := 16409, slot := 13, constantValue := 0 }, { name := "DATA_PROPERTY_LIST", type := (.object "com/example/axiomloom/axiomloom/owl/Construct$Element"), accessFlags := 16409, slot := 14, constantValue := 0 }, { name := "FACET_RESTRICTION", type := (.object "com/example/axiomloom/axiomloom/owl/Construct$Element"), accessFlags := 16409, slot := 15, constantValue := 0 }, { name := "ANNOTATION_PROPERTY", type := (.object "com/example/axiomloom/axiomloom/owl/Construct$Element"), accessFlags := 16409, slot := 16, constantValue := 0 }, { name := "ANNOTATION_SUBJECT", type := (.object "com/example/axiomloom/axiomloom/owl/Construct$Element"), accessFlags := 16409, slot := 17, constantValue := 0 }, { name := "ANNOTATION_VALUE", type := (.object "com/example/axiomloom/axiomloom/owl/Construct$Element"), accessFlags := 16409, slot := 18, constantValue := 0 }, { name := "IRI", type := (.object "com/example/axiomloom/axiomloom/owl/Construct$Element"), accessFlags := 16409, slot := 19, constantValue := 0 }, { name := "ENTITY", type := (.object "com/example/axiomloom/axiomloom/owl/Construct$Element"), accessFlags := 16409, slot := 20, constantValue := 0 }, { name := "plural", type := (.object "java/lang/String"), accessFlags := 18, slot := 3, constantValue := 0 }, { name := "$VALUES", type := (.array (.object "com/example/axiomloom/axiomloom/owl/Construct$Element")), accessFlags := 4122, slot := 21, constantValue := 0 }]
  methods := #[k6m0]
  instanceTypes := #[(.object "java/lang/String"), .int, .int, (.object "java/lang/String")]
  staticTypes := #[(.object "com/example/axiomloom/axiomloom/owl/Construct$Element"), (.object "com/example/axiomloom/axiomloom/owl/Construct$Element"), (.object "com/example/axiomloom/axiomloom/owl/Construct$Element"), (.object "com/example/axiomloom/axiomloom/owl/Construct$Element"), (.object "com/example/axiomloom/axiomloom/owl/Construct$Element"), (.object "com/example/axiomloom/axiomloom/owl/Construct$Element"), (.object "com/example/axiomloom/axiomloom/owl/Construct$Element"), (.object "com/example/axiomloom/axiomloom/owl/Construct$Element"), (.object "com/example/axiomloom/axiomloom/owl/Construct$Element"), (.object "com/example/axiomloom/axiomloom/owl/Construct$Element"), (.object "com/example/axiomloom/axiomloom/owl/Construct$Element"), (.object "com/example/axiomloom/axiomloom/owl/Construct$Element"), (.object "com/example/axiomloom/axiomloom/owl/Construct$Element"), (.object "com/example/axiomloom/axiomloom/owl/Construct$Element"), (.object "com/example/axiomloom/axiomloom/owl/Construct$Element"), (.object "com/example/axiomloom/axiomloom/owl/Construct$Element"), (.object "com/example/axiomloom/axiomloom/owl/Construct$Element"), (.object "com/example/axiomloom/axiomloom/owl/Construct$Element"), (.object "com/example/axiomloom/axiomloom/owl/Construct$Element"), (.object "com/example/axiomloom/axiomloom/owl/Construct$Element"), (.object "com/example/axiomloom/axiomloom/owl/Construct$Element"), (.array (.object "com/example/axiomloom/axiomloom/owl/Construct$Element"))]
  resolved := Array.replicate 171 none
  statics := some 0 }

def pool7 : Array CpInfo := pool [(1, u "java/lang/Cloneable"), (0, .class_ 1), (0, u "java/lang/Object"), (0, .class_ 3)] 3

/-- java/lang/Cloneable -/
def k7 : Class := { plain "java/lang/Cloneable" (some 0) with
  accessFlags := 1537
  interfaces := #[]
  cf := some (fileOf pool7 2 #[] #[] 1537 4 #[] #[])
  fields := #[]
  methods := #[]
  instanceTypes := #[]
  staticTypes := #[]
  resolved := Array.replicate 8 none
  statics := none }

/-- the primitive byte -/
def k8 : Class := { plain "byte" none with kind := .primitive 'B', accessFlags := 0x411 }
/-- [B -/
def k9 : Class := { plain "[B" (some 0) with kind := .array 8 .byte, interfaces := #[7, 4], accessFlags := 1041 }

/-- the primitive int -/
def k10 : Class := { plain "int" none with kind := .primitive 'I', accessFlags := 0x411 }
/-- [I -/
def k11 : Class := { plain "[I" (some 0) with kind := .array 10 .int, interfaces := #[7, 4], accessFlags := 1041 }

def heap : Heap := #[{ cls := 6, slots := #[.ref 1, .ref 2, .ref 3, .ref 4, .ref 5, .ref 6, .ref 7, .ref 8, .ref 9, .ref 10, .ref 11, .ref 12, .ref 13, .ref 14, .ref 15, .ref 16, .ref 17, .ref 18, .ref 19, .ref 20, .ref 21, .null], vm := .statics 6 },
  { cls := 6, slots := #[.null, .int 0, .int 0, .null], vm := .none },
  { cls := 6, slots := #[.null, .int 1, .int 0, .null], vm := .none },
  { cls := 6, slots := #[.null, .int 2, .int 0, .null], vm := .none },
  { cls := 6, slots := #[.null, .int 3, .int 0, .null], vm := .none },
  { cls := 6, slots := #[.null, .int 4, .int 0, .null], vm := .none },
  { cls := 6, slots := #[.null, .int 5, .int 0, .null], vm := .none },
  { cls := 6, slots := #[.null, .int 6, .int 0, .null], vm := .none },
  { cls := 6, slots := #[.null, .int 7, .int 0, .null], vm := .none },
  { cls := 6, slots := #[.null, .int 8, .int 0, .null], vm := .none },
  { cls := 6, slots := #[.null, .int 9, .int 0, .null], vm := .none },
  { cls := 6, slots := #[.null, .int 10, .int 0, .null], vm := .none },
  { cls := 6, slots := #[.null, .int 11, .int 0, .null], vm := .none },
  { cls := 6, slots := #[.null, .int 12, .int 0, .null], vm := .none },
  { cls := 6, slots := #[.null, .int 13, .int 0, .null], vm := .none },
  { cls := 6, slots := #[.null, .int 14, .int 0, .null], vm := .none },
  { cls := 6, slots := #[.null, .int 15, .int 0, .null], vm := .none },
  { cls := 6, slots := #[.null, .int 16, .int 0, .null], vm := .none },
  { cls := 6, slots := #[.null, .int 17, .int 0, .null], vm := .none },
  { cls := 6, slots := #[.null, .int 18, .int 0, .null], vm := .none },
  { cls := 6, slots := #[.null, .int 19, .int 0, .null], vm := .none },
  { cls := 6, slots := #[.null, .int 20, .int 0, .null], vm := .none }]
def classes : Array Class := #[k0, k1, k2, k3, k4, k5, k6, k7, k8, k9, k10, k11]
def interned : List (Array UInt16 × Addr) := []
def slotsUsed : Nat := 106
def theMethod : MethodId := ⟨1, 1⟩
def args0 : Array Value := #[.int 5]
def aboutOver (below : List Frame) : State where
  vm := { classes := classes, interned := interned.toArray }
  heap := heap
  slotsUsed := slotsUsed
  threads := #[{ frames := .invoking theMethod args0 :: below }]
def below0 : List Frame := [.native { method := ⟨0, 0⟩, args := #[] }]
def about1 : State := aboutOver below0
def p0 : Program := .bare "" "" ""
def e0 : Env := launch0.env 0 0 0
theorem w_frames : about1.frames = Frame.invoking theMethod args0 :: below0 := rfl
set_option maxRecDepth 65536 in
theorem w_args : argsFit about1.vm theMethod args0 = true := by decide +kernel
set_option maxRecDepth 65536 in
theorem w_heap : heapFits about1 = true := by decide +kernel
set_option maxRecDepth 65536 in
theorem w_runnable : about1.curStatus? = some .runnable := by decide +kernel
set_option maxRecDepth 65536 in
theorem w_alone : about1.alone = true := by decide +kernel
set_option maxRecDepth 65536 in
theorem w_named : about1.methodNamed? x = some theMethod := by decide +kernel
set_option maxRecDepth 65536 in
theorem w_hears : about1.hears theMethod below0 = true := by decide +kernel
set_option maxRecDepth 65536 in
theorem w_ripe : about1.ripe theMethod args0 below0 = true := by decide +kernel
theorem w_running : about1.status = .running := rfl
set_option maxRecDepth 65536 in
theorem w_room : about1.hasRoom e0.platform room_1 = true :=
  launch0.hasRoom_least _ room_1 (by decide +kernel) (by decide +kernel) (by decide +kernel) (by decide +kernel) (by decide +kernel) (by decide +kernel)
theorem allAtoms_all (ts : List Jvm.Cond) (a : Array Jvm.Value) (st : Jvm.State) : (allAtoms ts).before a st = ts.all (fun c => c.before a st) := by
  induction ts with
  | nil => rfl
  | cons c t ih =>
    show (Jvm.Cond.and c (allAtoms t)).before a st = _
    rw [Jvm.Cond.before_and, ih, List.all_cons]
def words1 : List Jvm.Cond := Jvm.Cond.code x code maxLocals ret :: tables_1
/-- a 'code' word, met by the world's own term for the bytes: nothing is compared byte by byte -/
theorem code_word {y : MethodName} {bytes : ByteArray} {mx : Nat} {rt : Option FieldType} {a : Array Value} {s : State} {m : MethodId} {meth : Method} {c : Code} (h1 : s.methodNamed? y = some m) (h2 : s.vm.method? m = some meth) (h3 : meth.code = some c) (h4 : c.code = bytes)
    (h5 : (c.maxLocals == mx && c.exceptionTable.isEmpty && decide (c.maxStack ≤ mostOperands) && decide (meth.sig.returnType = rt) && !meth.locks && decide (parseMethodDescriptor y.desc = some meth.sig)) = true) : (Jvm.Cond.code y bytes mx rt).before a s = true := by
  simp only [Bool.and_eq_true, beq_iff_eq, Bool.not_eq_true', decide_eq_true_eq] at h5
  obtain ⟨⟨⟨⟨⟨g1, g2⟩, g3⟩, g4⟩, g5⟩, g6⟩ := h5
  simp [Cond.before, Cond.holds, Cond.value, h1, h2, h3, h4, g1, g2, g3, g4, g5, g6]
def isCode : Jvm.Cond → Bool
  | .code _ _ _ _ => true
  | _ => false
theorem all_split {L : List Jvm.Cond} {P : Jvm.Cond → Bool} (h1 : L.all (fun c => isCode c || P c) = true) (h2 : ∀ c ∈ L.filter isCode, P c = true) : L.all P = true := by
  refine List.all_eq_true.mpr fun c hc => ?_
  have h := List.all_eq_true.mp h1 c hc
  rcases Bool.eq_false_or_eq_true (isCode c) with hi | hi
  · exact h2 c (List.mem_filter.mpr ⟨hc, hi⟩)
  · simpa [hi] using h
set_option maxRecDepth 65536 in
theorem w_c0 : (Jvm.Cond.code x code maxLocals ret).before args0 about1 = true := code_word (m := ⟨1, 1⟩) (meth := k1m1) (c := k1c1) (by decide +kernel) rfl rfl rfl (by decide +kernel)
set_option maxRecDepth 65536 in
theorem w_c1 : (Jvm.Cond.code ({ cls := "com/example/axiomloom/axiomloom/owl/ElementIsPropertyPinLaw", name := "pick", desc := "(I)Lcom/example/axiomloom/axiomloom/owl/Construct$Element;" } : Jvm.MethodName) method_4_code (1 : Nat) (Option.some (Jvm.ClassFile.FieldType.object "com/example/axiomloom/axiomloom/owl/Construct$Element"))).before args0 about1 = true := code_word (m := ⟨1, 3⟩) (meth := k1m3) (c := k1c3) (by decide +kernel) rfl rfl rfl (by decide +kernel)
set_option maxRecDepth 65536 in
theorem w_c2 : (Jvm.Cond.code ({ cls := "com/example/axiomloom/axiomloom/owl/ElementIsPropertyPinLaw", name := "expectedFor", desc := "(I)Z" } : Jvm.MethodName) method_3_code (1 : Nat) (Option.some Jvm.ClassFile.FieldType.boolean)).before args0 about1 = true := code_word (m := ⟨1, 2⟩) (meth := k1m2) (c := k1c2) (by decide +kernel) rfl rfl rfl (by decide +kernel)
set_option maxRecDepth 65536 in
theorem w_c3 : (Jvm.Cond.code ({ cls := "com/example/axiomloom/axiomloom/owl/Construct$Element", name := "isProperty", desc := "()Z" } : Jvm.MethodName) prog_81_method_5_code (1 : Nat) (Option.some Jvm.ClassFile.FieldType.boolean)).before args0 about1 = true := code_word (m := ⟨6, 0⟩) (meth := k6m0) (c := k6c0) (by decide +kernel) rfl rfl rfl (by decide +kernel)
def codes1 : List Jvm.Cond := [Jvm.Cond.code x code maxLocals ret, Jvm.Cond.code ({ cls := "com/example/axiomloom/axiomloom/owl/ElementIsPropertyPinLaw", name := "pick", desc := "(I)Lcom/example/axiomloom/axiomloom/owl/Construct$Element;" } : Jvm.MethodName) method_4_code (1 : Nat) (Option.some (Jvm.ClassFile.FieldType.object "com/example/axiomloom/axiomloom/owl/Construct$Element")), Jvm.Cond.code ({ cls := "com/example/axiomloom/axiomloom/owl/ElementIsPropertyPinLaw", name := "expectedFor", desc := "(I)Z" } : Jvm.MethodName) method_3_code (1 : Nat) (Option.some Jvm.ClassFile.FieldType.boolean), Jvm.Cond.code ({ cls := "com/example/axiomloom/axiomloom/owl/Construct$Element", name := "isProperty", desc := "()Z" } : Jvm.MethodName) prog_81_method_5_code (1 : Nat) (Option.some Jvm.ClassFile.FieldType.boolean)]
set_option maxRecDepth 65536 in
theorem codes_eq : words1.filter isCode = codes1 := rfl
theorem w_codes : ∀ c ∈ words1.filter isCode, c.before args0 about1 = true := by
  rw [codes_eq]
  intro c hc
  simp only [codes1, List.mem_cons, List.not_mem_nil, or_false] at hc
  rcases hc with rfl | rfl | rfl | rfl
  · exact w_c0
  · exact w_c1
  · exact w_c2
  · exact w_c3
set_option maxRecDepth 65536 in
theorem w_t1 : (words1.take 24).all (fun c => isCode c || c.before args0 about1) = true := by decide +kernel
set_option maxRecDepth 65536 in
theorem w_t2 : ((words1.drop 24).take 24).all (fun c => isCode c || c.before args0 about1) = true := by decide +kernel
set_option maxRecDepth 65536 in
theorem w_t3 : ((words1.drop 24).drop 24).all (fun c => isCode c || c.before args0 about1) = true := by decide +kernel
theorem w_tables : (allAtoms (Jvm.Cond.code x code maxLocals ret :: tables_1)).before args0 about1 = true := by
  rw [allAtoms_all]
  show words1.all (fun c => c.before args0 about1) = true
  refine all_split ?_ w_codes
  rw [← List.take_append_drop 24 words1, List.all_append, w_t1, ← List.take_append_drop 24 (words1.drop 24), List.all_append, w_t2, w_t3]
  rfl
set_option maxRecDepth 65536 in
theorem w_case : (Jvm.Cond.and given_1 narrow_1).before args0 about1 = true := by decide +kernel
theorem w_applies : (headSpec (Jvm.Cond.code x code maxLocals ret :: tables_1) room_1).applies x e0.platform about1 = true :=
  (Spec.applies_iff w_frames).mpr ⟨w_running, w_runnable, w_alone, w_named, w_hears, w_ripe, w_room, w_tables⟩
theorem atStart : AtStart classFile x code maxLocals ret World_1 tables_1 room_1 Calls_1 rest_1 Pre_1 launch0 p0 e0 about1 theMethod args0 below0 :=
  ⟨lists_1, trivial, launch0.admits_env _ _ _, launch0.least_env, fairChoices_fair.cas, fairChoices_fair.clock, w_frames, w_args, w_heap, w_applies, trivial, trivial, w_case⟩
end start1
theorem witness_1 : WitnessClaimed_1 := ⟨start1.p0, start1.e0, start1.about1, start1.theMethod, start1.args0, start1.below0, start1.atStart⟩
end Jvm.Pilot.@@N@@
