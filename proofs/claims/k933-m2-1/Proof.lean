import JvmDerived
import JvmDerived.Pilot.@@N@@Statement
import JvmDerived.Pilot.@@N@@Code
set_option linter.unusedVariables false
set_option linter.unusedSimpArgs false
namespace Jvm.RoadKit
open Sem ClassFile Op Lib Jvm.Stand Jvm.Free Jvm.LawKit
section OwnGo
/-- from the state T with the frame g on top the run comes to a state of which K holds -/
def own_Go (tb : Tables) (e : Env) (below : List Frame) (K : State → Prop) (T : State) (g : JFrame) : Prop := ∃ t, Steps tb e below (T.setTop g) t ∧ K t
/-- the invocation has ended by a return, with what Q says of the value, the heap and the written places -/
def own_Fin (below : List Frame) (s : State) (Q : Option Value → Heap → List Loc → Prop) (k n : Nat) (t : State) : Prop := ∃ o, t.status = .running ∧ Ended t below o ∧ ∃ v L, o = .returned v ∧ Q v t.heap L ∧ FrameEnd s o t L k n
variable {p : Program} {l : Launch} {e : Env} {R : Room} {s : State} {m : MethodId} {args : Array Value} {below : List Frame} {meth : Method} {c : Code} {T : State} {locs : List Loc} {cells slots : Nat}
variable {K : State → Prop} {T' : State} {g g' : JFrame} {tb : Tables} {Q : Option Value → Heap → List Loc → Prop} {k n : Nat}
theorem own_st (h : ∀ t, Steps tb e below (T'.setTop g') t → Steps tb e below (T.setTop g) t) (q : own_Go tb e below K T' g') : own_Go tb e below K T g := by
  obtain ⟨t, h1, h2⟩ := q
  exact ⟨t, h _ h1, h2⟩
theorem own_tr (h : Steps tb e below (T.setTop g) (T'.setTop g')) (q : own_Go tb e below K T' g') : own_Go tb e below K T g := by
  obtain ⟨t, h1, h2⟩ := q
  exact ⟨t, h.trans h1, h2⟩
theorem own_in (h : g = g') (q : own_Go tb e below K T g') : own_Go tb e below K T g := h ▸ q
theorem own_out (q : own_Go tb e below (own_Fin below s Q k n) T g) : ∃ s₂ o, Steps tb e below (T.setTop g) s₂ ∧ s₂.status = .running ∧ Ended s₂ below o ∧ ∃ v L, o = .returned v ∧ Q v s₂.heap L ∧ FrameEnd s o s₂ L k n := by
  obtain ⟨t, h1, o, h2, h3, h4⟩ := q
  exact ⟨t, o, h1, h2, h3, h4⟩
theorem own_leave (X : Stand p l e R s m args below meth c T locs cells slots) (hlk : meth.locks = false) {v : Option Value} (hv : meth.sig.returnType = none → v = none) (hq : Q v T.heap locs) (hk : cells ≤ k) (hn : slots ≤ n)
    (st : ∀ fs, (∀ (f : JFrame) (acts : List Action), f.method = m → f.locked = none → f.entered = [] → (doReturn e (T.setTop f) acts v).1 = T.setFrames fs) → Steps p.tables e below (T.setTop g) (T.setFrames fs)) :
    own_Go p.tables e below (own_Fin below s Q k n) T g := by
  obtain ⟨fs, hr, hrun, hended, hW, hsame⟩ := X.leave (v := v) hv hlk
  exact ⟨_, st fs hr, _, hrun, hended, _, _, rfl, hq, ⟨_, rfl⟩, hW, hsame.mono hk hn⟩
variable {pc : Nat} {Ls : Array Slot} {rest : List Value}
theorem own_retV (X : Stand p l e R s m args below meth c T locs cells slots) (hx : p.tables.exec = Jvm.exec) (hlk : meth.locks = false) (hret : meth.sig.returnType = none) (hd : decode c.code pc = .ok (.return_, 1)) (hq : Q none T.heap locs) (hk : cells ≤ k) (hn : slots ≤ n) :
    own_Go p.tables e below (own_Fin below s Q k n) T (mkF m pc Ls []) :=
  own_leave X hlk (fun _ => rfl) hq hk hn fun _ hr => X.returnOut hx hret hd hr
theorem own_retW (X : Stand p l e R s m args below meth c T locs cells slots) (hx : p.tables.exec = Jvm.exec) (hlk : meth.locks = false) {w : Value} {t : FieldType} {i : Instr} (hret : meth.sig.returnType = some t) (hn' : narrow t w = w)
    (hi : (i = .ireturn ∧ (t = .int ∨ t = .boolean ∨ t = .byte ∨ t = .char ∨ t = .short) ∧ ∃ z, w = .int z) ∨ (i = .lreturn ∧ t = .long ∧ ∃ z, w = .long z) ∨ (i = .dreturn ∧ t = .double ∧ ∃ z, w = .double z) ∨ (i = .freturn ∧ t = .float ∧ ∃ z, w = .float z) ∨ (i = .areturn ∧ t.isReference = true ∧ w.isRef = true))
    (hd : decode c.code pc = .ok (i, 1)) (hq : Q (some w) T.heap locs) (hk : cells ≤ k) (hn : slots ≤ n) :
    own_Go p.tables e below (own_Fin below s Q k n) T (mkF m pc Ls (w :: rest)) :=
  own_leave X hlk (fun h => by rw [hret] at h; cases h) hq hk hn fun _ hr => retOut X hx hret hn' hi hd hr
theorem own_retI (X : Stand p l e R s m args below meth c T locs cells slots) (hx : p.tables.exec = Jvm.exec) (hlk : meth.locks = false) {z : Int32} (hret : meth.sig.returnType = some .int) (hd : decode c.code pc = .ok (.ireturn, 1)) (hq : Q (some (.int z)) T.heap locs) (hk : cells ≤ k) (hn : slots ≤ n) :
    own_Go p.tables e below (own_Fin below s Q k n) T (mkF m pc Ls (.int z :: rest)) :=
  own_retW X hx hlk hret rfl (Or.inl ⟨rfl, Or.inl rfl, _, rfl⟩) hd hq hk hn
theorem own_retJ (X : Stand p l e R s m args below meth c T locs cells slots) (hx : p.tables.exec = Jvm.exec) (hlk : meth.locks = false) {z : Int64} (hret : meth.sig.returnType = some .long) (hd : decode c.code pc = .ok (.lreturn, 1)) (hq : Q (some (.long z)) T.heap locs) (hk : cells ≤ k) (hn : slots ≤ n) :
    own_Go p.tables e below (own_Fin below s Q k n) T (mkF m pc Ls (.long z :: rest)) :=
  own_retW X hx hlk hret rfl (Or.inr (Or.inl ⟨rfl, rfl, _, rfl⟩)) hd hq hk hn
theorem own_retR (X : Stand p l e R s m args below meth c T locs cells slots) (hx : p.tables.exec = Jvm.exec) (hlk : meth.locks = false) {w : Value} {t : FieldType} (hret : meth.sig.returnType = some t) (ht : t.isReference = true) (hw : w.isRef = true) (hn' : narrow t w = w) (hd : decode c.code pc = .ok (.areturn, 1)) (hq : Q (some w) T.heap locs) (hk : cells ≤ k) (hn : slots ≤ n) :
    own_Go p.tables e below (own_Fin below s Q k n) T (mkF m pc Ls (w :: rest)) :=
  own_retW X hx hlk hret hn' (Or.inr (Or.inr (Or.inr (Or.inr ⟨rfl, ht, hw⟩)))) hd hq hk hn
theorem own_retN (X : Stand p l e R s m args below meth c T locs cells slots) (hx : p.tables.exec = Jvm.exec) (hlk : meth.locks = false) {z : Int32} {t : FieldType} (hret : meth.sig.returnType = some t) (ht : t = .boolean ∨ t = .byte ∨ t = .char ∨ t = .short) (hd : decode c.code pc = .ok (.ireturn, 1)) (hq : Q (some (.int (nar t z))) T.heap locs) (hk : cells ≤ k) (hn : slots ≤ n) :
    own_Go p.tables e below (own_Fin below s Q k n) T (mkF m pc Ls (.int z :: rest)) :=
  own_leave X hlk (fun h => by rw [hret] at h; cases h) hq hk hn fun _ hr => retN X hx hret ht hd hr
/-- the same, where String constants may have been resolved -/
def own_FinW (below : List Frame) (s : State) (Q : Option Value → Heap → List Loc → Prop) (k n : Nat) (t : State) : Prop := ∃ o, t.status = .running ∧ Ended t below o ∧ ∃ v L, o = .returned v ∧ Q v t.heap L ∧ ReturnedEndW s o t L k n
theorem own_outW (q : own_Go tb e below (own_FinW below s Q k n) T g) : ∃ s₂ o, Steps tb e below (T.setTop g) s₂ ∧ s₂.status = .running ∧ Ended s₂ below o ∧ ∃ v L, o = .returned v ∧ Q v s₂.heap L ∧ ReturnedEndW s o s₂ L k n := by
  obtain ⟨t, h1, o, h2, h3, h4⟩ := q
  exact ⟨t, o, h1, h2, h3, h4⟩
theorem own_leaveW {vm0 : Vm} {k0 : Nat} (X : Stand p l e R (s.setVm vm0) m args below meth c T locs cells slots) (hS : s.Since vm0 k0) (hk0 : k0 ≤ T.heap.size) (hlk : meth.locks = false) {v : Option Value} (hv : meth.sig.returnType = none → v = none) (hq : Q v T.heap locs) (hk : cells ≤ k) (hn : slots ≤ n)
    (st : ∀ fs, (∀ (f : JFrame) (acts : List Action), f.method = m → f.locked = none → f.entered = [] → (doReturn e (T.setTop f) acts v).1 = T.setFrames fs) → Steps p.tables e below (T.setTop g) (T.setFrames fs)) :
    own_Go p.tables e below (own_FinW below s Q k n) T g := by
  obtain ⟨fs, hr, hrun, hended, h1, h2, h3, h4⟩ := X.leaveW hS hk0 (v := v) hv hlk
  exact ⟨_, st fs hr, _, hrun, hended, _, _, rfl, hq, h1, h2, h3, h4.mono hk hn⟩
theorem own_retVW {vm0 : Vm} {k0 : Nat} (X : Stand p l e R (s.setVm vm0) m args below meth c T locs cells slots) (hS : s.Since vm0 k0) (hk0 : k0 ≤ T.heap.size) (hx : p.tables.exec = Jvm.exec) (hlk : meth.locks = false) (hret : meth.sig.returnType = none) (hd : decode c.code pc = .ok (.return_, 1)) (hq : Q none T.heap locs) (hk : cells ≤ k) (hn : slots ≤ n) :
    own_Go p.tables e below (own_FinW below s Q k n) T (mkF m pc Ls []) :=
  own_leaveW X hS hk0 hlk (fun _ => rfl) hq hk hn fun _ hr => X.returnOut hx hret hd hr
theorem own_retWW {vm0 : Vm} {k0 : Nat} (X : Stand p l e R (s.setVm vm0) m args below meth c T locs cells slots) (hS : s.Since vm0 k0) (hk0 : k0 ≤ T.heap.size) (hx : p.tables.exec = Jvm.exec) (hlk : meth.locks = false) {w : Value} {t : FieldType} {i : Instr} (hret : meth.sig.returnType = some t) (hn' : narrow t w = w)
    (hi : (i = .ireturn ∧ (t = .int ∨ t = .boolean ∨ t = .byte ∨ t = .char ∨ t = .short) ∧ ∃ z, w = .int z) ∨ (i = .lreturn ∧ t = .long ∧ ∃ z, w = .long z) ∨ (i = .dreturn ∧ t = .double ∧ ∃ z, w = .double z) ∨ (i = .freturn ∧ t = .float ∧ ∃ z, w = .float z) ∨ (i = .areturn ∧ t.isReference = true ∧ w.isRef = true))
    (hd : decode c.code pc = .ok (i, 1)) (hq : Q (some w) T.heap locs) (hk : cells ≤ k) (hn : slots ≤ n) :
    own_Go p.tables e below (own_FinW below s Q k n) T (mkF m pc Ls (w :: rest)) :=
  own_leaveW X hS hk0 hlk (fun h => by rw [hret] at h; cases h) hq hk hn fun _ hr => retOut X hx hret hn' hi hd hr
theorem own_retNW {vm0 : Vm} {k0 : Nat} (X : Stand p l e R (s.setVm vm0) m args below meth c T locs cells slots) (hS : s.Since vm0 k0) (hk0 : k0 ≤ T.heap.size) (hx : p.tables.exec = Jvm.exec) (hlk : meth.locks = false) {z : Int32} {t : FieldType} (hret : meth.sig.returnType = some t) (ht : t = .boolean ∨ t = .byte ∨ t = .char ∨ t = .short) (hd : decode c.code pc = .ok (.ireturn, 1)) (hq : Q (some (.int (nar t z))) T.heap locs) (hk : cells ≤ k) (hn : slots ≤ n) :
    own_Go p.tables e below (own_FinW below s Q k n) T (mkF m pc Ls (.int z :: rest)) :=
  own_leaveW X hS hk0 hlk (fun h => by rw [hret] at h; cases h) hq hk hn fun _ hr => retN X hx hret ht hd hr
theorem own_wz {Z : State} {vm0 vm1 : Vm} {k1 : Nat} (hZ : Z.Warmed39 vm0) (hs : (s.setVm vm0).Since vm1 k1) : Z.Warmed39 (s.setVm vm1).vm := State.Warmed39.trans (t := s.setVm vm0) hZ hs.1
theorem own_wo {vm0 vm1 : Vm} {k1 : Nat} {own : String} {q : ClassId} (h : (s.setVm vm0).vm.findClass own = some q) (hs : (s.setVm vm0).Since vm1 k1) : (s.setVm vm1).vm.findClass own = some q := by
  rw [show (s.setVm vm1).vm = vm1 from rfl, hs.1.alike.findClass]; exact h
theorem own_sta_keep {Z : State} {h h' : Heap} {C f d : String} {v : Value} {ws : List Addr} (F : Sta Z h C f d v) (K : Keep h h' ws) (hs : ∀ x ∈ ws, ∀ cl : Cell, h[x]? = some cl → cl.vm.isStatics = false) : Sta Z h' C f d v := by
  obtain ⟨cf, i, k, f', st, cell, h1, h2, h3, h4, h5, h6, h7⟩ := F
  refine ⟨cf, i, k, f', st, cell, h1, h2, h3, h4, K.2.1 _ _ h5 fun q => ?_, h6, h7⟩
  rw [hs st q cell h5] at h6
  cases h6
theorem own_fold {vm0 vm1 : Vm} (X : Stand p l e R ((s.setVm vm0).setVm vm1) m args below meth c T locs cells slots) : Stand p l e R (s.setVm vm1) m args below meth c T locs cells slots := X
theorem own_hide {k0 : Nat} (X : Stand p l e R s m args below meth c T locs cells slots) (N : Fr k0 locs) : ∃ L : List Loc, Stand p l e R s m args below meth c T L cells slots ∧ Fr k0 L := ⟨_, X, N⟩
theorem own_getD_int (es : List Int32) (i : Nat) : (es.map Value.int).getD i (.int 0) = .int (es.getD i 0) := by
  induction es generalizing i with
  | nil => rfl
  | cons a t ih => cases i with
    | zero => rfl
    | succ j => simpa using ih j
theorem own_getD_long (es : List Int64) (i : Nat) : (es.map Value.long).getD i (.long 0) = .long (es.getD i 0) := by
  induction es generalizing i with
  | nil => rfl
  | cons a t ih => cases i with
    | zero => rfl
    | succ j => simpa using ih j
theorem own_eq_int {args : Array Value} {s : State} {t : Term} {k : Int32} (h : (Cond.eq t (.int k)).value args s none s [] = some true) : t.eval args s none [] s = some (.int k) := by
  obtain ⟨x, y, e1, e2, hk, hk'⟩ := cmp_v (Or.inl h)
  have e3 : y = .int k := by simpa [Term.eval] using e2.symm
  subst e3
  cases x with
  | int z => simp [Cond.value, e1, e2] at h; rw [e1, h]
  | _ => simp [Kin] at hk'
end OwnGo
end Jvm.RoadKit
namespace Jvm.Pilot.@@N@@
open Jvm Jvm.ClassFile Sem Op Lib Jvm.Free Jvm.Stand Jvm.LawKit Jvm.RoadKit Bundle Jvm.Pilot.@@N@@.Jvm.D
/-! body 2: IriPatternPercentEncodedPinLaw.hex -/
theorem d2_0 : decode method_4_code 0 = .ok (.iload_n 0, 1) := by decide +kernel
theorem d2_1 : decode method_4_code 1 = .ok (.bipush 10, 2) := by decide +kernel
theorem d2_3 : decode method_4_code 3 = .ok (.if_icmp .ge 9, 3) := by decide +kernel
theorem d2_6 : decode method_4_code 6 = .ok (.bipush 48, 2) := by decide +kernel
theorem d2_8 : decode method_4_code 8 = .ok (.iload_n 0, 1) := by decide +kernel
theorem d2_9 : decode method_4_code 9 = .ok (.iadd, 1) := by decide +kernel
theorem d2_10 : decode method_4_code 10 = .ok (.i2b, 1) := by decide +kernel
theorem d2_11 : decode method_4_code 11 = .ok (.ireturn, 1) := by decide +kernel
theorem d2_12 : decode method_4_code 12 = .ok (.bipush 65, 2) := by decide +kernel
theorem d2_14 : decode method_4_code 14 = .ok (.iload_n 0, 1) := by decide +kernel
theorem d2_15 : decode method_4_code 15 = .ok (.bipush 10, 2) := by decide +kernel
theorem d2_17 : decode method_4_code 17 = .ok (.isub, 1) := by decide +kernel
theorem d2_18 : decode method_4_code 18 = .ok (.iadd, 1) := by decide +kernel
theorem d2_19 : decode method_4_code 19 = .ok (.i2b, 1) := by decide +kernel
theorem d2_20 : decode method_4_code 20 = .ok (.ireturn, 1) := by decide +kernel
theorem pn_shelfmark_IriPatternPercentEncodedPinLaw : plainName "shelfmark/IriPatternPercentEncodedPinLaw" = true := by first | (simp [plainName, overriddenIn]; done) | decide +kernel
theorem ef_2 (m : MethodId) (x0 : Int32) : entryFrame m #[(.int x0)] 1 = mkF m 0 #[.val (.int x0)] [] := by first | (simp [entryFrame, mkF, argsToLocals, Value.category]; done) | rfl
def own_hex (dd : Int32) : Int32 := (if dd < (10 : Int32) then (nar .byte (((48 : Int32) + dd).toInt8.toInt32)) else (nar .byte (((65 : Int32) + (dd - (10 : Int32))).toInt8.toInt32)))
def Q2 (Z : State) (dd : Int32) (h0 : Heap) (n0 : Nat) (v : Option Value) (h : Heap) (L : List Loc) : Prop := v = some (.int (own_hex dd)) ∧ Fr n0 L ∧ h = h0
set_option maxRecDepth 65536 in
set_option maxHeartbeats 40000000 in
theorem rm2 (l : Launch) (Z : State) (a0 : Array Value) (hw : ∀ d ∈ tables_1, d.before a0 Z = true) (ws : List Jvm.Cond) (dd : Int32) (h0 : Heap) (n0 : Nat) (Z0 : n0 ≤ h0.size) :
    MetFree l (⟨"shelfmark/IriPatternPercentEncodedPinLaw", "hex", "(I)B"⟩ : MethodName) (head1 (Jvm.Cond.code (⟨"shelfmark/IriPatternPercentEncodedPinLaw", "hex", "(I)B"⟩ : MethodName) method_4_code 1 (some .byte) :: ws) ({ frames := 0, cells := 0, slots := 0, locals := 0 } : Room)) (fun a U => a = #[(.int dd)] ∧ Z.Warmed39 U.vm ∧ U.heap = h0) (fun _ _ _ _ _ => True) (fun _ U o U' => ∃ v L, o = .returned v ∧ Q2 Z dd h0 n0 v U'.heap L ∧ FrameEnd U o U' L ({ frames := 0, cells := 0, slots := 0, locals := 0 } : Room).cells ({ frames := 0, cells := 0, slots := 0, locals := 0 } : Room).slots) := by
  refine MetFree.of_bodySF (plainFor_of_name pn_shelfmark_IriPatternPercentEncodedPinLaw) hisR ?_
  intro p e s m args below meth c s₁ Bd hml0 hP hK
  obtain ⟨rfl, hZ, hh⟩ := hP
  have hx := Bd.exec
  have hby := Bd.bytes
  have hlk := Bd.notSynchronized
  have hrt := Bd.returns
  have hml : c.maxLocals = 1 := hml0
  have hown : s.vm.findClass "shelfmark/IriPatternPercentEncodedPinLaw" = some m.cls := findClass_of_methodNamed Bd.named
  have hnm := (name_of_methodNamed Bd.named Bd.method).1
  have X0 : Stand p l e ({ frames := 0, cells := 0, slots := 0, locals := 0 } : Room) s m #[(.int dd)] below meth c s₁ [] 0 0 := Stand.of_body Bd
  have e0 : s₁.heap = h0 := by rw [← hh, Bd.state]; rfl
  have N0 := Fr.nil n0
  have K0 := Keep.refl h0 []
  refine own_out (Q := Q2 Z dd h0 n0) ?_
  refine own_in (ef_2 m dd) ?_
  show own_Go _ _ _ _ s₁ (mkF m 0 #[.val (.int dd)] [])
  refine own_st (fun t k => XS.iloadN X0.here hx rfl (hb hby d2_0) rfl k) ?_
  show own_Go _ _ _ _ s₁ (mkF m 1 #[.val (.int dd)] [(.int dd)])
  refine own_st (fun t k => XS.bipush X0.here hx rfl (hb hby d2_1) k) ?_
  show own_Go _ _ _ _ s₁ (mkF m 3 #[.val (.int dd)] [(.int (10 : Int32)), (.int dd)])
  by_cases c3_1 : dd < (10 : Int32)
  ·
    refine own_st (fun t k => XS.icmpNo X0.here hx rfl (hb hby d2_3) rfl (tlt c3_1).2.1 k) ?_
    show own_Go _ _ _ _ s₁ (mkF m 6 #[.val (.int dd)] [])
    refine own_st (fun t k => XS.bipush X0.here hx rfl (hb hby d2_6) k) ?_
    show own_Go _ _ _ _ s₁ (mkF m 8 #[.val (.int dd)] [(.int (48 : Int32))])
    refine own_st (fun t k => XS.iloadN X0.here hx rfl (hb hby d2_8) rfl k) ?_
    show own_Go _ _ _ _ s₁ (mkF m 9 #[.val (.int dd)] [(.int dd), (.int (48 : Int32))])
    refine own_st (fun t k => XS.iadd X0.here hx rfl (hb hby d2_9) rfl k) ?_
    show own_Go _ _ _ _ s₁ (mkF m 10 #[.val (.int dd)] [(.int ((48 : Int32) + dd))])
    refine own_st (fun t k => XS.i2b X0.here hx rfl (hb hby d2_10) rfl k) ?_
    show own_Go _ _ _ _ s₁ (mkF m 11 #[.val (.int dd)] [(.int (((48 : Int32) + dd).toInt8.toInt32))])
    exact own_retN X0 hx hlk (t := .byte) hrt (by simp) (hb hby d2_11) ⟨(by simp only [own_hex, if_pos c3_1]; first | rfl | done), N0, e0⟩ (by decide) (by decide)
  ·
    refine own_st (fun t k => XS.icmpYes X0.here hx rfl (pc0 := 3) (pc' := 12) rfl (hb hby d2_3) rfl (flt c3_1).2.1 (by decide) (by decide) k) ?_
    show own_Go _ _ _ _ s₁ (mkF m 12 #[.val (.int dd)] [])
    refine own_st (fun t k => XS.bipush X0.here hx rfl (hb hby d2_12) k) ?_
    show own_Go _ _ _ _ s₁ (mkF m 14 #[.val (.int dd)] [(.int (65 : Int32))])
    refine own_st (fun t k => XS.iloadN X0.here hx rfl (hb hby d2_14) rfl k) ?_
    show own_Go _ _ _ _ s₁ (mkF m 15 #[.val (.int dd)] [(.int dd), (.int (65 : Int32))])
    refine own_st (fun t k => XS.bipush X0.here hx rfl (hb hby d2_15) k) ?_
    show own_Go _ _ _ _ s₁ (mkF m 17 #[.val (.int dd)] [(.int (10 : Int32)), (.int dd), (.int (65 : Int32))])
    refine own_st (fun t k => XS.isub X0.here hx rfl (hb hby d2_17) rfl k) ?_
    show own_Go _ _ _ _ s₁ (mkF m 18 #[.val (.int dd)] [(.int (dd - (10 : Int32))), (.int (65 : Int32))])
    refine own_st (fun t k => XS.iadd X0.here hx rfl (hb hby d2_18) rfl k) ?_
    show own_Go _ _ _ _ s₁ (mkF m 19 #[.val (.int dd)] [(.int ((65 : Int32) + (dd - (10 : Int32))))])
    refine own_st (fun t k => XS.i2b X0.here hx rfl (hb hby d2_19) rfl k) ?_
    show own_Go _ _ _ _ s₁ (mkF m 20 #[.val (.int dd)] [(.int (((65 : Int32) + (dd - (10 : Int32))).toInt8.toInt32))])
    exact own_retN X0 hx hlk (t := .byte) hrt (by simp) (hb hby d2_20) ⟨(by simp only [own_hex, if_neg c3_1]; first | rfl | done), N0, e0⟩ (by decide) (by decide)
def own_H (j : Int32) : Int32 := if j < 10 then j + 48 else j + 55
/-- what one byte is written as: itself, or a percent sign and two digits -/
def own_enc (b k : Int32) : List Int32 := if k = 0 then [nar .byte 37, nar .byte (own_hex ((b &&& (255 : Int32)) >>> ((4 : Int32) &&& 31))), nar .byte (own_hex (b &&& (15 : Int32)))] else [nar .byte b]
/-- a byte array of that length whose first places hold A, the rest 0 -/
def own_X (Z : State) (h : Heap) (a : Addr) (k : ClassId) (len : Nat) (A : List Int32) : Prop := Arv Z h a k .byte (Int32.ofNat len) ((A ++ List.replicate (len - A.length) 0).map Value.int) (.int 0)
theorem own_small {n : Nat} (h : n < 1000) : (Int32.ofNat n).toInt = n ∧ (Int32.ofNat n).toNatClampNeg = n ∧ ¬ Int32.ofNat n < 0 := by
  have q : (Int32.ofNat n).toInt = n := Int32.toInt_ofNat_of_lt (by omega)
  refine ⟨q, ?_, ?_⟩
  · simp only [Int32.toNatClampNeg, q]; omega
  · rw [Int32.lt_iff_toInt_lt, q]; simp only [Int32.reduceToInt]; omega
theorem own_plus {n : Nat} (h : n < 900) (d : Nat) (hd : d < 90) : Int32.ofNat n + Int32.ofNat d = Int32.ofNat (n + d) := by
  apply Int32.toInt_inj.mp
  have h1 := c_iadd (Int32.ofNat n) (Int32.ofNat d)
  have h2 := rng32 (Int32.ofNat n + Int32.ofNat d)
  rw [(own_small (show n < 1000 by omega)).1, (own_small (show d < 1000 by omega)).1] at h1
  rw [(own_small (show n + d < 1000 by omega)).1]
  omega
theorem own_push {Z : State} {h h' : Heap} {a : Addr} {k : ClassId} {len : Nat} {A : List Int32} {j x : Int32} {cl : Cell} (A0 : Arr Z h a cl .byte) (q1 : cl.cls = k) (S : cl.slots.size = (Int32.ofNat len).toNatClampNeg) (q3 : ¬ Int32.ofNat len < 0) (H : Has cl ((A ++ List.replicate (len - A.length) 0).map Value.int) (.int 0))
    (G : ∀ i, i < cl.slots.size → fits .byte (((A ++ List.replicate (len - A.length) 0).map Value.int).getD i (.int 0)) = true) (hx : fits .byte (.int x) = true) (W : Wr h h' a j.toNatClampNeg (.int x)) (hj : j.toNatClampNeg = A.length) (hl : A.length < len) : own_X Z h' a k len (A ++ [x]) := by
  have q := Arv.set A0 q1 S q3 H G hx W A.length hj (by simp; omega)
  have e : ((A ++ List.replicate (len - A.length) (0 : Int32)).map Value.int).set A.length (.int x) = ((A ++ [x]) ++ List.replicate (len - (A ++ [x]).length) (0 : Int32)).map Value.int := by
    rw [← List.map_set, List.set_append_right _ _ (Nat.le_refl _), Nat.sub_self]
    obtain ⟨r, hr⟩ : ∃ r, len - A.length = r + 1 := ⟨len - A.length - 1, by omega⟩
    have hr2 : len - (A ++ [x]).length = r := by simp; omega
    rw [hr, hr2, List.replicate_succ, List.set_cons_zero, List.append_assoc]
    rfl
  rw [e] at q
  exact q
/-- a place inside -/
theorem own_in9 {cl : Cell} {len n : Nat} {j : Int32} (S : cl.slots.size = (Int32.ofNat len).toNatClampNeg) (hlen : len < 1000) (hj : j = Int32.ofNat n) (hn : n < len) : ¬ (j < 0 ∨ cl.slots.size ≤ j.toNatClampNeg) := by
  subst hj
  rw [S, (own_small hlen).2.1, (own_small (show n < 1000 by omega)).2.1]
  have := (own_small (show n < 1000 by omega)).2.2
  intro q
  rcases q with q | q
  · exact this q
  · omega
theorem own_nb (x : Int32) : nar .byte (x.toInt8.toInt32) = x.toInt8.toInt32 := by
  show (x.toInt8.toInt32).toInt8.toInt32 = x.toInt8.toInt32
  have h := c_i2b (x.toInt8.toInt32)
  have r := c_i2b x
  apply Int32.toInt_inj.mp
  omega
theorem own_hex_all : ∀ d : Fin 16, nar .byte (own_hex (Int32.ofNat d.val)) = nar .byte (own_H (Int32.ofNat d.val)) := by decide +kernel
theorem own_hex_H {d : Int32} (h : 0 ≤ d.toInt ∧ d.toInt < 16) : nar .byte (own_hex d) = nar .byte (own_H d) := by
  have e : d = Int32.ofNat d.toInt.toNat := by
    apply Int32.toInt_inj.mp
    rw [Int32.toInt_ofNat_of_lt (by omega)]
    omega
  have q := own_hex_all ⟨d.toInt.toNat, by omega⟩
  rw [e]
  exact q
theorem own_sh (x : Int32) : ((x &&& (255 : Int32)) >>> ((4 : Int32) &&& 31)) = ((x >>> ((4 : Int32) &&& 31)) &&& (15 : Int32)) := by
  apply Int32.toInt_inj.mp
  rw [c_ishr _ _ 4 (by decide), c_mask _ (255 : Int32) 8 (by decide) (by decide), c_mask _ (15 : Int32) 4 (by decide) (by decide), c_ishr _ _ 4 (by decide)]
  simp only [Nat.reducePow]
  omega
theorem own_lo (x : Int32) : 0 ≤ (x &&& (15 : Int32)).toInt ∧ (x &&& (15 : Int32)).toInt < 16 := by
  have h := c_and x (15 : Int32) (by decide)
  simp only [Int32.reduceToInt] at h
  omega
theorem own_b255 (x : Int32) : ¬ (x &&& (255 : Int32)) < 0 ∧ (x &&& (255 : Int32)) < (256 : Int32) := by
  have h := c_and x (255 : Int32) (by decide)
  simp only [Int32.lt_iff_toInt_lt, Int32.reduceToInt] at *
  omega
theorem own_enc_len (b k : Int32) : (own_enc b k).length = if k = 0 then 3 else 1 := by
  unfold own_enc
  split <;> rfl
def own_flat (kf : Int32 → Int32) (bs : List Int32) : List Int32 := bs.flatMap fun b => own_enc b (kf b)
def own_cnt (kf : Int32 → Int32) (bs : List Int32) : Nat := (bs.filter fun b => decide (kf b = 0)).length
theorem own_flat_len (kf : Int32 → Int32) (bs : List Int32) : (own_flat kf bs).length = bs.length + 2 * own_cnt kf bs := by
  induction bs with
  | nil => rfl
  | cons b t ih =>
    simp only [own_flat, own_cnt, List.flatMap_cons, List.length_append, own_enc_len, List.filter_cons, List.length_cons] at *
    by_cases q : kf b = 0
    · simp only [q, decide_true, if_true, List.length_cons] at *; omega
    · simp only [q, decide_false, if_false, Bool.false_eq_true] at *; omega
theorem own_flat_none (kf : Int32 → Int32) (bs : List Int32) (hb : ∀ b ∈ bs, nar .byte b = b) (h : own_cnt kf bs = 0) : own_flat kf bs = bs := by
  induction bs with
  | nil => rfl
  | cons b t ih =>
    simp only [own_cnt, List.filter_cons] at h
    by_cases q : kf b = 0
    · simp [q] at h
    · simp only [q, decide_false, Bool.false_eq_true, if_false] at h
      have := ih (fun x hx => hb x (List.mem_cons_of_mem _ hx)) h
      simp only [own_flat, List.flatMap_cons] at *
      rw [this]
      simp only [own_enc, if_neg q, hb b (List.mem_cons_self ..), List.singleton_append]
theorem own_cnt_le (kf : Int32 → Int32) (bs : List Int32) : own_cnt kf bs ≤ bs.length := List.length_filter_le ..
theorem own_flat_snoc (kf : Int32 → Int32) (bs : List Int32) (b : Int32) : own_flat kf (bs ++ [b]) = own_flat kf bs ++ own_enc b (kf b) := by simp [own_flat]
theorem own_cnt_snoc (kf : Int32 → Int32) (bs : List Int32) (b : Int32) : own_cnt kf (bs ++ [b]) = own_cnt kf bs + if kf b = 0 then 1 else 0 := by
  simp only [own_cnt, List.filter_append, List.length_append, List.filter_cons, List.filter_nil]
  by_cases q : kf b = 0 <;> simp [q]
theorem own_getI (es : List Int32) (i : Nat) : (es.map Value.int).getD i (.int 0) = .int (es.getD i 0) := own_getD_int es i
theorem own_arr_keep {Z : State} {h h' : Heap} {a : Addr} {c : Cell} {ty : FieldType} {ws : List Addr} (A : Arr Z h a c ty) (K : Keep h h' ws) (q : a ∉ ws) : Arr Z h' a c ty := ⟨K.2.1 a c A.1 q, A.2⟩
def own_sl : Option Int32 → Slot
  | none => .unset
  | some x => .val (.int x)
def own_kf (ck : Cell) (b : Int32) : Int32 := atv ck (b &&& (255 : Int32))
theorem own_new {Z : State} {h : Heap} {a : Addr} {k : ClassId} {n : Nat} (A : Arr Z h a (newA k .byte (Int32.ofNat n)) .byte) (q : ¬ Int32.ofNat n < 0) : own_X Z h a k n [] := by
  have v := (Arv.new A q).pad (pad_rep [] (.int 0) n)
  have e : (([] : List Int32) ++ List.replicate (n - ([] : List Int32).length) 0).map Value.int = [] ++ List.replicate n (Value.int 0) := by simp [List.map_replicate]
  unfold own_X
  rw [e]
  exact v
theorem own_midl {pre rest : List Int32} {b : Int32} : (pre ++ b :: rest).getD pre.length 0 = b := by
  simp [List.getD_eq_getElem?_getD]
theorem own_lt3 {bs pre rest : List Int32} {b : Int32} (h : bs = pre ++ b :: rest) (hb : bs.length ≤ 3) : pre.length < bs.length ∧ pre.length < 3 ∧ Int32.ofNat pre.length < Int32.ofNat bs.length := by
  have q : bs.length = pre.length + (rest.length + 1) := by rw [h]; simp
  refine ⟨by omega, by omega, ?_⟩
  rw [Int32.lt_iff_toInt_lt, (own_small (by omega)).1, (own_small (by omega)).1]
  omega
theorem own_nlt {n : Nat} : ¬ Int32.ofNat n < Int32.ofNat n := by rw [Int32.lt_iff_toInt_lt]; omega
theorem own_zero {n : Nat} (h : n < 1000) : Int32.ofNat n = 0 ↔ n = 0 := by
  constructor
  · intro q
    have e := congrArg Int32.toInt q
    rw [(own_small h).1] at e
    simp only [Int32.reduceToInt] at e
    omega
  · intro q; subst q; rfl
theorem own_pre_len (kf : Int32 → Int32) {bs pre rest : List Int32} {b : Int32} (h : bs = pre ++ b :: rest) : (own_flat kf pre).length + (own_enc b (kf b)).length ≤ (own_flat kf bs).length := by
  rw [h]; simp [own_flat]
theorem own_flat9 (kf : Int32 → Int32) {bs : List Int32} (hb : bs.length ≤ 3) : (own_flat kf bs).length ≤ 9 := by
  rw [own_flat_len]; have := own_cnt_le kf bs; omega
theorem own_total (kf : Int32 → Int32) {bs : List Int32} (hb : bs.length ≤ 3) : Int32.ofNat bs.length + (2 : Int32) * Int32.ofNat (own_cnt kf bs) = Int32.ofNat (own_flat kf bs).length := by
  have h1 := own_cnt_le kf bs
  have h9 := own_flat9 kf hb
  have h2 := own_flat_len kf bs
  have a1 := c_imul (2 : Int32) (Int32.ofNat (own_cnt kf bs))
  have a2 := c_iadd (Int32.ofNat bs.length) ((2 : Int32) * Int32.ofNat (own_cnt kf bs))
  have r1 := rng32 ((2 : Int32) * Int32.ofNat (own_cnt kf bs))
  have r2 := rng32 (Int32.ofNat bs.length + (2 : Int32) * Int32.ofNat (own_cnt kf bs))
  rw [(own_small (show own_cnt kf bs < 1000 by omega)).1] at a1
  rw [(own_small (show bs.length < 1000 by omega)).1] at a2
  apply Int32.toInt_inj.mp
  rw [(own_small (show (own_flat kf bs).length < 1000 by omega)).1]
  simp only [Int32.reduceToInt] at a1
  omega
theorem own_u_X {Z : State} {h : Heap} {a : Addr} {k : ClassId} {bs : List Int32} (V : Arv Z h a k .byte (Int32.ofNat bs.length) (bs.map Value.int) (.int 0)) : own_X Z h a k bs.length bs := by
  unfold own_X
  simpa using V
theorem own_enc0 {b k : Int32} (h : k = 0) : own_enc b k = [nar .byte 37, nar .byte (own_H ((b >>> ((4 : Int32) &&& 31)) &&& (15 : Int32))), nar .byte (own_H (b &&& (15 : Int32)))] := by
  simp only [own_enc, if_pos h, own_sh, own_hex_H (own_lo _)]
theorem own_enc1 {b k : Int32} (h : ¬ k = 0) : own_enc b k = [nar .byte b] := by simp only [own_enc, if_neg h]
theorem own_in16 {cl : Cell} {j : Int32} (S : cl.slots.size = 16) (hj : 0 ≤ j.toInt ∧ j.toInt < 16) : ¬ (j < 0 ∨ cl.slots.size ≤ j.toNatClampNeg) := by
  rw [S, Int32.lt_iff_toInt_lt]
  simp only [Int32.toNatClampNeg, Int32.reduceToInt]
  omega
/-- an array of 256 booleans, whatever they are -/
def own_B (Z : State) (h : Heap) (a : Addr) : Prop := ∃ cl : Cell, Arr Z h a cl .boolean ∧ cl.slots.size = (256 : Int32).toNatClampNeg ∧ ∀ i, i < 256 → ∃ k : Int32, cl.slots[i]? = some (.int k)
theorem own_B_new {Z : State} {h : Heap} {a : Addr} {k : ClassId} (A : Arr Z h a (newA k .boolean (256 : Int32)) .boolean) : own_B Z h a :=
  ⟨_, A, sz_new _ _ _, fun i hi => ⟨0, by
    have e : (256 : Int32).toNatClampNeg = 256 := by decide
    simp [newA, e, hi, defaultValue]⟩⟩
theorem own_B_set {Z : State} {h h' : Heap} {a : Addr} {cl : Cell} {i : Nat} {x : Int32} (A : Arr Z h a cl .boolean) (S : cl.slots.size = (256 : Int32).toNatClampNeg) (al : ∀ i, i < 256 → ∃ k : Int32, cl.slots[i]? = some (.int k)) (W : Wr h h' a i (.int x)) : own_B Z h' a := by
  refine ⟨_, A.same W, by rw [sz_set]; exact S, fun j hj => ?_⟩
  have e : (256 : Int32).toNatClampNeg = 256 := by decide
  by_cases q : i = j
  · subst q
    exact ⟨x, by simp [Cell.setSlot, S, e, hj]⟩
  · obtain ⟨k, hk⟩ := al j hj
    exact ⟨k, by rw [← hk]; exact Array.getElem?_setIfInBounds_ne q⟩
theorem own_B_tab {Z : State} {h : Heap} {a : Addr} (B : own_B Z h a) : ∃ ck : Cell, Tab Z h a ck .boolean (256 : Int32) := by
  obtain ⟨cl, A, S, al⟩ := B
  refine ⟨cl, A, S, by decide, fun j hj => ?_⟩
  have e : (256 : Int32).toNatClampNeg = 256 := by decide
  obtain ⟨k, hk⟩ := al j.toNatClampNeg (by
    have := Nat.lt_of_not_le fun q => hj (Or.inr q)
    rw [S, e] at this
    exact this)
  rw [hk, atv_of hk]
theorem own_el3 (b k : Int32) : (own_enc b k).length ≤ 3 := by rw [own_enc_len]; split <;> omega
theorem own_cnt0 (kf : Int32 → Int32) (bs : List Int32) (hb : bs.length ≤ 3) (h : Int32.ofNat (own_flat kf bs).length = Int32.ofNat bs.length) : own_cnt kf bs = 0 := by
  have h9 := own_flat9 kf hb
  have e := congrArg Int32.toInt h
  rw [(own_small (by omega)).1, (own_small (by omega)).1, own_flat_len] at e
  omega
theorem own_hs {cr ce : Cell} {F : List Int32} (hF : F.length ≤ 9) (Sr : cr.slots.size = (Int32.ofNat F.length).toNatClampNeg) (Hr : Has cr ((F ++ List.replicate (F.length - F.length) 0).map Value.int) (.int 0)) (Se : ce.slots.size = (Int32.ofNat 9).toNatClampNeg) (He : Has ce ((F ++ List.replicate (9 - F.length) 0).map Value.int) (.int 0)) (i : Nat) (hi : i < 9) :
    Int32.ofNat i < Int32.ofNat F.length → ∃ x : Int32, ¬ (Int32.ofNat i < 0 ∨ cr.slots.size ≤ (Int32.ofNat i).toNatClampNeg) ∧ ¬ (Int32.ofNat i < 0 ∨ ce.slots.size ≤ (Int32.ofNat i).toNatClampNeg) ∧ cr.slots[(Int32.ofNat i).toNatClampNeg]? = some (.int x) ∧ ce.slots[(Int32.ofNat i).toNatClampNeg]? = some (.int x) := by
  intro hlt
  have hl : i < F.length := by
    rw [Int32.lt_iff_toInt_lt, (own_small (by omega)).1, (own_small (by omega)).1] at hlt
    omega
  have i1 := own_in9 (j := Int32.ofNat i) Sr (by omega) rfl hl
  have i2 := own_in9 (j := Int32.ofNat i) Se (by omega) rfl hi
  have e : (Int32.ofNat i).toNatClampNeg = i := (own_small (by omega)).2.1
  refine ⟨F.getD i 0, i1, i2, Has.at Hr i1 ?_, Has.at He i2 ?_⟩
  · rw [own_getI, e]; simp [List.getD_eq_getElem?_getD, List.getElem?_append_left hl]
  · rw [own_getI, e]; simp [List.getD_eq_getElem?_getD, List.getElem?_append_left hl]
theorem own_n4 (a : Int32) : (a &&& (3 : Int32)) = 0 ∨ (a &&& (3 : Int32)) = 1 ∨ (a &&& (3 : Int32)) = 2 ∨ (a &&& (3 : Int32)) = 3 := by
  have h := c_mask a (3 : Int32) 2 (by decide) (by decide)
  have e : ∀ k : Int32, (a &&& (3 : Int32)) = k ↔ (a &&& (3 : Int32)).toInt = k.toInt := fun k => Int32.toInt_inj.symm
  rw [e, e, e, e, h]
  simp only [Int32.reduceToInt]
  omega

theorem pd__28I_29B : parseMethodDescriptor "(I)B" = some ⟨[.int], some .byte⟩ := by decide +kernel
/-! body 1: IriPatternPercentEncodedPinLaw.put -/
theorem d1_0 : decode method_3_code 0 = .ok (.iload_n 3, 1) := by decide +kernel
theorem d1_1 : decode method_3_code 1 = .ok (.ifCond .eq 11, 3) := by decide +kernel
theorem d1_4 : decode method_3_code 4 = .ok (.aload_n 0, 1) := by decide +kernel
theorem d1_5 : decode method_3_code 5 = .ok (.iload_n 1, 1) := by decide +kernel
theorem d1_6 : decode method_3_code 6 = .ok (.iload_n 2, 1) := by decide +kernel
theorem d1_7 : decode method_3_code 7 = .ok (.bastore, 1) := by decide +kernel
theorem d1_8 : decode method_3_code 8 = .ok (.iload_n 1, 1) := by decide +kernel
theorem d1_9 : decode method_3_code 9 = .ok (.iconst 1, 1) := by decide +kernel
theorem d1_10 : decode method_3_code 10 = .ok (.iadd, 1) := by decide +kernel
theorem d1_11 : decode method_3_code 11 = .ok (.ireturn, 1) := by decide +kernel
theorem d1_12 : decode method_3_code 12 = .ok (.aload_n 0, 1) := by decide +kernel
theorem d1_13 : decode method_3_code 13 = .ok (.iload_n 1, 1) := by decide +kernel
theorem d1_14 : decode method_3_code 14 = .ok (.bipush 37, 2) := by decide +kernel
theorem d1_16 : decode method_3_code 16 = .ok (.bastore, 1) := by decide +kernel
theorem d1_17 : decode method_3_code 17 = .ok (.aload_n 0, 1) := by decide +kernel
theorem d1_18 : decode method_3_code 18 = .ok (.iload_n 1, 1) := by decide +kernel
theorem d1_19 : decode method_3_code 19 = .ok (.iconst 1, 1) := by decide +kernel
theorem d1_20 : decode method_3_code 20 = .ok (.iadd, 1) := by decide +kernel
theorem d1_21 : decode method_3_code 21 = .ok (.iload_n 2, 1) := by decide +kernel
theorem d1_22 : decode method_3_code 22 = .ok (.sipush 255, 3) := by decide +kernel
theorem d1_25 : decode method_3_code 25 = .ok (.iand, 1) := by decide +kernel
theorem d1_26 : decode method_3_code 26 = .ok (.iconst 4, 1) := by decide +kernel
theorem d1_27 : decode method_3_code 27 = .ok (.ishr, 1) := by decide +kernel
theorem d1_28 : decode method_3_code 28 = .ok (.invokestatic 23, 3) := by decide +kernel
theorem d1_31 : decode method_3_code 31 = .ok (.bastore, 1) := by decide +kernel
theorem d1_32 : decode method_3_code 32 = .ok (.aload_n 0, 1) := by decide +kernel
theorem d1_33 : decode method_3_code 33 = .ok (.iload_n 1, 1) := by decide +kernel
theorem d1_34 : decode method_3_code 34 = .ok (.iconst 2, 1) := by decide +kernel
theorem d1_35 : decode method_3_code 35 = .ok (.iadd, 1) := by decide +kernel
theorem d1_36 : decode method_3_code 36 = .ok (.iload_n 2, 1) := by decide +kernel
theorem d1_37 : decode method_3_code 37 = .ok (.bipush 15, 2) := by decide +kernel
theorem d1_39 : decode method_3_code 39 = .ok (.iand, 1) := by decide +kernel
theorem d1_40 : decode method_3_code 40 = .ok (.invokestatic 23, 3) := by decide +kernel
theorem d1_43 : decode method_3_code 43 = .ok (.bastore, 1) := by decide +kernel
theorem d1_44 : decode method_3_code 44 = .ok (.iload_n 1, 1) := by decide +kernel
theorem d1_45 : decode method_3_code 45 = .ok (.iconst 3, 1) := by decide +kernel
theorem d1_46 : decode method_3_code 46 = .ok (.iadd, 1) := by decide +kernel
theorem d1_47 : decode method_3_code 47 = .ok (.ireturn, 1) := by decide +kernel
theorem ef_1 (m : MethodId) (x0 : Addr) (x1 : Int32) (x2 : Int32) (x3 : Int32) : entryFrame m #[(.ref x0), (.int x1), (.int x2), (.int x3)] 4 = mkF m 0 #[.val (.ref x0), .val (.int x1), .val (.int x2), .val (.int x3)] [] := by first | (simp [entryFrame, mkF, argsToLocals, Value.category]; done) | rfl
def Q1 (Z : State) (re : Addr) (ix : Int32) (bb : Int32) (kk : Int32) (ke : ClassId) (AA : List Int32) (h0 : Heap) (n0 : Nat) (v : Option Value) (h : Heap) (L : List Loc) : Prop := v = some (.int (Int32.ofNat (AA ++ own_enc bb kk).length)) ∧ Fr n0 L ∧ Keep h0 h [re] ∧ own_X Z h re ke 9 (AA ++ own_enc bb kk)
set_option maxRecDepth 65536 in
set_option maxHeartbeats 40000000 in
theorem rm1 (l : Launch) (Z : State) (a0 : Array Value) (hw : ∀ d ∈ tables_1, d.before a0 Z = true) (ws : List Jvm.Cond) (re : Addr) (ix : Int32) (bb : Int32) (kk : Int32) (ke : ClassId) (AA : List Int32) (h0 : Heap) (n0 : Nat) (Z0 : n0 ≤ h0.size) (V_re : own_X Z h0 re ke 9 AA) (hix : ix = Int32.ofNat AA.length) (hA : AA.length ≤ 6) (g_re : n0 ≤ re) :
    MetFree l (⟨"shelfmark/IriPatternPercentEncodedPinLaw", "put", "([BIBZ)I"⟩ : MethodName) (head1 (Jvm.Cond.code (⟨"shelfmark/IriPatternPercentEncodedPinLaw", "put", "([BIBZ)I"⟩ : MethodName) method_3_code 4 (some .int) :: ws) ({ frames := 1, cells := 0, slots := 0, locals := 14 } : Room)) (fun a U => a = #[(.ref re), (.int ix), (.int bb), (.int kk)] ∧ Z.Warmed39 U.vm ∧ U.heap = h0) (fun _ _ _ _ _ => True) (fun _ U o U' => ∃ v L, o = .returned v ∧ Q1 Z re ix bb kk ke AA h0 n0 v U'.heap L ∧ FrameEnd U o U' L ({ frames := 1, cells := 0, slots := 0, locals := 14 } : Room).cells ({ frames := 1, cells := 0, slots := 0, locals := 14 } : Room).slots) := by
  refine MetFree.of_bodySF (plainFor_of_name pn_shelfmark_IriPatternPercentEncodedPinLaw) hisR ?_
  intro p e s m args below meth c s₁ Bd hml0 hP hK
  obtain ⟨rfl, hZ, hh⟩ := hP
  have hx := Bd.exec
  have hby := Bd.bytes
  have hlk := Bd.notSynchronized
  have hrt := Bd.returns
  have hml : c.maxLocals = 4 := hml0
  have hown : s.vm.findClass "shelfmark/IriPatternPercentEncodedPinLaw" = some m.cls := findClass_of_methodNamed Bd.named
  have hnm := (name_of_methodNamed Bd.named Bd.method).1
  have X0 : Stand p l e ({ frames := 1, cells := 0, slots := 0, locals := 14 } : Room) s m #[(.ref re), (.int ix), (.int bb), (.int kk)] below meth c s₁ [] 0 0 := Stand.of_body Bd
  have e0 : s₁.heap = h0 := by rw [← hh, Bd.state]; rfl
  have N0 := Fr.nil n0
  have K0 := Keep.refl h0 [re]
  refine own_out (Q := Q1 Z re ix bb kk ke AA h0 n0) ?_
  refine own_in (ef_1 m re ix bb kk) ?_
  show own_Go _ _ _ _ s₁ (mkF m 0 #[.val (.ref re), .val (.int ix), .val (.int bb), .val (.int kk)] [])
  refine own_st (fun t k => XS.iloadN X0.here hx rfl (hb hby d1_0) rfl k) ?_
  show own_Go _ _ _ _ s₁ (mkF m 1 #[.val (.ref re), .val (.int ix), .val (.int bb), .val (.int kk)] [(.int kk)])
  by_cases c1_1 : kk = (0 : Int32)
  ·
    refine own_st (fun t k => XS.ifYes X0.here hx rfl (pc0 := 1) (pc' := 12) rfl (hb hby d1_1) rfl ((if0 _ _).trans (teq c1_1).1) (by decide) (by decide) k) ?_
    show own_Go _ _ _ _ s₁ (mkF m 12 #[.val (.ref re), .val (.int ix), .val (.int bb), .val (.int kk)] [])
    refine own_st (fun t k => XS.aloadN X0.here hx rfl (hb hby d1_12) rfl rfl k) ?_
    show own_Go _ _ _ _ s₁ (mkF m 13 #[.val (.ref re), .val (.int ix), .val (.int bb), .val (.int kk)] [(.ref re)])
    refine own_st (fun t k => XS.iloadN X0.here hx rfl (hb hby d1_13) rfl k) ?_
    show own_Go _ _ _ _ s₁ (mkF m 14 #[.val (.ref re), .val (.int ix), .val (.int bb), .val (.int kk)] [(.int ix), (.ref re)])
    refine own_st (fun t k => XS.bipush X0.here hx rfl (hb hby d1_14) k) ?_
    show own_Go _ _ _ _ s₁ (mkF m 16 #[.val (.ref re), .val (.int ix), .val (.int bb), .val (.int kk)] [(.int (37 : Int32)), (.int ix), (.ref re)])
    obtain ⟨cl2, Ar2, qk2, Sz2, Nn2, Hs2, Gf2⟩ := id V_re
    have hla2 : (AA).length = AA.length + 0 := rfl
    have hj2 : ix = Int32.ofNat (AA.length + 0) := hix
    have hin2 := own_in9 Sz2 (by decide) hj2 (by omega)
    obtain ⟨T3, h3, X3, e3, W3, st3⟩ := stB X0 hx hZ e0 Ar2 (j := ix) hin2 (g := (mkF m 16 #[.val (.ref re), .val (.int ix), .val (.int bb), .val (.int kk)] [(.int (37 : Int32)), (.int ix), (.ref re)])) rfl rfl (hb hby d1_16)
    have V3 : own_X Z h3 re ke 9 (AA ++ [nar .byte (37 : Int32)]) := own_push Ar2 qk2 Sz2 Nn2 Hs2 Gf2 (fits_nar_byte _) W3 (by rw [hj2, (own_small (by omega)).2.1, hla2]) (by rw [hla2]; exact (by omega))
    obtain ⟨_, X3, N3⟩ := own_hide X3 (Fr.snoc X3 N0 g_re)
    refine own_st st3 ?_
    show own_Go _ _ _ _ T3 (mkF m 17 #[.val (.ref re), .val (.int ix), .val (.int bb), .val (.int kk)] [])
    refine own_st (fun t k => XS.aloadN X3.here hx rfl (hb hby d1_17) rfl rfl k) ?_
    show own_Go _ _ _ _ T3 (mkF m 18 #[.val (.ref re), .val (.int ix), .val (.int bb), .val (.int kk)] [(.ref re)])
    refine own_st (fun t k => XS.iloadN X3.here hx rfl (hb hby d1_18) rfl k) ?_
    show own_Go _ _ _ _ T3 (mkF m 19 #[.val (.ref re), .val (.int ix), .val (.int bb), .val (.int kk)] [(.int ix), (.ref re)])
    refine own_st (fun t k => XS.iconst X3.here hx rfl (hb hby d1_19) k) ?_
    show own_Go _ _ _ _ T3 (mkF m 20 #[.val (.ref re), .val (.int ix), .val (.int bb), .val (.int kk)] [(.int (1 : Int32)), (.int ix), (.ref re)])
    refine own_st (fun t k => XS.iadd X3.here hx rfl (hb hby d1_20) rfl k) ?_
    show own_Go _ _ _ _ T3 (mkF m 21 #[.val (.ref re), .val (.int ix), .val (.int bb), .val (.int kk)] [(.int (ix + (1 : Int32))), (.ref re)])
    refine own_st (fun t k => XS.iloadN X3.here hx rfl (hb hby d1_21) rfl k) ?_
    show own_Go _ _ _ _ T3 (mkF m 22 #[.val (.ref re), .val (.int ix), .val (.int bb), .val (.int kk)] [(.int bb), (.int (ix + (1 : Int32))), (.ref re)])
    refine own_st (fun t k => XS.sipush X3.here hx rfl (hb hby d1_22) k) ?_
    show own_Go _ _ _ _ T3 (mkF m 25 #[.val (.ref re), .val (.int ix), .val (.int bb), .val (.int kk)] [(.int (255 : Int32)), (.int bb), (.int (ix + (1 : Int32))), (.ref re)])
    refine own_st (fun t k => XS.iand X3.here hx rfl (hb hby d1_25) rfl k) ?_
    show own_Go _ _ _ _ T3 (mkF m 26 #[.val (.ref re), .val (.int ix), .val (.int bb), .val (.int kk)] [(.int (bb &&& (255 : Int32))), (.int (ix + (1 : Int32))), (.ref re)])
    refine own_st (fun t k => XS.iconst X3.here hx rfl (hb hby d1_26) k) ?_
    show own_Go _ _ _ _ T3 (mkF m 27 #[.val (.ref re), .val (.int ix), .val (.int bb), .val (.int kk)] [(.int (4 : Int32)), (.int (bb &&& (255 : Int32))), (.int (ix + (1 : Int32))), (.ref re)])
    refine own_st (fun t k => XS.ishr X3.here hx rfl (hb hby d1_27) rfl k) ?_
    show own_Go _ _ _ _ T3 (mkF m 28 #[.val (.ref re), .val (.int ix), .val (.int bb), .val (.int kk)] [(.int ((bb &&& (255 : Int32)) >>> ((4 : Int32) &&& 31))), (.int (ix + (1 : Int32))), (.ref re)])
    have K0_5 := (K0.wr W3 (Or.inl (List.mem_of_getElem? (i := 0) rfl)))
    obtain ⟨_, _, ⟨T4, L4, k4, n4⟩, -, X4, ⟨Lc4, hQ4, l4, y4, z4⟩, st4⟩ := Jvm.LawKit.callS X3 hx (y := (⟨"shelfmark/IriPatternPercentEncodedPinLaw", "hex", "(I)B"⟩ : MethodName)) hown (mvT hZ (hw _ (List.mem_of_getElem? (i := 6) rfl))) (mvT hZ (hw _ (List.mem_of_getElem? (i := 7) rfl))) (mvT hZ (hw _ (List.mem_of_getElem? (i := 4) rfl))) (mvT hZ (hw _ (List.mem_of_getElem? (i := 8) rfl))) (by decide) (backOf (W := 2) (rm2 l Z a0 hw [] ((bb &&& (255 : Int32)) >>> ((4 : Int32) &&& 31))  h3 n0 (Nat.le_trans Z0 K0_5.1) ) hZ (hw _ (List.mem_of_getElem? (i := 8) rfl)) (hw _ (List.mem_of_getElem? (i := 4) rfl)) (by decide) (by decide)) (g := (mkF m 28 #[.val (.ref re), .val (.int ix), .val (.int bb), .val (.int kk)] [(.int ((bb &&& (255 : Int32)) >>> ((4 : Int32) &&& 31))), (.int (ix + (1 : Int32))), (.ref re)])) rfl (by rw [hml]; rfl) (argsL := [(.int ((bb &&& (255 : Int32)) >>> ((4 : Int32) &&& 31)))]) (rest := [(.int (ix + (1 : Int32))), (.ref re)]) (lenOf pd__28I_29B rfl) rfl (by show 2 * 0 + _ ≤ _; exact Nat.le_of_eq rfl) (hb hby d1_28) (fun _ _ => ⟨rfl, e3, (by decide : 0 + 0 ≤ _), (by decide : 0 + 0 ≤ _)⟩)
    dsimp only [Pt.U, Pt.locs, Pt.cells, Pt.slots] at X4 l4 y4 z4 st4 hQ4
    subst l4 y4 z4
    obtain ⟨rfl, N4q, e4⟩ := hQ4
    obtain ⟨_, X4, N4⟩ := own_hide X4 (Fr.app N3 N4q)
    refine own_st st4 ?_
    show own_Go _ _ _ _ T4 (mkF m 31 #[.val (.ref re), .val (.int ix), .val (.int bb), .val (.int kk)] [(.int (own_hex ((bb &&& (255 : Int32)) >>> ((4 : Int32) &&& 31)))), (.int (ix + (1 : Int32))), (.ref re)])
    obtain ⟨cl6, Ar6, qk6, Sz6, Nn6, Hs6, Gf6⟩ := id V3
    have hla6 : ((AA ++ [nar .byte (37 : Int32)])).length = AA.length + 1 := by simp
    have hj6 : (ix + (1 : Int32)) = Int32.ofNat (AA.length + 1) := (by rw [hix]; exact own_plus (by omega) 1 (by decide))
    have hin6 := own_in9 Sz6 (by decide) hj6 (by omega)
    obtain ⟨T7, h7, X7, e7, W7, st7⟩ := stB X4 hx hZ e4 Ar6 (j := (ix + (1 : Int32))) hin6 (g := (mkF m 31 #[.val (.ref re), .val (.int ix), .val (.int bb), .val (.int kk)] [(.int (own_hex ((bb &&& (255 : Int32)) >>> ((4 : Int32) &&& 31)))), (.int (ix + (1 : Int32))), (.ref re)])) rfl rfl (hb hby d1_31)
    have V7 : own_X Z h7 re ke 9 ((AA ++ [nar .byte (37 : Int32)]) ++ [nar .byte (own_hex ((bb &&& (255 : Int32)) >>> ((4 : Int32) &&& 31)))]) := own_push Ar6 qk6 Sz6 Nn6 Hs6 Gf6 (fits_nar_byte _) W7 (by rw [hj6, (own_small (by omega)).2.1, hla6]) (by rw [hla6]; exact (by omega))
    obtain ⟨_, X7, N7⟩ := own_hide X7 (Fr.snoc X7 N4 g_re)
    refine own_st st7 ?_
    show own_Go _ _ _ _ T7 (mkF m 32 #[.val (.ref re), .val (.int ix), .val (.int bb), .val (.int kk)] [])
    refine own_st (fun t k => XS.aloadN X7.here hx rfl (hb hby d1_32) rfl rfl k) ?_
    show own_Go _ _ _ _ T7 (mkF m 33 #[.val (.ref re), .val (.int ix), .val (.int bb), .val (.int kk)] [(.ref re)])
    refine own_st (fun t k => XS.iloadN X7.here hx rfl (hb hby d1_33) rfl k) ?_
    show own_Go _ _ _ _ T7 (mkF m 34 #[.val (.ref re), .val (.int ix), .val (.int bb), .val (.int kk)] [(.int ix), (.ref re)])
    refine own_st (fun t k => XS.iconst X7.here hx rfl (hb hby d1_34) k) ?_
    show own_Go _ _ _ _ T7 (mkF m 35 #[.val (.ref re), .val (.int ix), .val (.int bb), .val (.int kk)] [(.int (2 : Int32)), (.int ix), (.ref re)])
    refine own_st (fun t k => XS.iadd X7.here hx rfl (hb hby d1_35) rfl k) ?_
    show own_Go _ _ _ _ T7 (mkF m 36 #[.val (.ref re), .val (.int ix), .val (.int bb), .val (.int kk)] [(.int (ix + (2 : Int32))), (.ref re)])
    refine own_st (fun t k => XS.iloadN X7.here hx rfl (hb hby d1_36) rfl k) ?_
    show own_Go _ _ _ _ T7 (mkF m 37 #[.val (.ref re), .val (.int ix), .val (.int bb), .val (.int kk)] [(.int bb), (.int (ix + (2 : Int32))), (.ref re)])
    refine own_st (fun t k => XS.bipush X7.here hx rfl (hb hby d1_37) k) ?_
    show own_Go _ _ _ _ T7 (mkF m 39 #[.val (.ref re), .val (.int ix), .val (.int bb), .val (.int kk)] [(.int (15 : Int32)), (.int bb), (.int (ix + (2 : Int32))), (.ref re)])
    refine own_st (fun t k => XS.iand X7.here hx rfl (hb hby d1_39) rfl k) ?_
    show own_Go _ _ _ _ T7 (mkF m 40 #[.val (.ref re), .val (.int ix), .val (.int bb), .val (.int kk)] [(.int (bb &&& (15 : Int32))), (.int (ix + (2 : Int32))), (.ref re)])
    have K0_9 := (K0_5.wr W7 (Or.inl (List.mem_of_getElem? (i := 0) rfl)))
    obtain ⟨_, _, ⟨T8, L8, k8, n8⟩, -, X8, ⟨Lc8, hQ8, l8, y8, z8⟩, st8⟩ := Jvm.LawKit.callS X7 hx (y := (⟨"shelfmark/IriPatternPercentEncodedPinLaw", "hex", "(I)B"⟩ : MethodName)) hown (mvT hZ (hw _ (List.mem_of_getElem? (i := 6) rfl))) (mvT hZ (hw _ (List.mem_of_getElem? (i := 7) rfl))) (mvT hZ (hw _ (List.mem_of_getElem? (i := 4) rfl))) (mvT hZ (hw _ (List.mem_of_getElem? (i := 8) rfl))) (by decide) (backOf (W := 2) (rm2 l Z a0 hw [] (bb &&& (15 : Int32))  h7 n0 (Nat.le_trans Z0 K0_9.1) ) hZ (hw _ (List.mem_of_getElem? (i := 8) rfl)) (hw _ (List.mem_of_getElem? (i := 4) rfl)) (by decide) (by decide)) (g := (mkF m 40 #[.val (.ref re), .val (.int ix), .val (.int bb), .val (.int kk)] [(.int (bb &&& (15 : Int32))), (.int (ix + (2 : Int32))), (.ref re)])) rfl (by rw [hml]; rfl) (argsL := [(.int (bb &&& (15 : Int32)))]) (rest := [(.int (ix + (2 : Int32))), (.ref re)]) (lenOf pd__28I_29B rfl) rfl (by show 2 * 0 + _ ≤ _; exact Nat.le_of_eq rfl) (hb hby d1_40) (fun _ _ => ⟨rfl, e7, (by decide : 0 + 0 ≤ _), (by decide : 0 + 0 ≤ _)⟩)
    dsimp only [Pt.U, Pt.locs, Pt.cells, Pt.slots] at X8 l8 y8 z8 st8 hQ8
    subst l8 y8 z8
    obtain ⟨rfl, N8q, e8⟩ := hQ8
    obtain ⟨_, X8, N8⟩ := own_hide X8 (Fr.app N7 N8q)
    refine own_st st8 ?_
    show own_Go _ _ _ _ T8 (mkF m 43 #[.val (.ref re), .val (.int ix), .val (.int bb), .val (.int kk)] [(.int (own_hex (bb &&& (15 : Int32)))), (.int (ix + (2 : Int32))), (.ref re)])
    obtain ⟨cl10, Ar10, qk10, Sz10, Nn10, Hs10, Gf10⟩ := id V7
    have hla10 : (((AA ++ [nar .byte (37 : Int32)]) ++ [nar .byte (own_hex ((bb &&& (255 : Int32)) >>> ((4 : Int32) &&& 31)))])).length = AA.length + 2 := by simp
    have hj10 : (ix + (2 : Int32)) = Int32.ofNat (AA.length + 2) := (by rw [hix]; exact own_plus (by omega) 2 (by decide))
    have hin10 := own_in9 Sz10 (by decide) hj10 (by omega)
    obtain ⟨T11, h11, X11, e11, W11, st11⟩ := stB X8 hx hZ e8 Ar10 (j := (ix + (2 : Int32))) hin10 (g := (mkF m 43 #[.val (.ref re), .val (.int ix), .val (.int bb), .val (.int kk)] [(.int (own_hex (bb &&& (15 : Int32)))), (.int (ix + (2 : Int32))), (.ref re)])) rfl rfl (hb hby d1_43)
    have V11 : own_X Z h11 re ke 9 (((AA ++ [nar .byte (37 : Int32)]) ++ [nar .byte (own_hex ((bb &&& (255 : Int32)) >>> ((4 : Int32) &&& 31)))]) ++ [nar .byte (own_hex (bb &&& (15 : Int32)))]) := own_push Ar10 qk10 Sz10 Nn10 Hs10 Gf10 (fits_nar_byte _) W11 (by rw [hj10, (own_small (by omega)).2.1, hla10]) (by rw [hla10]; exact (by omega))
    obtain ⟨_, X11, N11⟩ := own_hide X11 (Fr.snoc X11 N8 g_re)
    refine own_st st11 ?_
    show own_Go _ _ _ _ T11 (mkF m 44 #[.val (.ref re), .val (.int ix), .val (.int bb), .val (.int kk)] [])
    refine own_st (fun t k => XS.iloadN X11.here hx rfl (hb hby d1_44) rfl k) ?_
    show own_Go _ _ _ _ T11 (mkF m 45 #[.val (.ref re), .val (.int ix), .val (.int bb), .val (.int kk)] [(.int ix)])
    refine own_st (fun t k => XS.iconst X11.here hx rfl (hb hby d1_45) k) ?_
    show own_Go _ _ _ _ T11 (mkF m 46 #[.val (.ref re), .val (.int ix), .val (.int bb), .val (.int kk)] [(.int (3 : Int32)), (.int ix)])
    refine own_st (fun t k => XS.iadd X11.here hx rfl (hb hby d1_46) rfl k) ?_
    show own_Go _ _ _ _ T11 (mkF m 47 #[.val (.ref re), .val (.int ix), .val (.int bb), .val (.int kk)] [(.int (ix + (3 : Int32)))])
    have K0_12 := (K0_9.wr W11 (Or.inl (List.mem_of_getElem? (i := 0) rfl)))
    exact own_retI X11 hx hlk hrt (hb hby d1_47) (by rw [e11]; exact ⟨(by rw [List.length_append, own_enc_len, if_pos c1_1, ← own_plus (by omega) 3 (by decide), ← hix]; rfl), N11, K0_12, (by have e : AA ++ own_enc bb kk = (((AA ++ [nar .byte (37 : Int32)]) ++ [nar .byte (own_hex ((bb &&& (255 : Int32)) >>> ((4 : Int32) &&& 31)))]) ++ [nar .byte (own_hex (bb &&& (15 : Int32)))]) := (by simp only [own_enc, if_pos c1_1, List.append_assoc, List.cons_append, List.nil_append]); rw [e]; exact V11)⟩) (by decide) (by decide)
  ·
    refine own_st (fun t k => XS.ifNo X0.here hx rfl (hb hby d1_1) rfl ((if0 _ _).trans (feq c1_1).1) k) ?_
    show own_Go _ _ _ _ s₁ (mkF m 4 #[.val (.ref re), .val (.int ix), .val (.int bb), .val (.int kk)] [])
    refine own_st (fun t k => XS.aloadN X0.here hx rfl (hb hby d1_4) rfl rfl k) ?_
    show own_Go _ _ _ _ s₁ (mkF m 5 #[.val (.ref re), .val (.int ix), .val (.int bb), .val (.int kk)] [(.ref re)])
    refine own_st (fun t k => XS.iloadN X0.here hx rfl (hb hby d1_5) rfl k) ?_
    show own_Go _ _ _ _ s₁ (mkF m 6 #[.val (.ref re), .val (.int ix), .val (.int bb), .val (.int kk)] [(.int ix), (.ref re)])
    refine own_st (fun t k => XS.iloadN X0.here hx rfl (hb hby d1_6) rfl k) ?_
    show own_Go _ _ _ _ s₁ (mkF m 7 #[.val (.ref re), .val (.int ix), .val (.int bb), .val (.int kk)] [(.int bb), (.int ix), (.ref re)])
    obtain ⟨cl13, Ar13, qk13, Sz13, Nn13, Hs13, Gf13⟩ := id V_re
    have hla13 : (AA).length = AA.length + 0 := rfl
    have hj13 : ix = Int32.ofNat (AA.length + 0) := hix
    have hin13 := own_in9 Sz13 (by decide) hj13 (by omega)
    obtain ⟨T14, h14, X14, e14, W14, st14⟩ := stB X0 hx hZ e0 Ar13 (j := ix) hin13 (g := (mkF m 7 #[.val (.ref re), .val (.int ix), .val (.int bb), .val (.int kk)] [(.int bb), (.int ix), (.ref re)])) rfl rfl (hb hby d1_7)
    have V14 : own_X Z h14 re ke 9 (AA ++ [nar .byte bb]) := own_push Ar13 qk13 Sz13 Nn13 Hs13 Gf13 (fits_nar_byte _) W14 (by rw [hj13, (own_small (by omega)).2.1, hla13]) (by rw [hla13]; exact (by omega))
    obtain ⟨_, X14, N14⟩ := own_hide X14 (Fr.snoc X14 N0 g_re)
    refine own_st st14 ?_
    show own_Go _ _ _ _ T14 (mkF m 8 #[.val (.ref re), .val (.int ix), .val (.int bb), .val (.int kk)] [])
    refine own_st (fun t k => XS.iloadN X14.here hx rfl (hb hby d1_8) rfl k) ?_
    show own_Go _ _ _ _ T14 (mkF m 9 #[.val (.ref re), .val (.int ix), .val (.int bb), .val (.int kk)] [(.int ix)])
    refine own_st (fun t k => XS.iconst X14.here hx rfl (hb hby d1_9) k) ?_
    show own_Go _ _ _ _ T14 (mkF m 10 #[.val (.ref re), .val (.int ix), .val (.int bb), .val (.int kk)] [(.int (1 : Int32)), (.int ix)])
    refine own_st (fun t k => XS.iadd X14.here hx rfl (hb hby d1_10) rfl k) ?_
    show own_Go _ _ _ _ T14 (mkF m 11 #[.val (.ref re), .val (.int ix), .val (.int bb), .val (.int kk)] [(.int (ix + (1 : Int32)))])
    have K0_15 := (K0.wr W14 (Or.inl (List.mem_of_getElem? (i := 0) rfl)))
    exact own_retI X14 hx hlk hrt (hb hby d1_11) (by rw [e14]; exact ⟨(by rw [List.length_append, own_enc_len, if_neg c1_1, ← own_plus (by omega) 1 (by decide), ← hix]; rfl), N14, K0_15, (by have e : AA ++ own_enc bb kk = (AA ++ [nar .byte bb]) := (by simp only [own_enc, if_neg c1_1, List.append_assoc, List.cons_append, List.nil_append]); rw [e]; exact V14)⟩) (by decide) (by decide)
/-! body 4: IriPatternPercentEncodedPinLaw.same -/
theorem d4_0 : decode method_5_code 0 = .ok (.iload_n 2, 1) := by decide +kernel
theorem d4_1 : decode method_5_code 1 = .ok (.iload_n 3, 1) := by decide +kernel
theorem d4_2 : decode method_5_code 2 = .ok (.if_icmp .ge 12, 3) := by decide +kernel
theorem d4_5 : decode method_5_code 5 = .ok (.aload_n 0, 1) := by decide +kernel
theorem d4_6 : decode method_5_code 6 = .ok (.iload_n 2, 1) := by decide +kernel
theorem d4_7 : decode method_5_code 7 = .ok (.baload, 1) := by decide +kernel
theorem d4_8 : decode method_5_code 8 = .ok (.aload_n 1, 1) := by decide +kernel
theorem d4_9 : decode method_5_code 9 = .ok (.iload_n 2, 1) := by decide +kernel
theorem d4_10 : decode method_5_code 10 = .ok (.baload, 1) := by decide +kernel
theorem d4_11 : decode method_5_code 11 = .ok (.if_icmp .ne 7, 3) := by decide +kernel
theorem d4_14 : decode method_5_code 14 = .ok (.iconst 1, 1) := by decide +kernel
theorem d4_15 : decode method_5_code 15 = .ok (.goto 4, 3) := by decide +kernel
theorem d4_19 : decode method_5_code 19 = .ok (.ireturn, 1) := by decide +kernel
theorem ef_4 (m : MethodId) (x0 : Addr) (x1 : Addr) (x2 : Int32) (x3 : Int32) : entryFrame m #[(.ref x0), (.ref x1), (.int x2), (.int x3)] 4 = mkF m 0 #[.val (.ref x0), .val (.ref x1), .val (.int x2), .val (.int x3)] [] := by first | (simp [entryFrame, mkF, argsToLocals, Value.category]; done) | rfl
def Q4 (Z : State) (rr : Addr) (re : Addr) (ii : Int32) (mm : Int32) (cr : Cell) (ce : Cell) (h0 : Heap) (n0 : Nat) (v : Option Value) (h : Heap) (L : List Loc) : Prop := v = some (.int (1 : Int32)) ∧ Fr n0 L ∧ h = h0
set_option maxRecDepth 65536 in
set_option maxHeartbeats 40000000 in
theorem rm4 (l : Launch) (Z : State) (a0 : Array Value) (hw : ∀ d ∈ tables_1, d.before a0 Z = true) (ws : List Jvm.Cond) (rr : Addr) (re : Addr) (ii : Int32) (mm : Int32) (cr : Cell) (ce : Cell) (h0 : Heap) (n0 : Nat) (Z0 : n0 ≤ h0.size) (A_r : Arr Z h0 rr cr .byte) (A_e : Arr Z h0 re ce .byte) (hs : ii < mm → ∃ x : Int32, ¬ (ii < 0 ∨ cr.slots.size ≤ ii.toNatClampNeg) ∧ ¬ (ii < 0 ∨ ce.slots.size ≤ ii.toNatClampNeg) ∧ cr.slots[ii.toNatClampNeg]? = some (.int x) ∧ ce.slots[ii.toNatClampNeg]? = some (.int x)) :
    MetFree l (⟨"shelfmark/IriPatternPercentEncodedPinLaw", "same", "([B[BII)Z"⟩ : MethodName) (head1 (Jvm.Cond.code (⟨"shelfmark/IriPatternPercentEncodedPinLaw", "same", "([B[BII)Z"⟩ : MethodName) method_5_code 4 (some .boolean) :: ws) ({ frames := 0, cells := 0, slots := 0, locals := 0 } : Room)) (fun a U => a = #[(.ref rr), (.ref re), (.int ii), (.int mm)] ∧ Z.Warmed39 U.vm ∧ U.heap = h0) (fun _ _ _ _ _ => True) (fun _ U o U' => ∃ v L, o = .returned v ∧ Q4 Z rr re ii mm cr ce h0 n0 v U'.heap L ∧ FrameEnd U o U' L ({ frames := 0, cells := 0, slots := 0, locals := 0 } : Room).cells ({ frames := 0, cells := 0, slots := 0, locals := 0 } : Room).slots) := by
  refine MetFree.of_bodySF (plainFor_of_name pn_shelfmark_IriPatternPercentEncodedPinLaw) hisR ?_
  intro p e s m args below meth c s₁ Bd hml0 hP hK
  obtain ⟨rfl, hZ, hh⟩ := hP
  have hx := Bd.exec
  have hby := Bd.bytes
  have hlk := Bd.notSynchronized
  have hrt := Bd.returns
  have hml : c.maxLocals = 4 := hml0
  have hown : s.vm.findClass "shelfmark/IriPatternPercentEncodedPinLaw" = some m.cls := findClass_of_methodNamed Bd.named
  have hnm := (name_of_methodNamed Bd.named Bd.method).1
  have X0 : Stand p l e ({ frames := 0, cells := 0, slots := 0, locals := 0 } : Room) s m #[(.ref rr), (.ref re), (.int ii), (.int mm)] below meth c s₁ [] 0 0 := Stand.of_body Bd
  have e0 : s₁.heap = h0 := by rw [← hh, Bd.state]; rfl
  have N0 := Fr.nil n0
  have K0 := Keep.refl h0 []
  refine own_out (Q := Q4 Z rr re ii mm cr ce h0 n0) ?_
  refine own_in (ef_4 m rr re ii mm) ?_
  show own_Go _ _ _ _ s₁ (mkF m 0 #[.val (.ref rr), .val (.ref re), .val (.int ii), .val (.int mm)] [])
  refine own_st (fun t k => XS.iloadN X0.here hx rfl (hb hby d4_0) rfl k) ?_
  show own_Go _ _ _ _ s₁ (mkF m 1 #[.val (.ref rr), .val (.ref re), .val (.int ii), .val (.int mm)] [(.int ii)])
  refine own_st (fun t k => XS.iloadN X0.here hx rfl (hb hby d4_1) rfl k) ?_
  show own_Go _ _ _ _ s₁ (mkF m 2 #[.val (.ref rr), .val (.ref re), .val (.int ii), .val (.int mm)] [(.int mm), (.int ii)])
  by_cases c2_1 : ii < mm
  ·
    refine own_st (fun t k => XS.icmpNo X0.here hx rfl (hb hby d4_2) rfl (tlt c2_1).2.1 k) ?_
    show own_Go _ _ _ _ s₁ (mkF m 5 #[.val (.ref rr), .val (.ref re), .val (.int ii), .val (.int mm)] [])
    refine own_st (fun t k => XS.aloadN X0.here hx rfl (hb hby d4_5) rfl rfl k) ?_
    show own_Go _ _ _ _ s₁ (mkF m 6 #[.val (.ref rr), .val (.ref re), .val (.int ii), .val (.int mm)] [(.ref rr)])
    refine own_st (fun t k => XS.iloadN X0.here hx rfl (hb hby d4_6) rfl k) ?_
    show own_Go _ _ _ _ s₁ (mkF m 7 #[.val (.ref rr), .val (.ref re), .val (.int ii), .val (.int mm)] [(.int ii), (.ref rr)])
    obtain ⟨xx, hi1, hi2, ha1, ha2⟩ := hs c2_1
    refine own_st (X0.baloadBytes hx (j := ii) (v := (.int xx)) (by rw [e0]; exact A_r.1) (State.isArrayOf_alike hZ.alike A_r.2.1) A_r.2.2 hi1 ha1 (g := (mkF m 7 #[.val (.ref rr), .val (.ref re), .val (.int ii), .val (.int mm)] [(.int ii), (.ref rr)])) rfl rfl (hb hby d4_7)) ?_
    show own_Go _ _ _ _ s₁ (mkF m 8 #[.val (.ref rr), .val (.ref re), .val (.int ii), .val (.int mm)] [(.int xx)])
    refine own_st (fun t k => XS.aloadN X0.here hx rfl (hb hby d4_8) rfl rfl k) ?_
    show own_Go _ _ _ _ s₁ (mkF m 9 #[.val (.ref rr), .val (.ref re), .val (.int ii), .val (.int mm)] [(.ref re), (.int xx)])
    refine own_st (fun t k => XS.iloadN X0.here hx rfl (hb hby d4_9) rfl k) ?_
    show own_Go _ _ _ _ s₁ (mkF m 10 #[.val (.ref rr), .val (.ref re), .val (.int ii), .val (.int mm)] [(.int ii), (.ref re), (.int xx)])
    refine own_st (X0.baloadBytes hx (j := ii) (v := (.int xx)) (by rw [e0]; exact A_e.1) (State.isArrayOf_alike hZ.alike A_e.2.1) A_e.2.2 hi2 ha2 (g := (mkF m 10 #[.val (.ref rr), .val (.ref re), .val (.int ii), .val (.int mm)] [(.int ii), (.ref re), (.int xx)])) rfl rfl (hb hby d4_10)) ?_
    show own_Go _ _ _ _ s₁ (mkF m 11 #[.val (.ref rr), .val (.ref re), .val (.int ii), .val (.int mm)] [(.int xx), (.int xx)])
    refine own_st (fun t k => XS.icmpNo X0.here hx rfl (hb hby d4_11) rfl (teq rfl).2 k) ?_
    show own_Go _ _ _ _ s₁ (mkF m 14 #[.val (.ref rr), .val (.ref re), .val (.int ii), .val (.int mm)] [])
    refine own_st (fun t k => XS.iconst X0.here hx rfl (hb hby d4_14) k) ?_
    show own_Go _ _ _ _ s₁ (mkF m 15 #[.val (.ref rr), .val (.ref re), .val (.int ii), .val (.int mm)] [(.int (1 : Int32))])
    refine own_st (fun t k => XS.goto X0.here hx rfl (pc0 := 15) (pc' := 19) rfl (hb hby d4_15) (by decide) (by decide) k) ?_
    show own_Go _ _ _ _ s₁ (mkF m 19 #[.val (.ref rr), .val (.ref re), .val (.int ii), .val (.int mm)] [(.int (1 : Int32))])
    exact own_retN X0 hx hlk (t := .boolean) hrt (by simp) (hb hby d4_19) ⟨rfl, N0, e0⟩ (by decide) (by decide)
  ·
    refine own_st (fun t k => XS.icmpYes X0.here hx rfl (pc0 := 2) (pc' := 14) rfl (hb hby d4_2) rfl (flt c2_1).2.1 (by decide) (by decide) k) ?_
    show own_Go _ _ _ _ s₁ (mkF m 14 #[.val (.ref rr), .val (.ref re), .val (.int ii), .val (.int mm)] [])
    refine own_st (fun t k => XS.iconst X0.here hx rfl (hb hby d4_14) k) ?_
    show own_Go _ _ _ _ s₁ (mkF m 15 #[.val (.ref rr), .val (.ref re), .val (.int ii), .val (.int mm)] [(.int (1 : Int32))])
    refine own_st (fun t k => XS.goto X0.here hx rfl (pc0 := 15) (pc' := 19) rfl (hb hby d4_15) (by decide) (by decide) k) ?_
    show own_Go _ _ _ _ s₁ (mkF m 19 #[.val (.ref rr), .val (.ref re), .val (.int ii), .val (.int mm)] [(.int (1 : Int32))])
    exact own_retN X0 hx hlk (t := .boolean) hrt (by simp) (hb hby d4_19) ⟨rfl, N0, e0⟩ (by decide) (by decide)
/-! body 3: IriPattern.percentEncoded -/
theorem d3_0 : decode prog_17_method_6_code 0 = .ok (.iconst 0, 1) := by decide +kernel
theorem d3_1 : decode prog_17_method_6_code 1 = .ok (.istore_n 2, 1) := by decide +kernel
theorem d3_2 : decode prog_17_method_6_code 2 = .ok (.aload_n 0, 1) := by decide +kernel
theorem d3_3 : decode prog_17_method_6_code 3 = .ok (.astore_n 3, 1) := by decide +kernel
theorem d3_4 : decode prog_17_method_6_code 4 = .ok (.aload_n 3, 1) := by decide +kernel
theorem d3_5 : decode prog_17_method_6_code 5 = .ok (.arraylength, 1) := by decide +kernel
theorem d3_6 : decode prog_17_method_6_code 6 = .ok (.istore 4, 2) := by decide +kernel
theorem d3_8 : decode prog_17_method_6_code 8 = .ok (.iconst 0, 1) := by decide +kernel
theorem d3_9 : decode prog_17_method_6_code 9 = .ok (.istore 5, 2) := by decide +kernel
theorem d3_11 : decode prog_17_method_6_code 11 = .ok (.iload 5, 2) := by decide +kernel
theorem d3_13 : decode prog_17_method_6_code 13 = .ok (.iload 4, 2) := by decide +kernel
theorem d3_15 : decode prog_17_method_6_code 15 = .ok (.if_icmp .ge 34, 3) := by decide +kernel
theorem d3_18 : decode prog_17_method_6_code 18 = .ok (.aload_n 3, 1) := by decide +kernel
theorem d3_19 : decode prog_17_method_6_code 19 = .ok (.iload 5, 2) := by decide +kernel
theorem d3_21 : decode prog_17_method_6_code 21 = .ok (.baload, 1) := by decide +kernel
theorem d3_22 : decode prog_17_method_6_code 22 = .ok (.istore 6, 2) := by decide +kernel
theorem d3_24 : decode prog_17_method_6_code 24 = .ok (.iload_n 2, 1) := by decide +kernel
theorem d3_25 : decode prog_17_method_6_code 25 = .ok (.aload_n 1, 1) := by decide +kernel
theorem d3_26 : decode prog_17_method_6_code 26 = .ok (.iload 6, 2) := by decide +kernel
theorem d3_28 : decode prog_17_method_6_code 28 = .ok (.sipush 255, 3) := by decide +kernel
theorem d3_31 : decode prog_17_method_6_code 31 = .ok (.iand, 1) := by decide +kernel
theorem d3_32 : decode prog_17_method_6_code 32 = .ok (.baload, 1) := by decide +kernel
theorem d3_33 : decode prog_17_method_6_code 33 = .ok (.ifCond .eq 7, 3) := by decide +kernel
theorem d3_36 : decode prog_17_method_6_code 36 = .ok (.iconst 0, 1) := by decide +kernel
theorem d3_37 : decode prog_17_method_6_code 37 = .ok (.goto 4, 3) := by decide +kernel
theorem d3_40 : decode prog_17_method_6_code 40 = .ok (.iconst 1, 1) := by decide +kernel
theorem d3_41 : decode prog_17_method_6_code 41 = .ok (.iadd, 1) := by decide +kernel
theorem d3_42 : decode prog_17_method_6_code 42 = .ok (.istore_n 2, 1) := by decide +kernel
theorem d3_43 : decode prog_17_method_6_code 43 = .ok (.iinc 5 1, 3) := by decide +kernel
theorem d3_46 : decode prog_17_method_6_code 46 = .ok (.goto (-35), 3) := by decide +kernel
theorem d3_49 : decode prog_17_method_6_code 49 = .ok (.iload_n 2, 1) := by decide +kernel
theorem d3_50 : decode prog_17_method_6_code 50 = .ok (.ifCond .ne 5, 3) := by decide +kernel
theorem d3_53 : decode prog_17_method_6_code 53 = .ok (.aload_n 0, 1) := by decide +kernel
theorem d3_54 : decode prog_17_method_6_code 54 = .ok (.areturn, 1) := by decide +kernel
theorem d3_55 : decode prog_17_method_6_code 55 = .ok (.aload_n 0, 1) := by decide +kernel
theorem d3_56 : decode prog_17_method_6_code 56 = .ok (.arraylength, 1) := by decide +kernel
theorem d3_57 : decode prog_17_method_6_code 57 = .ok (.iconst 2, 1) := by decide +kernel
theorem d3_58 : decode prog_17_method_6_code 58 = .ok (.iload_n 2, 1) := by decide +kernel
theorem d3_59 : decode prog_17_method_6_code 59 = .ok (.imul, 1) := by decide +kernel
theorem d3_60 : decode prog_17_method_6_code 60 = .ok (.iadd, 1) := by decide +kernel
theorem d3_61 : decode prog_17_method_6_code 61 = .ok (.newarray .byte, 2) := by decide +kernel
theorem d3_63 : decode prog_17_method_6_code 63 = .ok (.astore_n 3, 1) := by decide +kernel
theorem d3_64 : decode prog_17_method_6_code 64 = .ok (.iconst 0, 1) := by decide +kernel
theorem d3_65 : decode prog_17_method_6_code 65 = .ok (.istore 4, 2) := by decide +kernel
theorem d3_67 : decode prog_17_method_6_code 67 = .ok (.aload_n 0, 1) := by decide +kernel
theorem d3_68 : decode prog_17_method_6_code 68 = .ok (.astore 5, 2) := by decide +kernel
theorem d3_70 : decode prog_17_method_6_code 70 = .ok (.aload 5, 2) := by decide +kernel
theorem d3_72 : decode prog_17_method_6_code 72 = .ok (.arraylength, 1) := by decide +kernel
theorem d3_73 : decode prog_17_method_6_code 73 = .ok (.istore 6, 2) := by decide +kernel
theorem d3_75 : decode prog_17_method_6_code 75 = .ok (.iconst 0, 1) := by decide +kernel
theorem d3_76 : decode prog_17_method_6_code 76 = .ok (.istore 7, 2) := by decide +kernel
theorem d3_78 : decode prog_17_method_6_code 78 = .ok (.iload 7, 2) := by decide +kernel
theorem d3_80 : decode prog_17_method_6_code 80 = .ok (.iload 6, 2) := by decide +kernel
theorem d3_82 : decode prog_17_method_6_code 82 = .ok (.if_icmp .ge 82, 3) := by decide +kernel
theorem d3_85 : decode prog_17_method_6_code 85 = .ok (.aload 5, 2) := by decide +kernel
theorem d3_87 : decode prog_17_method_6_code 87 = .ok (.iload 7, 2) := by decide +kernel
theorem d3_89 : decode prog_17_method_6_code 89 = .ok (.baload, 1) := by decide +kernel
theorem d3_90 : decode prog_17_method_6_code 90 = .ok (.istore 8, 2) := by decide +kernel
theorem d3_92 : decode prog_17_method_6_code 92 = .ok (.aload_n 1, 1) := by decide +kernel
theorem d3_93 : decode prog_17_method_6_code 93 = .ok (.iload 8, 2) := by decide +kernel
theorem d3_95 : decode prog_17_method_6_code 95 = .ok (.sipush 255, 3) := by decide +kernel
theorem d3_98 : decode prog_17_method_6_code 98 = .ok (.iand, 1) := by decide +kernel
theorem d3_99 : decode prog_17_method_6_code 99 = .ok (.baload, 1) := by decide +kernel
theorem d3_100 : decode prog_17_method_6_code 100 = .ok (.ifCond .eq 15, 3) := by decide +kernel
theorem d3_103 : decode prog_17_method_6_code 103 = .ok (.aload_n 3, 1) := by decide +kernel
theorem d3_104 : decode prog_17_method_6_code 104 = .ok (.iload 4, 2) := by decide +kernel
theorem d3_106 : decode prog_17_method_6_code 106 = .ok (.iinc 4 1, 3) := by decide +kernel
theorem d3_109 : decode prog_17_method_6_code 109 = .ok (.iload 8, 2) := by decide +kernel
theorem d3_111 : decode prog_17_method_6_code 111 = .ok (.bastore, 1) := by decide +kernel
theorem d3_112 : decode prog_17_method_6_code 112 = .ok (.goto 46, 3) := by decide +kernel
theorem d3_115 : decode prog_17_method_6_code 115 = .ok (.aload_n 3, 1) := by decide +kernel
theorem d3_116 : decode prog_17_method_6_code 116 = .ok (.iload 4, 2) := by decide +kernel
theorem d3_118 : decode prog_17_method_6_code 118 = .ok (.iinc 4 1, 3) := by decide +kernel
theorem d3_121 : decode prog_17_method_6_code 121 = .ok (.bipush 37, 2) := by decide +kernel
theorem d3_123 : decode prog_17_method_6_code 123 = .ok (.bastore, 1) := by decide +kernel
theorem d3_124 : decode prog_17_method_6_code 124 = .ok (.aload_n 3, 1) := by decide +kernel
theorem d3_125 : decode prog_17_method_6_code 125 = .ok (.iload 4, 2) := by decide +kernel
theorem d3_127 : decode prog_17_method_6_code 127 = .ok (.iinc 4 1, 3) := by decide +kernel
theorem d3_130 : decode prog_17_method_6_code 130 = .ok (.getstatic 79, 3) := by decide +kernel
theorem d3_133 : decode prog_17_method_6_code 133 = .ok (.iload 8, 2) := by decide +kernel
theorem d3_135 : decode prog_17_method_6_code 135 = .ok (.iconst 4, 1) := by decide +kernel
theorem d3_136 : decode prog_17_method_6_code 136 = .ok (.ishr, 1) := by decide +kernel
theorem d3_137 : decode prog_17_method_6_code 137 = .ok (.bipush 15, 2) := by decide +kernel
theorem d3_139 : decode prog_17_method_6_code 139 = .ok (.iand, 1) := by decide +kernel
theorem d3_140 : decode prog_17_method_6_code 140 = .ok (.baload, 1) := by decide +kernel
theorem d3_141 : decode prog_17_method_6_code 141 = .ok (.bastore, 1) := by decide +kernel
theorem d3_142 : decode prog_17_method_6_code 142 = .ok (.aload_n 3, 1) := by decide +kernel
theorem d3_143 : decode prog_17_method_6_code 143 = .ok (.iload 4, 2) := by decide +kernel
theorem d3_145 : decode prog_17_method_6_code 145 = .ok (.iinc 4 1, 3) := by decide +kernel
theorem d3_148 : decode prog_17_method_6_code 148 = .ok (.getstatic 79, 3) := by decide +kernel
theorem d3_151 : decode prog_17_method_6_code 151 = .ok (.iload 8, 2) := by decide +kernel
theorem d3_153 : decode prog_17_method_6_code 153 = .ok (.bipush 15, 2) := by decide +kernel
theorem d3_155 : decode prog_17_method_6_code 155 = .ok (.iand, 1) := by decide +kernel
theorem d3_156 : decode prog_17_method_6_code 156 = .ok (.baload, 1) := by decide +kernel
theorem d3_157 : decode prog_17_method_6_code 157 = .ok (.bastore, 1) := by decide +kernel
theorem d3_158 : decode prog_17_method_6_code 158 = .ok (.iinc 7 1, 3) := by decide +kernel
theorem d3_161 : decode prog_17_method_6_code 161 = .ok (.goto (-83), 3) := by decide +kernel
theorem d3_164 : decode prog_17_method_6_code 164 = .ok (.aload_n 3, 1) := by decide +kernel
theorem d3_165 : decode prog_17_method_6_code 165 = .ok (.areturn, 1) := by decide +kernel
theorem pn_shelfmark_IriPattern : plainName "shelfmark/IriPattern" = true := by first | (simp [plainName, overriddenIn]; done) | decide +kernel
theorem ef_3 (m : MethodId) (x0 : Addr) (x1 : Addr) : entryFrame m #[(.ref x0), (.ref x1)] 9 = mkF m 0 #[.val (.ref x0), .val (.ref x1), .unset, .unset, .unset, .unset, .unset, .unset, .unset] [] := by first | (simp [entryFrame, mkF, argsToLocals, Value.category]; done) | rfl
def Q3 (Z : State) (ru : Addr) (rk : Addr) (ku : ClassId) (bs : List Int32) (ck : Cell) (ra : Addr) (ch : Cell) (h0 : Heap) (n0 : Nat) (v : Option Value) (h : Heap) (L : List Loc) : Prop := ∃ (b : Addr) (k : ClassId), v = some (.ref b) ∧ Fr n0 L ∧ Keep h0 h [] ∧ (own_cnt (own_kf ck) bs = 0 → b = ru) ∧ own_X Z h b k (own_flat (own_kf ck) bs).length (own_flat (own_kf ck) bs)
set_option maxRecDepth 65536 in
set_option maxHeartbeats 40000000 in
theorem rm3 (l : Launch) (Z : State) (a0 : Array Value) (hw : ∀ d ∈ tables_1, d.before a0 Z = true) (ws : List Jvm.Cond) (ru : Addr) (rk : Addr) (ku : ClassId) (bs : List Int32) (ck : Cell) (ra : Addr) (ch : Cell) (h0 : Heap) (n0 : Nat) (Z0 : n0 ≤ h0.size) (V_u : Arv Z h0 ru ku .byte (Int32.ofNat bs.length) (bs.map Value.int) (.int 0)) (hbl : bs.length ≤ 3) (hbb : ∀ b ∈ bs, nar .byte b = b) (T_k : Tab Z h0 rk ck .boolean (256 : Int32)) (S_H : Sta Z h0 "shelfmark/IriPattern" "HEX_DIGITS" "[B" (.ref ra)) (A_H : Arr Z h0 ra ch .byte) (hH : ch.slots.size = 16 ∧ ∀ j : Int32, (0 ≤ j.toInt ∧ j.toInt < 16) → ch.slots[j.toNatClampNeg]? = some (.int (own_H j))) :
    MetFree l (⟨"shelfmark/IriPattern", "percentEncoded", "([B[Z)[B"⟩ : MethodName) (head1 (Jvm.Cond.code (⟨"shelfmark/IriPattern", "percentEncoded", "([B[Z)[B"⟩ : MethodName) prog_17_method_6_code 9 (some (.array .byte)) :: ws) ({ frames := 0, cells := 1, slots := 9, locals := 0 } : Room)) (fun a U => a = #[(.ref ru), (.ref rk)] ∧ Z.Warmed39 U.vm ∧ U.heap = h0) (fun _ _ _ _ _ => True) (fun _ U o U' => ∃ v L, o = .returned v ∧ Q3 Z ru rk ku bs ck ra ch h0 n0 v U'.heap L ∧ FrameEnd U o U' L ({ frames := 0, cells := 1, slots := 9, locals := 0 } : Room).cells ({ frames := 0, cells := 1, slots := 9, locals := 0 } : Room).slots) := by
  refine MetFree.of_bodySF (plainFor_of_name pn_shelfmark_IriPattern) hisR ?_
  intro p e s m args below meth c s₁ Bd hml0 hP hK
  obtain ⟨rfl, hZ, hh⟩ := hP
  have hx := Bd.exec
  have hby := Bd.bytes
  have hlk := Bd.notSynchronized
  have hrt := Bd.returns
  have hml : c.maxLocals = 9 := hml0
  have hown : s.vm.findClass "shelfmark/IriPattern" = some m.cls := findClass_of_methodNamed Bd.named
  have hnm := (name_of_methodNamed Bd.named Bd.method).1
  have X0 : Stand p l e ({ frames := 0, cells := 1, slots := 9, locals := 0 } : Room) s m #[(.ref ru), (.ref rk)] below meth c s₁ [] 0 0 := Stand.of_body Bd
  have e0 : s₁.heap = h0 := by rw [← hh, Bd.state]; rfl
  have N0 := Fr.nil n0
  have K0 := Keep.refl h0 []
  refine own_out (Q := Q3 Z ru rk ku bs ck ra ch h0 n0) ?_
  refine own_in (ef_3 m ru rk) ?_
  show own_Go _ _ _ _ s₁ (mkF m 0 #[.val (.ref ru), .val (.ref rk), .unset, .unset, .unset, .unset, .unset, .unset, .unset] [])
  refine own_st (fun t k => XS.iconst X0.here hx rfl (hb hby d3_0) k) ?_
  show own_Go _ _ _ _ s₁ (mkF m 1 #[.val (.ref ru), .val (.ref rk), .unset, .unset, .unset, .unset, .unset, .unset, .unset] [(.int (0 : Int32))])
  refine own_st (fun t k => XS.istoreN X0.here hx rfl (hb hby d3_1) rfl (l' := #[.val (.ref ru), .val (.ref rk), .val (.int (0 : Int32)), .unset, .unset, .unset, .unset, .unset, .unset]) rfl k) ?_
  show own_Go _ _ _ _ s₁ (mkF m 2 #[.val (.ref ru), .val (.ref rk), .val (.int (0 : Int32)), .unset, .unset, .unset, .unset, .unset, .unset] [])
  refine own_st (fun t k => XS.aloadN X0.here hx rfl (hb hby d3_2) rfl rfl k) ?_
  show own_Go _ _ _ _ s₁ (mkF m 3 #[.val (.ref ru), .val (.ref rk), .val (.int (0 : Int32)), .unset, .unset, .unset, .unset, .unset, .unset] [(.ref ru)])
  refine own_st (fun t k => XS.astoreN X0.here hx rfl (hb hby d3_3) rfl rfl (l' := #[.val (.ref ru), .val (.ref rk), .val (.int (0 : Int32)), .val (.ref ru), .unset, .unset, .unset, .unset, .unset]) rfl k) ?_
  show own_Go _ _ _ _ s₁ (mkF m 4 #[.val (.ref ru), .val (.ref rk), .val (.int (0 : Int32)), .val (.ref ru), .unset, .unset, .unset, .unset, .unset] [])
  refine own_st (fun t k => XS.aloadN X0.here hx rfl (hb hby d3_4) rfl rfl k) ?_
  show own_Go _ _ _ _ s₁ (mkF m 5 #[.val (.ref ru), .val (.ref rk), .val (.int (0 : Int32)), .val (.ref ru), .unset, .unset, .unset, .unset, .unset] [(.ref ru)])
  obtain ⟨cl1, Ar1, qk1, Sz1, Nn1, Hs1, Gf1⟩ := id V_u
  refine own_st (X0.arraylength hx (by rw [e0]; exact Ar1.1) (State.isArrayOf_alike hZ.alike Ar1.2.1) (g := (mkF m 5 #[.val (.ref ru), .val (.ref rk), .val (.int (0 : Int32)), .val (.ref ru), .unset, .unset, .unset, .unset, .unset] [(.ref ru)])) rfl rfl (hb hby d3_5)) ?_
  rw [len_of Sz1 Nn1]
  show own_Go _ _ _ _ s₁ (mkF m 6 #[.val (.ref ru), .val (.ref rk), .val (.int (0 : Int32)), .val (.ref ru), .unset, .unset, .unset, .unset, .unset] [(.int (Int32.ofNat bs.length))])
  refine own_st (fun t k => XS.istore X0.here hx rfl (hb hby d3_6) rfl (l' := #[.val (.ref ru), .val (.ref rk), .val (.int (0 : Int32)), .val (.ref ru), .val (.int (Int32.ofNat bs.length)), .unset, .unset, .unset, .unset]) rfl k) ?_
  show own_Go _ _ _ _ s₁ (mkF m 8 #[.val (.ref ru), .val (.ref rk), .val (.int (0 : Int32)), .val (.ref ru), .val (.int (Int32.ofNat bs.length)), .unset, .unset, .unset, .unset] [])
  refine own_st (fun t k => XS.iconst X0.here hx rfl (hb hby d3_8) k) ?_
  show own_Go _ _ _ _ s₁ (mkF m 9 #[.val (.ref ru), .val (.ref rk), .val (.int (0 : Int32)), .val (.ref ru), .val (.int (Int32.ofNat bs.length)), .unset, .unset, .unset, .unset] [(.int (0 : Int32))])
  refine own_st (fun t k => XS.istore X0.here hx rfl (hb hby d3_9) rfl (l' := #[.val (.ref ru), .val (.ref rk), .val (.int (0 : Int32)), .val (.ref ru), .val (.int (Int32.ofNat bs.length)), .val (.int (0 : Int32)), .unset, .unset, .unset]) rfl k) ?_
  show own_Go _ _ _ _ s₁ (mkF m 11 #[.val (.ref ru), .val (.ref rk), .val (.int (0 : Int32)), .val (.ref ru), .val (.int (Int32.ofNat bs.length)), .val (.int (0 : Int32)), .unset, .unset, .unset] [])
  have LOOP1 : ∀ (rest pre : List Int32) (o6 : Option Int32), bs = pre ++ rest → own_Go p.tables e below (own_Fin below s (Q3 Z ru rk ku bs ck ra ch h0 n0) ({ frames := 0, cells := 1, slots := 9, locals := 0 } : Room).cells ({ frames := 0, cells := 1, slots := 9, locals := 0 } : Room).slots) s₁ (mkF m 11 #[.val (.ref ru), .val (.ref rk), .val (.int (Int32.ofNat (own_cnt (own_kf ck) pre))), .val (.ref ru), .val (.int (Int32.ofNat bs.length)), .val (.int (Int32.ofNat pre.length)), (own_sl o6), .unset, .unset] []) := by
    intro rest
    induction rest with
    | nil =>
      intro pre o6 hpre
      have hp : pre = bs := by rw [hpre, List.append_nil]
      rw [hp]
      show own_Go _ _ _ _ s₁ (mkF m 11 #[.val (.ref ru), .val (.ref rk), .val (.int (Int32.ofNat (own_cnt (own_kf ck) bs))), .val (.ref ru), .val (.int (Int32.ofNat bs.length)), .val (.int (Int32.ofNat bs.length)), (own_sl o6), .unset, .unset] [])
      refine own_st (fun t k => XS.iload X0.here hx rfl (hb hby d3_11) rfl k) ?_
      show own_Go _ _ _ _ s₁ (mkF m 13 #[.val (.ref ru), .val (.ref rk), .val (.int (Int32.ofNat (own_cnt (own_kf ck) bs))), .val (.ref ru), .val (.int (Int32.ofNat bs.length)), .val (.int (Int32.ofNat bs.length)), (own_sl o6), .unset, .unset] [(.int (Int32.ofNat bs.length))])
      refine own_st (fun t k => XS.iload X0.here hx rfl (hb hby d3_13) rfl k) ?_
      show own_Go _ _ _ _ s₁ (mkF m 15 #[.val (.ref ru), .val (.ref rk), .val (.int (Int32.ofNat (own_cnt (own_kf ck) bs))), .val (.ref ru), .val (.int (Int32.ofNat bs.length)), .val (.int (Int32.ofNat bs.length)), (own_sl o6), .unset, .unset] [(.int (Int32.ofNat bs.length)), (.int (Int32.ofNat bs.length))])
      refine own_st (fun t k => XS.icmpYes X0.here hx rfl (pc0 := 15) (pc' := 49) rfl (hb hby d3_15) rfl (flt own_nlt).2.1 (by decide) (by decide) k) ?_
      show own_Go _ _ _ _ s₁ (mkF m 49 #[.val (.ref ru), .val (.ref rk), .val (.int (Int32.ofNat (own_cnt (own_kf ck) bs))), .val (.ref ru), .val (.int (Int32.ofNat bs.length)), .val (.int (Int32.ofNat bs.length)), (own_sl o6), .unset, .unset] [])
      refine own_st (fun t k => XS.iloadN X0.here hx rfl (hb hby d3_49) rfl k) ?_
      show own_Go _ _ _ _ s₁ (mkF m 50 #[.val (.ref ru), .val (.ref rk), .val (.int (Int32.ofNat (own_cnt (own_kf ck) bs))), .val (.ref ru), .val (.int (Int32.ofNat bs.length)), .val (.int (Int32.ofNat bs.length)), (own_sl o6), .unset, .unset] [(.int (Int32.ofNat (own_cnt (own_kf ck) bs)))])
      by_cases c50_2 : (Int32.ofNat (own_cnt (own_kf ck) bs)) = (0 : Int32)
      ·
        refine own_st (fun t k => XS.ifNo X0.here hx rfl (hb hby d3_50) rfl ((if0 _ _).trans (teq c50_2).2) k) ?_
        show own_Go _ _ _ _ s₁ (mkF m 53 #[.val (.ref ru), .val (.ref rk), .val (.int (Int32.ofNat (own_cnt (own_kf ck) bs))), .val (.ref ru), .val (.int (Int32.ofNat bs.length)), .val (.int (Int32.ofNat bs.length)), (own_sl o6), .unset, .unset] [])
        refine own_st (fun t k => XS.aloadN X0.here hx rfl (hb hby d3_53) rfl rfl k) ?_
        show own_Go _ _ _ _ s₁ (mkF m 54 #[.val (.ref ru), .val (.ref rk), .val (.int (Int32.ofNat (own_cnt (own_kf ck) bs))), .val (.ref ru), .val (.int (Int32.ofNat bs.length)), .val (.int (Int32.ofNat bs.length)), (own_sl o6), .unset, .unset] [(.ref ru)])
        exact own_retR X0 hx hlk hrt rfl rfl rfl (hb hby d3_54) (by have hc : own_cnt (own_kf ck) bs = 0 := (own_zero (by have := own_cnt_le (own_kf ck) bs; omega)).mp c50_2; rw [e0]; exact ⟨ru, ku, rfl, N0, K0, fun _ => rfl, (by rw [own_flat_none (own_kf ck) bs hbb hc]; exact own_u_X V_u)⟩) (by decide) (by decide)
      ·
        refine own_st (fun t k => XS.ifYes X0.here hx rfl (pc0 := 50) (pc' := 55) rfl (hb hby d3_50) rfl ((if0 _ _).trans (feq c50_2).2) (by decide) (by decide) k) ?_
        show own_Go _ _ _ _ s₁ (mkF m 55 #[.val (.ref ru), .val (.ref rk), .val (.int (Int32.ofNat (own_cnt (own_kf ck) bs))), .val (.ref ru), .val (.int (Int32.ofNat bs.length)), .val (.int (Int32.ofNat bs.length)), (own_sl o6), .unset, .unset] [])
        refine own_st (fun t k => XS.aloadN X0.here hx rfl (hb hby d3_55) rfl rfl k) ?_
        show own_Go _ _ _ _ s₁ (mkF m 56 #[.val (.ref ru), .val (.ref rk), .val (.int (Int32.ofNat (own_cnt (own_kf ck) bs))), .val (.ref ru), .val (.int (Int32.ofNat bs.length)), .val (.int (Int32.ofNat bs.length)), (own_sl o6), .unset, .unset] [(.ref ru)])
        obtain ⟨cl3, Ar3, qk3, Sz3, Nn3, Hs3, Gf3⟩ := id V_u
        refine own_st (X0.arraylength hx (by rw [e0]; exact Ar3.1) (State.isArrayOf_alike hZ.alike Ar3.2.1) (g := (mkF m 56 #[.val (.ref ru), .val (.ref rk), .val (.int (Int32.ofNat (own_cnt (own_kf ck) bs))), .val (.ref ru), .val (.int (Int32.ofNat bs.length)), .val (.int (Int32.ofNat bs.length)), (own_sl o6), .unset, .unset] [(.ref ru)])) rfl rfl (hb hby d3_56)) ?_
        rw [len_of Sz3 Nn3]
        show own_Go _ _ _ _ s₁ (mkF m 57 #[.val (.ref ru), .val (.ref rk), .val (.int (Int32.ofNat (own_cnt (own_kf ck) bs))), .val (.ref ru), .val (.int (Int32.ofNat bs.length)), .val (.int (Int32.ofNat bs.length)), (own_sl o6), .unset, .unset] [(.int (Int32.ofNat bs.length))])
        refine own_st (fun t k => XS.iconst X0.here hx rfl (hb hby d3_57) k) ?_
        show own_Go _ _ _ _ s₁ (mkF m 58 #[.val (.ref ru), .val (.ref rk), .val (.int (Int32.ofNat (own_cnt (own_kf ck) bs))), .val (.ref ru), .val (.int (Int32.ofNat bs.length)), .val (.int (Int32.ofNat bs.length)), (own_sl o6), .unset, .unset] [(.int (2 : Int32)), (.int (Int32.ofNat bs.length))])
        refine own_st (fun t k => XS.iloadN X0.here hx rfl (hb hby d3_58) rfl k) ?_
        show own_Go _ _ _ _ s₁ (mkF m 59 #[.val (.ref ru), .val (.ref rk), .val (.int (Int32.ofNat (own_cnt (own_kf ck) bs))), .val (.ref ru), .val (.int (Int32.ofNat bs.length)), .val (.int (Int32.ofNat bs.length)), (own_sl o6), .unset, .unset] [(.int (Int32.ofNat (own_cnt (own_kf ck) bs))), (.int (2 : Int32)), (.int (Int32.ofNat bs.length))])
        refine own_st (fun t k => XS.imul X0.here hx rfl (hb hby d3_59) rfl k) ?_
        show own_Go _ _ _ _ s₁ (mkF m 60 #[.val (.ref ru), .val (.ref rk), .val (.int (Int32.ofNat (own_cnt (own_kf ck) bs))), .val (.ref ru), .val (.int (Int32.ofNat bs.length)), .val (.int (Int32.ofNat bs.length)), (own_sl o6), .unset, .unset] [(.int ((2 : Int32) * (Int32.ofNat (own_cnt (own_kf ck) bs)))), (.int (Int32.ofNat bs.length))])
        refine own_st (fun t k => XS.iadd X0.here hx rfl (hb hby d3_60) rfl k) ?_
        show own_Go _ _ _ _ s₁ (mkF m 61 #[.val (.ref ru), .val (.ref rk), .val (.int (Int32.ofNat (own_cnt (own_kf ck) bs))), .val (.ref ru), .val (.int (Int32.ofNat bs.length)), .val (.int (Int32.ofNat bs.length)), (own_sl o6), .unset, .unset] [(.int ((Int32.ofNat bs.length) + ((2 : Int32) * (Int32.ofNat (own_cnt (own_kf ck) bs)))))])
        have h9 := own_flat9 (own_kf ck) hbl
        rw [own_total (own_kf ck) hbl]
        show own_Go _ _ _ _ s₁ (mkF m 61 #[.val (.ref ru), .val (.ref rk), .val (.int (Int32.ofNat (own_cnt (own_kf ck) bs))), .val (.ref ru), .val (.int (Int32.ofNat bs.length)), .val (.int (Int32.ofNat bs.length)), (own_sl o6), .unset, .unset] [(.int (Int32.ofNat (own_flat (own_kf ck) bs).length))])
        obtain ⟨T4, h4, k4, X4, e4, E4, A4, st4⟩ := newP X0 hx hZ (hw _ (List.mem_of_getElem? (i := 0) rfl)) e0 (g := (mkF m 61 #[.val (.ref ru), .val (.ref rk), .val (.int (Int32.ofNat (own_cnt (own_kf ck) bs))), .val (.ref ru), .val (.int (Int32.ofNat bs.length)), .val (.int (Int32.ofNat bs.length)), (own_sl o6), .unset, .unset] [(.int (Int32.ofNat (own_flat (own_kf ck) bs).length))])) rfl (hb hby d3_61) rfl (own_small (by omega)).2.2 (cap := 9) (by rw [(own_small (by omega)).2.1]; exact h9) (by decide) (by decide) (by decide)
        obtain ⟨b4, g4⟩ : ∃ z, z = h0.size := ⟨_, rfl⟩
        rw [← g4] at A4 st4
        have sz_b4 : h0.size ≤ b4 := Nat.le_trans K0.1 (Nat.le_of_eq g4.symm)
        have g_b4 : n0 ≤ b4 := Nat.le_trans Z0 sz_b4
        have ne_ru_b4 : ru ≠ b4 := Nat.ne_of_lt (Nat.lt_of_lt_of_le V_u.lt sz_b4)
        have ne_rk_b4 : rk ≠ b4 := Nat.ne_of_lt (Nat.lt_of_lt_of_le T_k.1.lt sz_b4)
        have ne_ra_b4 : ra ≠ b4 := Nat.ne_of_lt (Nat.lt_of_lt_of_le A_H.lt sz_b4)
        have V4 : own_X Z h4 b4 k4 (own_flat (own_kf ck) bs).length [] := own_new A4 (own_small (by omega)).2.2
        refine own_st st4 ?_
        show own_Go _ _ _ _ T4 (mkF m 63 #[.val (.ref ru), .val (.ref rk), .val (.int (Int32.ofNat (own_cnt (own_kf ck) bs))), .val (.ref ru), .val (.int (Int32.ofNat bs.length)), .val (.int (Int32.ofNat bs.length)), (own_sl o6), .unset, .unset] [(.ref b4)])
        refine own_st (fun t k => XS.astoreN X4.here hx rfl (hb hby d3_63) rfl rfl (l' := #[.val (.ref ru), .val (.ref rk), .val (.int (Int32.ofNat (own_cnt (own_kf ck) bs))), .val (.ref b4), .val (.int (Int32.ofNat bs.length)), .val (.int (Int32.ofNat bs.length)), (own_sl o6), .unset, .unset]) rfl k) ?_
        show own_Go _ _ _ _ T4 (mkF m 64 #[.val (.ref ru), .val (.ref rk), .val (.int (Int32.ofNat (own_cnt (own_kf ck) bs))), .val (.ref b4), .val (.int (Int32.ofNat bs.length)), .val (.int (Int32.ofNat bs.length)), (own_sl o6), .unset, .unset] [])
        refine own_st (fun t k => XS.iconst X4.here hx rfl (hb hby d3_64) k) ?_
        show own_Go _ _ _ _ T4 (mkF m 65 #[.val (.ref ru), .val (.ref rk), .val (.int (Int32.ofNat (own_cnt (own_kf ck) bs))), .val (.ref b4), .val (.int (Int32.ofNat bs.length)), .val (.int (Int32.ofNat bs.length)), (own_sl o6), .unset, .unset] [(.int (0 : Int32))])
        refine own_st (fun t k => XS.istore X4.here hx rfl (hb hby d3_65) rfl (l' := #[.val (.ref ru), .val (.ref rk), .val (.int (Int32.ofNat (own_cnt (own_kf ck) bs))), .val (.ref b4), .val (.int (0 : Int32)), .val (.int (Int32.ofNat bs.length)), (own_sl o6), .unset, .unset]) rfl k) ?_
        show own_Go _ _ _ _ T4 (mkF m 67 #[.val (.ref ru), .val (.ref rk), .val (.int (Int32.ofNat (own_cnt (own_kf ck) bs))), .val (.ref b4), .val (.int (0 : Int32)), .val (.int (Int32.ofNat bs.length)), (own_sl o6), .unset, .unset] [])
        refine own_st (fun t k => XS.aloadN X4.here hx rfl (hb hby d3_67) rfl rfl k) ?_
        show own_Go _ _ _ _ T4 (mkF m 68 #[.val (.ref ru), .val (.ref rk), .val (.int (Int32.ofNat (own_cnt (own_kf ck) bs))), .val (.ref b4), .val (.int (0 : Int32)), .val (.int (Int32.ofNat bs.length)), (own_sl o6), .unset, .unset] [(.ref ru)])
        refine own_st (fun t k => XS.astore X4.here hx rfl (hb hby d3_68) rfl rfl (l' := #[.val (.ref ru), .val (.ref rk), .val (.int (Int32.ofNat (own_cnt (own_kf ck) bs))), .val (.ref b4), .val (.int (0 : Int32)), .val (.ref ru), (own_sl o6), .unset, .unset]) rfl k) ?_
        show own_Go _ _ _ _ T4 (mkF m 70 #[.val (.ref ru), .val (.ref rk), .val (.int (Int32.ofNat (own_cnt (own_kf ck) bs))), .val (.ref b4), .val (.int (0 : Int32)), .val (.ref ru), (own_sl o6), .unset, .unset] [])
        refine own_st (fun t k => XS.aload X4.here hx rfl (hb hby d3_70) rfl rfl k) ?_
        show own_Go _ _ _ _ T4 (mkF m 72 #[.val (.ref ru), .val (.ref rk), .val (.int (Int32.ofNat (own_cnt (own_kf ck) bs))), .val (.ref b4), .val (.int (0 : Int32)), .val (.ref ru), (own_sl o6), .unset, .unset] [(.ref ru)])
        have V_u_6 := (V_u.ext E4)
        obtain ⟨cl5, Ar5, qk5, Sz5, Nn5, Hs5, Gf5⟩ := id V_u_6
        refine own_st (X4.arraylength hx (by rw [e4]; exact Ar5.1) (State.isArrayOf_alike hZ.alike Ar5.2.1) (g := (mkF m 72 #[.val (.ref ru), .val (.ref rk), .val (.int (Int32.ofNat (own_cnt (own_kf ck) bs))), .val (.ref b4), .val (.int (0 : Int32)), .val (.ref ru), (own_sl o6), .unset, .unset] [(.ref ru)])) rfl rfl (hb hby d3_72)) ?_
        rw [len_of Sz5 Nn5]
        show own_Go _ _ _ _ T4 (mkF m 73 #[.val (.ref ru), .val (.ref rk), .val (.int (Int32.ofNat (own_cnt (own_kf ck) bs))), .val (.ref b4), .val (.int (0 : Int32)), .val (.ref ru), (own_sl o6), .unset, .unset] [(.int (Int32.ofNat bs.length))])
        refine own_st (fun t k => XS.istore X4.here hx rfl (hb hby d3_73) rfl (l' := #[.val (.ref ru), .val (.ref rk), .val (.int (Int32.ofNat (own_cnt (own_kf ck) bs))), .val (.ref b4), .val (.int (0 : Int32)), .val (.ref ru), .val (.int (Int32.ofNat bs.length)), .unset, .unset]) (by cases o6 <;> rfl) k) ?_
        show own_Go _ _ _ _ T4 (mkF m 75 #[.val (.ref ru), .val (.ref rk), .val (.int (Int32.ofNat (own_cnt (own_kf ck) bs))), .val (.ref b4), .val (.int (0 : Int32)), .val (.ref ru), .val (.int (Int32.ofNat bs.length)), .unset, .unset] [])
        refine own_st (fun t k => XS.iconst X4.here hx rfl (hb hby d3_75) k) ?_
        show own_Go _ _ _ _ T4 (mkF m 76 #[.val (.ref ru), .val (.ref rk), .val (.int (Int32.ofNat (own_cnt (own_kf ck) bs))), .val (.ref b4), .val (.int (0 : Int32)), .val (.ref ru), .val (.int (Int32.ofNat bs.length)), .unset, .unset] [(.int (0 : Int32))])
        refine own_st (fun t k => XS.istore X4.here hx rfl (hb hby d3_76) rfl (l' := #[.val (.ref ru), .val (.ref rk), .val (.int (Int32.ofNat (own_cnt (own_kf ck) bs))), .val (.ref b4), .val (.int (0 : Int32)), .val (.ref ru), .val (.int (Int32.ofNat bs.length)), .val (.int (0 : Int32)), .unset]) rfl k) ?_
        show own_Go _ _ _ _ T4 (mkF m 78 #[.val (.ref ru), .val (.ref rk), .val (.int (Int32.ofNat (own_cnt (own_kf ck) bs))), .val (.ref b4), .val (.int (0 : Int32)), .val (.ref ru), .val (.int (Int32.ofNat bs.length)), .val (.int (0 : Int32)), .unset] [])
        have LOOP2 : ∀ (rest pre : List Int32) (o8 : Option Int32) (T2 : State) (h2 : Heap) (L2 : List Loc) (X2 : Stand p l e ({ frames := 0, cells := 1, slots := 9, locals := 0 } : Room) s m #[(.ref ru), (.ref rk)] below meth c T2 L2 (0 + 1) (0 + 9)) (e2 : T2.heap = h2) (N2 : Fr n0 L2) (K2 : Keep h0 h2 []) (V2 : own_X Z h2 b4 k4 (own_flat (own_kf ck) bs).length (own_flat (own_kf ck) pre)), bs = pre ++ rest → own_Go p.tables e below (own_Fin below s (Q3 Z ru rk ku bs ck ra ch h0 n0) ({ frames := 0, cells := 1, slots := 9, locals := 0 } : Room).cells ({ frames := 0, cells := 1, slots := 9, locals := 0 } : Room).slots) T2 (mkF m 78 #[.val (.ref ru), .val (.ref rk), .val (.int (Int32.ofNat (own_cnt (own_kf ck) bs))), .val (.ref b4), .val (.int (Int32.ofNat (own_flat (own_kf ck) pre).length)), .val (.ref ru), .val (.int (Int32.ofNat bs.length)), .val (.int (Int32.ofNat pre.length)), (own_sl o8)] []) := by
          intro rest
          induction rest with
          | nil =>
            intro pre o8 T2 h2 L2 X2 e2 N2 K2 V2 hpre
            have hp : pre = bs := by rw [hpre, List.append_nil]
            rw [hp] at V2
            rw [hp]
            have Vu2 := V_u.keep K2 nin0
            have Ark2 := own_arr_keep T_k.1 K2 nin0
            have Arh2 := own_arr_keep A_H K2 nin0
            have Sh2 := own_sta_keep S_H K2 (fun x hx => nomatch hx)
            show own_Go _ _ _ _ T2 (mkF m 78 #[.val (.ref ru), .val (.ref rk), .val (.int (Int32.ofNat (own_cnt (own_kf ck) bs))), .val (.ref b4), .val (.int (Int32.ofNat (own_flat (own_kf ck) bs).length)), .val (.ref ru), .val (.int (Int32.ofNat bs.length)), .val (.int (Int32.ofNat bs.length)), (own_sl o8)] [])
            refine own_st (fun t k => XS.iload X2.here hx rfl (hb hby d3_78) rfl k) ?_
            show own_Go _ _ _ _ T2 (mkF m 80 #[.val (.ref ru), .val (.ref rk), .val (.int (Int32.ofNat (own_cnt (own_kf ck) bs))), .val (.ref b4), .val (.int (Int32.ofNat (own_flat (own_kf ck) bs).length)), .val (.ref ru), .val (.int (Int32.ofNat bs.length)), .val (.int (Int32.ofNat bs.length)), (own_sl o8)] [(.int (Int32.ofNat bs.length))])
            refine own_st (fun t k => XS.iload X2.here hx rfl (hb hby d3_80) rfl k) ?_
            show own_Go _ _ _ _ T2 (mkF m 82 #[.val (.ref ru), .val (.ref rk), .val (.int (Int32.ofNat (own_cnt (own_kf ck) bs))), .val (.ref b4), .val (.int (Int32.ofNat (own_flat (own_kf ck) bs).length)), .val (.ref ru), .val (.int (Int32.ofNat bs.length)), .val (.int (Int32.ofNat bs.length)), (own_sl o8)] [(.int (Int32.ofNat bs.length)), (.int (Int32.ofNat bs.length))])
            refine own_st (fun t k => XS.icmpYes X2.here hx rfl (pc0 := 82) (pc' := 164) rfl (hb hby d3_82) rfl (flt own_nlt).2.1 (by decide) (by decide) k) ?_
            show own_Go _ _ _ _ T2 (mkF m 164 #[.val (.ref ru), .val (.ref rk), .val (.int (Int32.ofNat (own_cnt (own_kf ck) bs))), .val (.ref b4), .val (.int (Int32.ofNat (own_flat (own_kf ck) bs).length)), .val (.ref ru), .val (.int (Int32.ofNat bs.length)), .val (.int (Int32.ofNat bs.length)), (own_sl o8)] [])
            refine own_st (fun t k => XS.aloadN X2.here hx rfl (hb hby d3_164) rfl rfl k) ?_
            show own_Go _ _ _ _ T2 (mkF m 165 #[.val (.ref ru), .val (.ref rk), .val (.int (Int32.ofNat (own_cnt (own_kf ck) bs))), .val (.ref b4), .val (.int (Int32.ofNat (own_flat (own_kf ck) bs).length)), .val (.ref ru), .val (.int (Int32.ofNat bs.length)), .val (.int (Int32.ofNat bs.length)), (own_sl o8)] [(.ref b4)])
            exact own_retR X2 hx hlk hrt rfl rfl rfl (hb hby d3_165) (by rw [e2]; exact ⟨b4, k4, rfl, N2, K2, fun hc => absurd ((own_zero (by have := own_cnt_le (own_kf ck) bs; omega)).mpr hc) c50_2, V2⟩) (by decide) (by decide)
          | cons bb rest ih =>
            intro pre o8 T2 h2 L2 X2 e2 N2 K2 V2 hpre
            have Vu2 := V_u.keep K2 nin0
            have Ark2 := own_arr_keep T_k.1 K2 nin0
            have Arh2 := own_arr_keep A_H K2 nin0
            have Sh2 := own_sta_keep S_H K2 (fun x hx => nomatch hx)
            show own_Go _ _ _ _ T2 (mkF m 78 #[.val (.ref ru), .val (.ref rk), .val (.int (Int32.ofNat (own_cnt (own_kf ck) bs))), .val (.ref b4), .val (.int (Int32.ofNat (own_flat (own_kf ck) pre).length)), .val (.ref ru), .val (.int (Int32.ofNat bs.length)), .val (.int (Int32.ofNat pre.length)), (own_sl o8)] [])
            refine own_st (fun t k => XS.iload X2.here hx rfl (hb hby d3_78) rfl k) ?_
            show own_Go _ _ _ _ T2 (mkF m 80 #[.val (.ref ru), .val (.ref rk), .val (.int (Int32.ofNat (own_cnt (own_kf ck) bs))), .val (.ref b4), .val (.int (Int32.ofNat (own_flat (own_kf ck) pre).length)), .val (.ref ru), .val (.int (Int32.ofNat bs.length)), .val (.int (Int32.ofNat pre.length)), (own_sl o8)] [(.int (Int32.ofNat pre.length))])
            refine own_st (fun t k => XS.iload X2.here hx rfl (hb hby d3_80) rfl k) ?_
            show own_Go _ _ _ _ T2 (mkF m 82 #[.val (.ref ru), .val (.ref rk), .val (.int (Int32.ofNat (own_cnt (own_kf ck) bs))), .val (.ref b4), .val (.int (Int32.ofNat (own_flat (own_kf ck) pre).length)), .val (.ref ru), .val (.int (Int32.ofNat bs.length)), .val (.int (Int32.ofNat pre.length)), (own_sl o8)] [(.int (Int32.ofNat bs.length)), (.int (Int32.ofNat pre.length))])
            refine own_st (fun t k => XS.icmpNo X2.here hx rfl (hb hby d3_82) rfl (tlt ((own_lt3 hpre hbl).2.2 : (Int32.ofNat pre.length) < (Int32.ofNat bs.length))).2.1 k) ?_
            show own_Go _ _ _ _ T2 (mkF m 85 #[.val (.ref ru), .val (.ref rk), .val (.int (Int32.ofNat (own_cnt (own_kf ck) bs))), .val (.ref b4), .val (.int (Int32.ofNat (own_flat (own_kf ck) pre).length)), .val (.ref ru), .val (.int (Int32.ofNat bs.length)), .val (.int (Int32.ofNat pre.length)), (own_sl o8)] [])
            refine own_st (fun t k => XS.aload X2.here hx rfl (hb hby d3_85) rfl rfl k) ?_
            show own_Go _ _ _ _ T2 (mkF m 87 #[.val (.ref ru), .val (.ref rk), .val (.int (Int32.ofNat (own_cnt (own_kf ck) bs))), .val (.ref b4), .val (.int (Int32.ofNat (own_flat (own_kf ck) pre).length)), .val (.ref ru), .val (.int (Int32.ofNat bs.length)), .val (.int (Int32.ofNat pre.length)), (own_sl o8)] [(.ref ru)])
            refine own_st (fun t k => XS.iload X2.here hx rfl (hb hby d3_87) rfl k) ?_
            show own_Go _ _ _ _ T2 (mkF m 89 #[.val (.ref ru), .val (.ref rk), .val (.int (Int32.ofNat (own_cnt (own_kf ck) bs))), .val (.ref b4), .val (.int (Int32.ofNat (own_flat (own_kf ck) pre).length)), .val (.ref ru), .val (.int (Int32.ofNat bs.length)), .val (.int (Int32.ofNat pre.length)), (own_sl o8)] [(.int (Int32.ofNat pre.length)), (.ref ru)])
            obtain ⟨cl7, Ar7, qk7, Sz7, Nn7, Hs7, Gf7⟩ := id Vu2
            have hin7 : ¬ ((Int32.ofNat pre.length) < 0 ∨ cl7.slots.size ≤ ((Int32.ofNat pre.length)).toNatClampNeg) := own_in9 Sz7 (by omega) rfl (own_lt3 hpre hbl).1
            have hat7 : cl7.slots[((Int32.ofNat pre.length)).toNatClampNeg]? = some (.int bb) := Has.at Hs7 hin7 (by rw [own_getI, (own_small (by have := (own_lt3 hpre hbl).2.1; omega)).2.1, hpre, own_midl])
            refine own_st (X2.baloadBytes hx (j := (Int32.ofNat pre.length)) (v := (.int bb)) (by rw [e2]; exact Ar7.1) (State.isArrayOf_alike hZ.alike Ar7.2.1) Ar7.2.2 hin7 hat7 (g := (mkF m 89 #[.val (.ref ru), .val (.ref rk), .val (.int (Int32.ofNat (own_cnt (own_kf ck) bs))), .val (.ref b4), .val (.int (Int32.ofNat (own_flat (own_kf ck) pre).length)), .val (.ref ru), .val (.int (Int32.ofNat bs.length)), .val (.int (Int32.ofNat pre.length)), (own_sl o8)] [(.int (Int32.ofNat pre.length)), (.ref ru)])) rfl rfl (hb hby d3_89)) ?_
            show own_Go _ _ _ _ T2 (mkF m 90 #[.val (.ref ru), .val (.ref rk), .val (.int (Int32.ofNat (own_cnt (own_kf ck) bs))), .val (.ref b4), .val (.int (Int32.ofNat (own_flat (own_kf ck) pre).length)), .val (.ref ru), .val (.int (Int32.ofNat bs.length)), .val (.int (Int32.ofNat pre.length)), (own_sl o8)] [(.int bb)])
            refine own_st (fun t k => XS.istore X2.here hx rfl (hb hby d3_90) rfl (l' := #[.val (.ref ru), .val (.ref rk), .val (.int (Int32.ofNat (own_cnt (own_kf ck) bs))), .val (.ref b4), .val (.int (Int32.ofNat (own_flat (own_kf ck) pre).length)), .val (.ref ru), .val (.int (Int32.ofNat bs.length)), .val (.int (Int32.ofNat pre.length)), .val (.int bb)]) (by cases o8 <;> rfl) k) ?_
            show own_Go _ _ _ _ T2 (mkF m 92 #[.val (.ref ru), .val (.ref rk), .val (.int (Int32.ofNat (own_cnt (own_kf ck) bs))), .val (.ref b4), .val (.int (Int32.ofNat (own_flat (own_kf ck) pre).length)), .val (.ref ru), .val (.int (Int32.ofNat bs.length)), .val (.int (Int32.ofNat pre.length)), .val (.int bb)] [])
            refine own_st (fun t k => XS.aloadN X2.here hx rfl (hb hby d3_92) rfl rfl k) ?_
            show own_Go _ _ _ _ T2 (mkF m 93 #[.val (.ref ru), .val (.ref rk), .val (.int (Int32.ofNat (own_cnt (own_kf ck) bs))), .val (.ref b4), .val (.int (Int32.ofNat (own_flat (own_kf ck) pre).length)), .val (.ref ru), .val (.int (Int32.ofNat bs.length)), .val (.int (Int32.ofNat pre.length)), .val (.int bb)] [(.ref rk)])
            refine own_st (fun t k => XS.iload X2.here hx rfl (hb hby d3_93) rfl k) ?_
            show own_Go _ _ _ _ T2 (mkF m 95 #[.val (.ref ru), .val (.ref rk), .val (.int (Int32.ofNat (own_cnt (own_kf ck) bs))), .val (.ref b4), .val (.int (Int32.ofNat (own_flat (own_kf ck) pre).length)), .val (.ref ru), .val (.int (Int32.ofNat bs.length)), .val (.int (Int32.ofNat pre.length)), .val (.int bb)] [(.int bb), (.ref rk)])
            refine own_st (fun t k => XS.sipush X2.here hx rfl (hb hby d3_95) k) ?_
            show own_Go _ _ _ _ T2 (mkF m 98 #[.val (.ref ru), .val (.ref rk), .val (.int (Int32.ofNat (own_cnt (own_kf ck) bs))), .val (.ref b4), .val (.int (Int32.ofNat (own_flat (own_kf ck) pre).length)), .val (.ref ru), .val (.int (Int32.ofNat bs.length)), .val (.int (Int32.ofNat pre.length)), .val (.int bb)] [(.int (255 : Int32)), (.int bb), (.ref rk)])
            refine own_st (fun t k => XS.iand X2.here hx rfl (hb hby d3_98) rfl k) ?_
            show own_Go _ _ _ _ T2 (mkF m 99 #[.val (.ref ru), .val (.ref rk), .val (.int (Int32.ofNat (own_cnt (own_kf ck) bs))), .val (.ref b4), .val (.int (Int32.ofNat (own_flat (own_kf ck) pre).length)), .val (.ref ru), .val (.int (Int32.ofNat bs.length)), .val (.int (Int32.ofNat pre.length)), .val (.int bb)] [(.int (bb &&& (255 : Int32))), (.ref rk)])
            have hin8 : ¬ ((bb &&& (255 : Int32)) < 0 ∨ ck.slots.size ≤ ((bb &&& (255 : Int32))).toNatClampNeg) := inb_of T_k.2.1 (own_b255 _)
            have hat8 : ck.slots[((bb &&& (255 : Int32))).toNatClampNeg]? = some (.int (own_kf ck bb)) := T_k.2.2.2 _ hin8
            refine own_st (X2.baloadBooleans hx (j := (bb &&& (255 : Int32))) (v := (.int (own_kf ck bb))) (by rw [e2]; exact Ark2.1) (State.isArrayOf_alike hZ.alike Ark2.2.1) Ark2.2.2 hin8 hat8 (g := (mkF m 99 #[.val (.ref ru), .val (.ref rk), .val (.int (Int32.ofNat (own_cnt (own_kf ck) bs))), .val (.ref b4), .val (.int (Int32.ofNat (own_flat (own_kf ck) pre).length)), .val (.ref ru), .val (.int (Int32.ofNat bs.length)), .val (.int (Int32.ofNat pre.length)), .val (.int bb)] [(.int (bb &&& (255 : Int32))), (.ref rk)])) rfl rfl (hb hby d3_99)) ?_
            show own_Go _ _ _ _ T2 (mkF m 100 #[.val (.ref ru), .val (.ref rk), .val (.int (Int32.ofNat (own_cnt (own_kf ck) bs))), .val (.ref b4), .val (.int (Int32.ofNat (own_flat (own_kf ck) pre).length)), .val (.ref ru), .val (.int (Int32.ofNat bs.length)), .val (.int (Int32.ofNat pre.length)), .val (.int bb)] [(.int (own_kf ck bb))])
            by_cases c100_9 : (own_kf ck bb) = (0 : Int32)
            ·
              refine own_st (fun t k => XS.ifYes X2.here hx rfl (pc0 := 100) (pc' := 115) rfl (hb hby d3_100) rfl ((if0 _ _).trans (teq c100_9).1) (by decide) (by decide) k) ?_
              show own_Go _ _ _ _ T2 (mkF m 115 #[.val (.ref ru), .val (.ref rk), .val (.int (Int32.ofNat (own_cnt (own_kf ck) bs))), .val (.ref b4), .val (.int (Int32.ofNat (own_flat (own_kf ck) pre).length)), .val (.ref ru), .val (.int (Int32.ofNat bs.length)), .val (.int (Int32.ofNat pre.length)), .val (.int bb)] [])
              have hpl := own_pre_len (own_kf ck) hpre
              rw [own_enc_len, if_pos c100_9] at hpl
              refine own_st (fun t k => XS.aloadN X2.here hx rfl (hb hby d3_115) rfl rfl k) ?_
              show own_Go _ _ _ _ T2 (mkF m 116 #[.val (.ref ru), .val (.ref rk), .val (.int (Int32.ofNat (own_cnt (own_kf ck) bs))), .val (.ref b4), .val (.int (Int32.ofNat (own_flat (own_kf ck) pre).length)), .val (.ref ru), .val (.int (Int32.ofNat bs.length)), .val (.int (Int32.ofNat pre.length)), .val (.int bb)] [(.ref b4)])
              refine own_st (fun t k => XS.iload X2.here hx rfl (hb hby d3_116) rfl k) ?_
              show own_Go _ _ _ _ T2 (mkF m 118 #[.val (.ref ru), .val (.ref rk), .val (.int (Int32.ofNat (own_cnt (own_kf ck) bs))), .val (.ref b4), .val (.int (Int32.ofNat (own_flat (own_kf ck) pre).length)), .val (.ref ru), .val (.int (Int32.ofNat bs.length)), .val (.int (Int32.ofNat pre.length)), .val (.int bb)] [(.int (Int32.ofNat (own_flat (own_kf ck) pre).length)), (.ref b4)])
              refine own_st (fun t k => XS.iinc X2.here hx rfl (hb hby d3_118) rfl (l' := #[.val (.ref ru), .val (.ref rk), .val (.int (Int32.ofNat (own_cnt (own_kf ck) bs))), .val (.ref b4), .val (.int ((Int32.ofNat (own_flat (own_kf ck) pre).length) + (1 : Int32))), .val (.ref ru), .val (.int (Int32.ofNat bs.length)), .val (.int (Int32.ofNat pre.length)), .val (.int bb)]) rfl k) ?_
              show own_Go _ _ _ _ T2 (mkF m 121 #[.val (.ref ru), .val (.ref rk), .val (.int (Int32.ofNat (own_cnt (own_kf ck) bs))), .val (.ref b4), .val (.int ((Int32.ofNat (own_flat (own_kf ck) pre).length) + (1 : Int32))), .val (.ref ru), .val (.int (Int32.ofNat bs.length)), .val (.int (Int32.ofNat pre.length)), .val (.int bb)] [(.int (Int32.ofNat (own_flat (own_kf ck) pre).length)), (.ref b4)])
              refine own_st (fun t k => XS.bipush X2.here hx rfl (hb hby d3_121) k) ?_
              show own_Go _ _ _ _ T2 (mkF m 123 #[.val (.ref ru), .val (.ref rk), .val (.int (Int32.ofNat (own_cnt (own_kf ck) bs))), .val (.ref b4), .val (.int ((Int32.ofNat (own_flat (own_kf ck) pre).length) + (1 : Int32))), .val (.ref ru), .val (.int (Int32.ofNat bs.length)), .val (.int (Int32.ofNat pre.length)), .val (.int bb)] [(.int (37 : Int32)), (.int (Int32.ofNat (own_flat (own_kf ck) pre).length)), (.ref b4)])
              obtain ⟨cl10, Ar10, qk10, Sz10, Nn10, Hs10, Gf10⟩ := id V2
              have hla10 : ((own_flat (own_kf ck) pre)).length = (own_flat (own_kf ck) pre).length + 0 := rfl
              have hj10 : (Int32.ofNat (own_flat (own_kf ck) pre).length) = Int32.ofNat ((own_flat (own_kf ck) pre).length + 0) := rfl
              have hin10 := own_in9 Sz10 (by omega) hj10 (by omega)
              obtain ⟨T11, h11, X11, e11, W11, st11⟩ := stB X2 hx hZ e2 Ar10 (j := (Int32.ofNat (own_flat (own_kf ck) pre).length)) hin10 (g := (mkF m 123 #[.val (.ref ru), .val (.ref rk), .val (.int (Int32.ofNat (own_cnt (own_kf ck) bs))), .val (.ref b4), .val (.int ((Int32.ofNat (own_flat (own_kf ck) pre).length) + (1 : Int32))), .val (.ref ru), .val (.int (Int32.ofNat bs.length)), .val (.int (Int32.ofNat pre.length)), .val (.int bb)] [(.int (37 : Int32)), (.int (Int32.ofNat (own_flat (own_kf ck) pre).length)), (.ref b4)])) rfl rfl (hb hby d3_123)
              have V11 : own_X Z h11 b4 k4 (own_flat (own_kf ck) bs).length ((own_flat (own_kf ck) pre) ++ [nar .byte (37 : Int32)]) := own_push Ar10 qk10 Sz10 Nn10 Hs10 Gf10 (fits_nar_byte _) W11 (by rw [hj10, (own_small (by omega)).2.1, hla10]) (by rw [hla10]; exact (by omega))
              obtain ⟨_, X11, N11⟩ := own_hide X11 (Fr.snoc X11 N2 g_b4)
              refine own_st st11 ?_
              show own_Go _ _ _ _ T11 (mkF m 124 #[.val (.ref ru), .val (.ref rk), .val (.int (Int32.ofNat (own_cnt (own_kf ck) bs))), .val (.ref b4), .val (.int ((Int32.ofNat (own_flat (own_kf ck) pre).length) + (1 : Int32))), .val (.ref ru), .val (.int (Int32.ofNat bs.length)), .val (.int (Int32.ofNat pre.length)), .val (.int bb)] [])
              refine own_st (fun t k => XS.aloadN X11.here hx rfl (hb hby d3_124) rfl rfl k) ?_
              show own_Go _ _ _ _ T11 (mkF m 125 #[.val (.ref ru), .val (.ref rk), .val (.int (Int32.ofNat (own_cnt (own_kf ck) bs))), .val (.ref b4), .val (.int ((Int32.ofNat (own_flat (own_kf ck) pre).length) + (1 : Int32))), .val (.ref ru), .val (.int (Int32.ofNat bs.length)), .val (.int (Int32.ofNat pre.length)), .val (.int bb)] [(.ref b4)])
              refine own_st (fun t k => XS.iload X11.here hx rfl (hb hby d3_125) rfl k) ?_
              show own_Go _ _ _ _ T11 (mkF m 127 #[.val (.ref ru), .val (.ref rk), .val (.int (Int32.ofNat (own_cnt (own_kf ck) bs))), .val (.ref b4), .val (.int ((Int32.ofNat (own_flat (own_kf ck) pre).length) + (1 : Int32))), .val (.ref ru), .val (.int (Int32.ofNat bs.length)), .val (.int (Int32.ofNat pre.length)), .val (.int bb)] [(.int ((Int32.ofNat (own_flat (own_kf ck) pre).length) + (1 : Int32))), (.ref b4)])
              refine own_st (fun t k => XS.iinc X11.here hx rfl (hb hby d3_127) rfl (l' := #[.val (.ref ru), .val (.ref rk), .val (.int (Int32.ofNat (own_cnt (own_kf ck) bs))), .val (.ref b4), .val (.int (((Int32.ofNat (own_flat (own_kf ck) pre).length) + (1 : Int32)) + (1 : Int32))), .val (.ref ru), .val (.int (Int32.ofNat bs.length)), .val (.int (Int32.ofNat pre.length)), .val (.int bb)]) rfl k) ?_
              show own_Go _ _ _ _ T11 (mkF m 130 #[.val (.ref ru), .val (.ref rk), .val (.int (Int32.ofNat (own_cnt (own_kf ck) bs))), .val (.ref b4), .val (.int (((Int32.ofNat (own_flat (own_kf ck) pre).length) + (1 : Int32)) + (1 : Int32))), .val (.ref ru), .val (.int (Int32.ofNat bs.length)), .val (.int (Int32.ofNat pre.length)), .val (.int bb)] [(.int ((Int32.ofNat (own_flat (own_kf ck) pre).length) + (1 : Int32))), (.ref b4)])
              have Sh2_12 := (Sh2.wr W11)
              obtain ⟨T13, X13, e13, st13⟩ := getS2 X11 hx hZ hown (host := "") (Or.inl (hw _ (List.mem_of_getElem? (i := 13) rfl))) Via.refl e11 Sh2_12 (g := (mkF m 130 #[.val (.ref ru), .val (.ref rk), .val (.int (Int32.ofNat (own_cnt (own_kf ck) bs))), .val (.ref b4), .val (.int (((Int32.ofNat (own_flat (own_kf ck) pre).length) + (1 : Int32)) + (1 : Int32))), .val (.ref ru), .val (.int (Int32.ofNat bs.length)), .val (.int (Int32.ofNat pre.length)), .val (.int bb)] [(.int ((Int32.ofNat (own_flat (own_kf ck) pre).length) + (1 : Int32))), (.ref b4)])) rfl (hb hby d3_130)
              refine own_st st13 ?_
              show own_Go _ _ _ _ T13 (mkF m 133 #[.val (.ref ru), .val (.ref rk), .val (.int (Int32.ofNat (own_cnt (own_kf ck) bs))), .val (.ref b4), .val (.int (((Int32.ofNat (own_flat (own_kf ck) pre).length) + (1 : Int32)) + (1 : Int32))), .val (.ref ru), .val (.int (Int32.ofNat bs.length)), .val (.int (Int32.ofNat pre.length)), .val (.int bb)] [(.ref ra), (.int ((Int32.ofNat (own_flat (own_kf ck) pre).length) + (1 : Int32))), (.ref b4)])
              refine own_st (fun t k => XS.iload X13.here hx rfl (hb hby d3_133) rfl k) ?_
              show own_Go _ _ _ _ T13 (mkF m 135 #[.val (.ref ru), .val (.ref rk), .val (.int (Int32.ofNat (own_cnt (own_kf ck) bs))), .val (.ref b4), .val (.int (((Int32.ofNat (own_flat (own_kf ck) pre).length) + (1 : Int32)) + (1 : Int32))), .val (.ref ru), .val (.int (Int32.ofNat bs.length)), .val (.int (Int32.ofNat pre.length)), .val (.int bb)] [(.int bb), (.ref ra), (.int ((Int32.ofNat (own_flat (own_kf ck) pre).length) + (1 : Int32))), (.ref b4)])
              refine own_st (fun t k => XS.iconst X13.here hx rfl (hb hby d3_135) k) ?_
              show own_Go _ _ _ _ T13 (mkF m 136 #[.val (.ref ru), .val (.ref rk), .val (.int (Int32.ofNat (own_cnt (own_kf ck) bs))), .val (.ref b4), .val (.int (((Int32.ofNat (own_flat (own_kf ck) pre).length) + (1 : Int32)) + (1 : Int32))), .val (.ref ru), .val (.int (Int32.ofNat bs.length)), .val (.int (Int32.ofNat pre.length)), .val (.int bb)] [(.int (4 : Int32)), (.int bb), (.ref ra), (.int ((Int32.ofNat (own_flat (own_kf ck) pre).length) + (1 : Int32))), (.ref b4)])
              refine own_st (fun t k => XS.ishr X13.here hx rfl (hb hby d3_136) rfl k) ?_
              show own_Go _ _ _ _ T13 (mkF m 137 #[.val (.ref ru), .val (.ref rk), .val (.int (Int32.ofNat (own_cnt (own_kf ck) bs))), .val (.ref b4), .val (.int (((Int32.ofNat (own_flat (own_kf ck) pre).length) + (1 : Int32)) + (1 : Int32))), .val (.ref ru), .val (.int (Int32.ofNat bs.length)), .val (.int (Int32.ofNat pre.length)), .val (.int bb)] [(.int (bb >>> ((4 : Int32) &&& 31))), (.ref ra), (.int ((Int32.ofNat (own_flat (own_kf ck) pre).length) + (1 : Int32))), (.ref b4)])
              refine own_st (fun t k => XS.bipush X13.here hx rfl (hb hby d3_137) k) ?_
              show own_Go _ _ _ _ T13 (mkF m 139 #[.val (.ref ru), .val (.ref rk), .val (.int (Int32.ofNat (own_cnt (own_kf ck) bs))), .val (.ref b4), .val (.int (((Int32.ofNat (own_flat (own_kf ck) pre).length) + (1 : Int32)) + (1 : Int32))), .val (.ref ru), .val (.int (Int32.ofNat bs.length)), .val (.int (Int32.ofNat pre.length)), .val (.int bb)] [(.int (15 : Int32)), (.int (bb >>> ((4 : Int32) &&& 31))), (.ref ra), (.int ((Int32.ofNat (own_flat (own_kf ck) pre).length) + (1 : Int32))), (.ref b4)])
              refine own_st (fun t k => XS.iand X13.here hx rfl (hb hby d3_139) rfl k) ?_
              show own_Go _ _ _ _ T13 (mkF m 140 #[.val (.ref ru), .val (.ref rk), .val (.int (Int32.ofNat (own_cnt (own_kf ck) bs))), .val (.ref b4), .val (.int (((Int32.ofNat (own_flat (own_kf ck) pre).length) + (1 : Int32)) + (1 : Int32))), .val (.ref ru), .val (.int (Int32.ofNat bs.length)), .val (.int (Int32.ofNat pre.length)), .val (.int bb)] [(.int ((bb >>> ((4 : Int32) &&& 31)) &&& (15 : Int32))), (.ref ra), (.int ((Int32.ofNat (own_flat (own_kf ck) pre).length) + (1 : Int32))), (.ref b4)])
              have Arh2_14 := (Arh2.other W11 ne_ra_b4)
              refine own_st (X13.baloadBytes hx (j := ((bb >>> ((4 : Int32) &&& 31)) &&& (15 : Int32))) (v := (.int (own_H ((bb >>> ((4 : Int32) &&& 31)) &&& (15 : Int32))))) (by rw [e13]; exact Arh2_14.1) (State.isArrayOf_alike hZ.alike Arh2_14.2.1) Arh2_14.2.2 (own_in16 hH.1 (own_lo _)) (hH.2 _ (own_lo _)) (g := (mkF m 140 #[.val (.ref ru), .val (.ref rk), .val (.int (Int32.ofNat (own_cnt (own_kf ck) bs))), .val (.ref b4), .val (.int (((Int32.ofNat (own_flat (own_kf ck) pre).length) + (1 : Int32)) + (1 : Int32))), .val (.ref ru), .val (.int (Int32.ofNat bs.length)), .val (.int (Int32.ofNat pre.length)), .val (.int bb)] [(.int ((bb >>> ((4 : Int32) &&& 31)) &&& (15 : Int32))), (.ref ra), (.int ((Int32.ofNat (own_flat (own_kf ck) pre).length) + (1 : Int32))), (.ref b4)])) rfl rfl (hb hby d3_140)) ?_
              show own_Go _ _ _ _ T13 (mkF m 141 #[.val (.ref ru), .val (.ref rk), .val (.int (Int32.ofNat (own_cnt (own_kf ck) bs))), .val (.ref b4), .val (.int (((Int32.ofNat (own_flat (own_kf ck) pre).length) + (1 : Int32)) + (1 : Int32))), .val (.ref ru), .val (.int (Int32.ofNat bs.length)), .val (.int (Int32.ofNat pre.length)), .val (.int bb)] [(.int (own_H ((bb >>> ((4 : Int32) &&& 31)) &&& (15 : Int32)))), (.int ((Int32.ofNat (own_flat (own_kf ck) pre).length) + (1 : Int32))), (.ref b4)])
              have K2_16 := (K2.wr W11 (Or.inr sz_b4))
              obtain ⟨cl17, Ar17, qk17, Sz17, Nn17, Hs17, Gf17⟩ := id V11
              have hla17 : (((own_flat (own_kf ck) pre) ++ [nar .byte (37 : Int32)])).length = (own_flat (own_kf ck) pre).length + 1 := by simp
              have hj17 : ((Int32.ofNat (own_flat (own_kf ck) pre).length) + (1 : Int32)) = Int32.ofNat ((own_flat (own_kf ck) pre).length + 1) := (own_plus (by omega) 1 (by decide))
              have hin17 := own_in9 Sz17 (by omega) hj17 (by omega)
              obtain ⟨T18, h18, X18, e18, W18, st18⟩ := stB X13 hx hZ e13 Ar17 (j := ((Int32.ofNat (own_flat (own_kf ck) pre).length) + (1 : Int32))) hin17 (g := (mkF m 141 #[.val (.ref ru), .val (.ref rk), .val (.int (Int32.ofNat (own_cnt (own_kf ck) bs))), .val (.ref b4), .val (.int (((Int32.ofNat (own_flat (own_kf ck) pre).length) + (1 : Int32)) + (1 : Int32))), .val (.ref ru), .val (.int (Int32.ofNat bs.length)), .val (.int (Int32.ofNat pre.length)), .val (.int bb)] [(.int (own_H ((bb >>> ((4 : Int32) &&& 31)) &&& (15 : Int32)))), (.int ((Int32.ofNat (own_flat (own_kf ck) pre).length) + (1 : Int32))), (.ref b4)])) rfl rfl (hb hby d3_141)
              have V18 : own_X Z h18 b4 k4 (own_flat (own_kf ck) bs).length (((own_flat (own_kf ck) pre) ++ [nar .byte (37 : Int32)]) ++ [nar .byte (own_H ((bb >>> ((4 : Int32) &&& 31)) &&& (15 : Int32)))]) := own_push Ar17 qk17 Sz17 Nn17 Hs17 Gf17 (fits_nar_byte _) W18 (by rw [hj17, (own_small (by omega)).2.1, hla17]) (by rw [hla17]; exact (by omega))
              obtain ⟨_, X18, N18⟩ := own_hide X18 (Fr.snoc X18 N11 g_b4)
              refine own_st st18 ?_
              show own_Go _ _ _ _ T18 (mkF m 142 #[.val (.ref ru), .val (.ref rk), .val (.int (Int32.ofNat (own_cnt (own_kf ck) bs))), .val (.ref b4), .val (.int (((Int32.ofNat (own_flat (own_kf ck) pre).length) + (1 : Int32)) + (1 : Int32))), .val (.ref ru), .val (.int (Int32.ofNat bs.length)), .val (.int (Int32.ofNat pre.length)), .val (.int bb)] [])
              refine own_st (fun t k => XS.aloadN X18.here hx rfl (hb hby d3_142) rfl rfl k) ?_
              show own_Go _ _ _ _ T18 (mkF m 143 #[.val (.ref ru), .val (.ref rk), .val (.int (Int32.ofNat (own_cnt (own_kf ck) bs))), .val (.ref b4), .val (.int (((Int32.ofNat (own_flat (own_kf ck) pre).length) + (1 : Int32)) + (1 : Int32))), .val (.ref ru), .val (.int (Int32.ofNat bs.length)), .val (.int (Int32.ofNat pre.length)), .val (.int bb)] [(.ref b4)])
              refine own_st (fun t k => XS.iload X18.here hx rfl (hb hby d3_143) rfl k) ?_
              show own_Go _ _ _ _ T18 (mkF m 145 #[.val (.ref ru), .val (.ref rk), .val (.int (Int32.ofNat (own_cnt (own_kf ck) bs))), .val (.ref b4), .val (.int (((Int32.ofNat (own_flat (own_kf ck) pre).length) + (1 : Int32)) + (1 : Int32))), .val (.ref ru), .val (.int (Int32.ofNat bs.length)), .val (.int (Int32.ofNat pre.length)), .val (.int bb)] [(.int (((Int32.ofNat (own_flat (own_kf ck) pre).length) + (1 : Int32)) + (1 : Int32))), (.ref b4)])
              refine own_st (fun t k => XS.iinc X18.here hx rfl (hb hby d3_145) rfl (l' := #[.val (.ref ru), .val (.ref rk), .val (.int (Int32.ofNat (own_cnt (own_kf ck) bs))), .val (.ref b4), .val (.int ((((Int32.ofNat (own_flat (own_kf ck) pre).length) + (1 : Int32)) + (1 : Int32)) + (1 : Int32))), .val (.ref ru), .val (.int (Int32.ofNat bs.length)), .val (.int (Int32.ofNat pre.length)), .val (.int bb)]) rfl k) ?_
              show own_Go _ _ _ _ T18 (mkF m 148 #[.val (.ref ru), .val (.ref rk), .val (.int (Int32.ofNat (own_cnt (own_kf ck) bs))), .val (.ref b4), .val (.int ((((Int32.ofNat (own_flat (own_kf ck) pre).length) + (1 : Int32)) + (1 : Int32)) + (1 : Int32))), .val (.ref ru), .val (.int (Int32.ofNat bs.length)), .val (.int (Int32.ofNat pre.length)), .val (.int bb)] [(.int (((Int32.ofNat (own_flat (own_kf ck) pre).length) + (1 : Int32)) + (1 : Int32))), (.ref b4)])
              have Sh2_19 := (Sh2_12.wr W18)
              obtain ⟨T20, X20, e20, st20⟩ := getS2 X18 hx hZ hown (host := "") (Or.inl (hw _ (List.mem_of_getElem? (i := 13) rfl))) Via.refl e18 Sh2_19 (g := (mkF m 148 #[.val (.ref ru), .val (.ref rk), .val (.int (Int32.ofNat (own_cnt (own_kf ck) bs))), .val (.ref b4), .val (.int ((((Int32.ofNat (own_flat (own_kf ck) pre).length) + (1 : Int32)) + (1 : Int32)) + (1 : Int32))), .val (.ref ru), .val (.int (Int32.ofNat bs.length)), .val (.int (Int32.ofNat pre.length)), .val (.int bb)] [(.int (((Int32.ofNat (own_flat (own_kf ck) pre).length) + (1 : Int32)) + (1 : Int32))), (.ref b4)])) rfl (hb hby d3_148)
              refine own_st st20 ?_
              show own_Go _ _ _ _ T20 (mkF m 151 #[.val (.ref ru), .val (.ref rk), .val (.int (Int32.ofNat (own_cnt (own_kf ck) bs))), .val (.ref b4), .val (.int ((((Int32.ofNat (own_flat (own_kf ck) pre).length) + (1 : Int32)) + (1 : Int32)) + (1 : Int32))), .val (.ref ru), .val (.int (Int32.ofNat bs.length)), .val (.int (Int32.ofNat pre.length)), .val (.int bb)] [(.ref ra), (.int (((Int32.ofNat (own_flat (own_kf ck) pre).length) + (1 : Int32)) + (1 : Int32))), (.ref b4)])
              refine own_st (fun t k => XS.iload X20.here hx rfl (hb hby d3_151) rfl k) ?_
              show own_Go _ _ _ _ T20 (mkF m 153 #[.val (.ref ru), .val (.ref rk), .val (.int (Int32.ofNat (own_cnt (own_kf ck) bs))), .val (.ref b4), .val (.int ((((Int32.ofNat (own_flat (own_kf ck) pre).length) + (1 : Int32)) + (1 : Int32)) + (1 : Int32))), .val (.ref ru), .val (.int (Int32.ofNat bs.length)), .val (.int (Int32.ofNat pre.length)), .val (.int bb)] [(.int bb), (.ref ra), (.int (((Int32.ofNat (own_flat (own_kf ck) pre).length) + (1 : Int32)) + (1 : Int32))), (.ref b4)])
              refine own_st (fun t k => XS.bipush X20.here hx rfl (hb hby d3_153) k) ?_
              show own_Go _ _ _ _ T20 (mkF m 155 #[.val (.ref ru), .val (.ref rk), .val (.int (Int32.ofNat (own_cnt (own_kf ck) bs))), .val (.ref b4), .val (.int ((((Int32.ofNat (own_flat (own_kf ck) pre).length) + (1 : Int32)) + (1 : Int32)) + (1 : Int32))), .val (.ref ru), .val (.int (Int32.ofNat bs.length)), .val (.int (Int32.ofNat pre.length)), .val (.int bb)] [(.int (15 : Int32)), (.int bb), (.ref ra), (.int (((Int32.ofNat (own_flat (own_kf ck) pre).length) + (1 : Int32)) + (1 : Int32))), (.ref b4)])
              refine own_st (fun t k => XS.iand X20.here hx rfl (hb hby d3_155) rfl k) ?_
              show own_Go _ _ _ _ T20 (mkF m 156 #[.val (.ref ru), .val (.ref rk), .val (.int (Int32.ofNat (own_cnt (own_kf ck) bs))), .val (.ref b4), .val (.int ((((Int32.ofNat (own_flat (own_kf ck) pre).length) + (1 : Int32)) + (1 : Int32)) + (1 : Int32))), .val (.ref ru), .val (.int (Int32.ofNat bs.length)), .val (.int (Int32.ofNat pre.length)), .val (.int bb)] [(.int (bb &&& (15 : Int32))), (.ref ra), (.int (((Int32.ofNat (own_flat (own_kf ck) pre).length) + (1 : Int32)) + (1 : Int32))), (.ref b4)])
              have Arh2_21 := (Arh2_14.other W18 ne_ra_b4)
              refine own_st (X20.baloadBytes hx (j := (bb &&& (15 : Int32))) (v := (.int (own_H (bb &&& (15 : Int32))))) (by rw [e20]; exact Arh2_21.1) (State.isArrayOf_alike hZ.alike Arh2_21.2.1) Arh2_21.2.2 (own_in16 hH.1 (own_lo _)) (hH.2 _ (own_lo _)) (g := (mkF m 156 #[.val (.ref ru), .val (.ref rk), .val (.int (Int32.ofNat (own_cnt (own_kf ck) bs))), .val (.ref b4), .val (.int ((((Int32.ofNat (own_flat (own_kf ck) pre).length) + (1 : Int32)) + (1 : Int32)) + (1 : Int32))), .val (.ref ru), .val (.int (Int32.ofNat bs.length)), .val (.int (Int32.ofNat pre.length)), .val (.int bb)] [(.int (bb &&& (15 : Int32))), (.ref ra), (.int (((Int32.ofNat (own_flat (own_kf ck) pre).length) + (1 : Int32)) + (1 : Int32))), (.ref b4)])) rfl rfl (hb hby d3_156)) ?_
              show own_Go _ _ _ _ T20 (mkF m 157 #[.val (.ref ru), .val (.ref rk), .val (.int (Int32.ofNat (own_cnt (own_kf ck) bs))), .val (.ref b4), .val (.int ((((Int32.ofNat (own_flat (own_kf ck) pre).length) + (1 : Int32)) + (1 : Int32)) + (1 : Int32))), .val (.ref ru), .val (.int (Int32.ofNat bs.length)), .val (.int (Int32.ofNat pre.length)), .val (.int bb)] [(.int (own_H (bb &&& (15 : Int32)))), (.int (((Int32.ofNat (own_flat (own_kf ck) pre).length) + (1 : Int32)) + (1 : Int32))), (.ref b4)])
              have K2_23 := (K2_16.wr W18 (Or.inr sz_b4))
              obtain ⟨cl24, Ar24, qk24, Sz24, Nn24, Hs24, Gf24⟩ := id V18
              have hla24 : ((((own_flat (own_kf ck) pre) ++ [nar .byte (37 : Int32)]) ++ [nar .byte (own_H ((bb >>> ((4 : Int32) &&& 31)) &&& (15 : Int32)))])).length = (own_flat (own_kf ck) pre).length + 2 := by simp
              have hj24 : (((Int32.ofNat (own_flat (own_kf ck) pre).length) + (1 : Int32)) + (1 : Int32)) = Int32.ofNat ((own_flat (own_kf ck) pre).length + 2) := ((congrArg (· + (1 : Int32)) (own_plus (by omega) 1 (by decide))).trans (own_plus (by omega) 1 (by decide)))
              have hin24 := own_in9 Sz24 (by omega) hj24 (by omega)
              obtain ⟨T25, h25, X25, e25, W25, st25⟩ := stB X20 hx hZ e20 Ar24 (j := (((Int32.ofNat (own_flat (own_kf ck) pre).length) + (1 : Int32)) + (1 : Int32))) hin24 (g := (mkF m 157 #[.val (.ref ru), .val (.ref rk), .val (.int (Int32.ofNat (own_cnt (own_kf ck) bs))), .val (.ref b4), .val (.int ((((Int32.ofNat (own_flat (own_kf ck) pre).length) + (1 : Int32)) + (1 : Int32)) + (1 : Int32))), .val (.ref ru), .val (.int (Int32.ofNat bs.length)), .val (.int (Int32.ofNat pre.length)), .val (.int bb)] [(.int (own_H (bb &&& (15 : Int32)))), (.int (((Int32.ofNat (own_flat (own_kf ck) pre).length) + (1 : Int32)) + (1 : Int32))), (.ref b4)])) rfl rfl (hb hby d3_157)
              have V25 : own_X Z h25 b4 k4 (own_flat (own_kf ck) bs).length ((((own_flat (own_kf ck) pre) ++ [nar .byte (37 : Int32)]) ++ [nar .byte (own_H ((bb >>> ((4 : Int32) &&& 31)) &&& (15 : Int32)))]) ++ [nar .byte (own_H (bb &&& (15 : Int32)))]) := own_push Ar24 qk24 Sz24 Nn24 Hs24 Gf24 (fits_nar_byte _) W25 (by rw [hj24, (own_small (by omega)).2.1, hla24]) (by rw [hla24]; exact (by omega))
              obtain ⟨_, X25, N25⟩ := own_hide X25 (Fr.snoc X25 N18 g_b4)
              refine own_st st25 ?_
              show own_Go _ _ _ _ T25 (mkF m 158 #[.val (.ref ru), .val (.ref rk), .val (.int (Int32.ofNat (own_cnt (own_kf ck) bs))), .val (.ref b4), .val (.int ((((Int32.ofNat (own_flat (own_kf ck) pre).length) + (1 : Int32)) + (1 : Int32)) + (1 : Int32))), .val (.ref ru), .val (.int (Int32.ofNat bs.length)), .val (.int (Int32.ofNat pre.length)), .val (.int bb)] [])
              refine own_st (fun t k => XS.iinc X25.here hx rfl (hb hby d3_158) rfl (l' := #[.val (.ref ru), .val (.ref rk), .val (.int (Int32.ofNat (own_cnt (own_kf ck) bs))), .val (.ref b4), .val (.int ((((Int32.ofNat (own_flat (own_kf ck) pre).length) + (1 : Int32)) + (1 : Int32)) + (1 : Int32))), .val (.ref ru), .val (.int (Int32.ofNat bs.length)), .val (.int ((Int32.ofNat pre.length) + (1 : Int32))), .val (.int bb)]) rfl k) ?_
              show own_Go _ _ _ _ T25 (mkF m 161 #[.val (.ref ru), .val (.ref rk), .val (.int (Int32.ofNat (own_cnt (own_kf ck) bs))), .val (.ref b4), .val (.int ((((Int32.ofNat (own_flat (own_kf ck) pre).length) + (1 : Int32)) + (1 : Int32)) + (1 : Int32))), .val (.ref ru), .val (.int (Int32.ofNat bs.length)), .val (.int ((Int32.ofNat pre.length) + (1 : Int32))), .val (.int bb)] [])
              refine own_st (fun t k => XS.goto X25.here hx rfl (pc0 := 161) (pc' := 78) rfl (hb hby d3_161) (by decide) (by decide) k) ?_
              show own_Go _ _ _ _ T25 (mkF m 78 #[.val (.ref ru), .val (.ref rk), .val (.int (Int32.ofNat (own_cnt (own_kf ck) bs))), .val (.ref b4), .val (.int ((((Int32.ofNat (own_flat (own_kf ck) pre).length) + (1 : Int32)) + (1 : Int32)) + (1 : Int32))), .val (.ref ru), .val (.int (Int32.ofNat bs.length)), .val (.int ((Int32.ofNat pre.length) + (1 : Int32))), .val (.int bb)] [])
              have hf : (own_flat (own_kf ck) (pre ++ [bb])) = ((((own_flat (own_kf ck) pre) ++ [nar .byte (37 : Int32)]) ++ [nar .byte (own_H ((bb >>> ((4 : Int32) &&& 31)) &&& (15 : Int32)))]) ++ [nar .byte (own_H (bb &&& (15 : Int32)))]) := by rw [own_flat_snoc, own_enc0 c100_9]; simp only [List.append_assoc, List.cons_append, List.nil_append]
              have K2_26 := (K2_23.wr W25 (Or.inr sz_b4))
              have q := ih (pre ++ [bb]) (some bb) T25 h25 _ X25 e25 N25 K2_26 (by rw [hf]; exact V25) (by rw [hpre]; simp)
              have hl4 : Int32.ofNat (own_flat (own_kf ck) (pre ++ [bb])).length = ((((Int32.ofNat (own_flat (own_kf ck) pre).length) + (1 : Int32)) + (1 : Int32)) + (1 : Int32)) := by
                have e4 : (own_flat (own_kf ck) (pre ++ [bb])).length = (own_flat (own_kf ck) pre).length + 3 := by rw [hf]; simp
                rw [e4]
                exact (((congrArg (· + (1 : Int32)) ((congrArg (· + (1 : Int32)) (own_plus (by omega) 1 (by decide))).trans (own_plus (by omega) 1 (by decide)))).trans (own_plus (by omega) 1 (by decide))).symm)
              rw [hl4, show Int32.ofNat (pre ++ [bb]).length = ((Int32.ofNat pre.length) + (1 : Int32)) from (by rw [List.length_append]; exact (own_plus (by have := (own_lt3 hpre hbl).2.1; omega) 1 (by decide)).symm)] at q
              exact q
            ·
              refine own_st (fun t k => XS.ifNo X2.here hx rfl (hb hby d3_100) rfl ((if0 _ _).trans (feq c100_9).1) k) ?_
              show own_Go _ _ _ _ T2 (mkF m 103 #[.val (.ref ru), .val (.ref rk), .val (.int (Int32.ofNat (own_cnt (own_kf ck) bs))), .val (.ref b4), .val (.int (Int32.ofNat (own_flat (own_kf ck) pre).length)), .val (.ref ru), .val (.int (Int32.ofNat bs.length)), .val (.int (Int32.ofNat pre.length)), .val (.int bb)] [])
              have hpl := own_pre_len (own_kf ck) hpre
              rw [own_enc_len, if_neg c100_9] at hpl
              refine own_st (fun t k => XS.aloadN X2.here hx rfl (hb hby d3_103) rfl rfl k) ?_
              show own_Go _ _ _ _ T2 (mkF m 104 #[.val (.ref ru), .val (.ref rk), .val (.int (Int32.ofNat (own_cnt (own_kf ck) bs))), .val (.ref b4), .val (.int (Int32.ofNat (own_flat (own_kf ck) pre).length)), .val (.ref ru), .val (.int (Int32.ofNat bs.length)), .val (.int (Int32.ofNat pre.length)), .val (.int bb)] [(.ref b4)])
              refine own_st (fun t k => XS.iload X2.here hx rfl (hb hby d3_104) rfl k) ?_
              show own_Go _ _ _ _ T2 (mkF m 106 #[.val (.ref ru), .val (.ref rk), .val (.int (Int32.ofNat (own_cnt (own_kf ck) bs))), .val (.ref b4), .val (.int (Int32.ofNat (own_flat (own_kf ck) pre).length)), .val (.ref ru), .val (.int (Int32.ofNat bs.length)), .val (.int (Int32.ofNat pre.length)), .val (.int bb)] [(.int (Int32.ofNat (own_flat (own_kf ck) pre).length)), (.ref b4)])
              refine own_st (fun t k => XS.iinc X2.here hx rfl (hb hby d3_106) rfl (l' := #[.val (.ref ru), .val (.ref rk), .val (.int (Int32.ofNat (own_cnt (own_kf ck) bs))), .val (.ref b4), .val (.int ((Int32.ofNat (own_flat (own_kf ck) pre).length) + (1 : Int32))), .val (.ref ru), .val (.int (Int32.ofNat bs.length)), .val (.int (Int32.ofNat pre.length)), .val (.int bb)]) rfl k) ?_
              show own_Go _ _ _ _ T2 (mkF m 109 #[.val (.ref ru), .val (.ref rk), .val (.int (Int32.ofNat (own_cnt (own_kf ck) bs))), .val (.ref b4), .val (.int ((Int32.ofNat (own_flat (own_kf ck) pre).length) + (1 : Int32))), .val (.ref ru), .val (.int (Int32.ofNat bs.length)), .val (.int (Int32.ofNat pre.length)), .val (.int bb)] [(.int (Int32.ofNat (own_flat (own_kf ck) pre).length)), (.ref b4)])
              refine own_st (fun t k => XS.iload X2.here hx rfl (hb hby d3_109) rfl k) ?_
              show own_Go _ _ _ _ T2 (mkF m 111 #[.val (.ref ru), .val (.ref rk), .val (.int (Int32.ofNat (own_cnt (own_kf ck) bs))), .val (.ref b4), .val (.int ((Int32.ofNat (own_flat (own_kf ck) pre).length) + (1 : Int32))), .val (.ref ru), .val (.int (Int32.ofNat bs.length)), .val (.int (Int32.ofNat pre.length)), .val (.int bb)] [(.int bb), (.int (Int32.ofNat (own_flat (own_kf ck) pre).length)), (.ref b4)])
              obtain ⟨cl27, Ar27, qk27, Sz27, Nn27, Hs27, Gf27⟩ := id V2
              have hla27 : ((own_flat (own_kf ck) pre)).length = (own_flat (own_kf ck) pre).length + 0 := rfl
              have hj27 : (Int32.ofNat (own_flat (own_kf ck) pre).length) = Int32.ofNat ((own_flat (own_kf ck) pre).length + 0) := rfl
              have hin27 := own_in9 Sz27 (by omega) hj27 (by omega)
              obtain ⟨T28, h28, X28, e28, W28, st28⟩ := stB X2 hx hZ e2 Ar27 (j := (Int32.ofNat (own_flat (own_kf ck) pre).length)) hin27 (g := (mkF m 111 #[.val (.ref ru), .val (.ref rk), .val (.int (Int32.ofNat (own_cnt (own_kf ck) bs))), .val (.ref b4), .val (.int ((Int32.ofNat (own_flat (own_kf ck) pre).length) + (1 : Int32))), .val (.ref ru), .val (.int (Int32.ofNat bs.length)), .val (.int (Int32.ofNat pre.length)), .val (.int bb)] [(.int bb), (.int (Int32.ofNat (own_flat (own_kf ck) pre).length)), (.ref b4)])) rfl rfl (hb hby d3_111)
              have V28 : own_X Z h28 b4 k4 (own_flat (own_kf ck) bs).length ((own_flat (own_kf ck) pre) ++ [nar .byte bb]) := own_push Ar27 qk27 Sz27 Nn27 Hs27 Gf27 (fits_nar_byte _) W28 (by rw [hj27, (own_small (by omega)).2.1, hla27]) (by rw [hla27]; exact (by omega))
              obtain ⟨_, X28, N28⟩ := own_hide X28 (Fr.snoc X28 N2 g_b4)
              refine own_st st28 ?_
              show own_Go _ _ _ _ T28 (mkF m 112 #[.val (.ref ru), .val (.ref rk), .val (.int (Int32.ofNat (own_cnt (own_kf ck) bs))), .val (.ref b4), .val (.int ((Int32.ofNat (own_flat (own_kf ck) pre).length) + (1 : Int32))), .val (.ref ru), .val (.int (Int32.ofNat bs.length)), .val (.int (Int32.ofNat pre.length)), .val (.int bb)] [])
              refine own_st (fun t k => XS.goto X28.here hx rfl (pc0 := 112) (pc' := 158) rfl (hb hby d3_112) (by decide) (by decide) k) ?_
              show own_Go _ _ _ _ T28 (mkF m 158 #[.val (.ref ru), .val (.ref rk), .val (.int (Int32.ofNat (own_cnt (own_kf ck) bs))), .val (.ref b4), .val (.int ((Int32.ofNat (own_flat (own_kf ck) pre).length) + (1 : Int32))), .val (.ref ru), .val (.int (Int32.ofNat bs.length)), .val (.int (Int32.ofNat pre.length)), .val (.int bb)] [])
              refine own_st (fun t k => XS.iinc X28.here hx rfl (hb hby d3_158) rfl (l' := #[.val (.ref ru), .val (.ref rk), .val (.int (Int32.ofNat (own_cnt (own_kf ck) bs))), .val (.ref b4), .val (.int ((Int32.ofNat (own_flat (own_kf ck) pre).length) + (1 : Int32))), .val (.ref ru), .val (.int (Int32.ofNat bs.length)), .val (.int ((Int32.ofNat pre.length) + (1 : Int32))), .val (.int bb)]) rfl k) ?_
              show own_Go _ _ _ _ T28 (mkF m 161 #[.val (.ref ru), .val (.ref rk), .val (.int (Int32.ofNat (own_cnt (own_kf ck) bs))), .val (.ref b4), .val (.int ((Int32.ofNat (own_flat (own_kf ck) pre).length) + (1 : Int32))), .val (.ref ru), .val (.int (Int32.ofNat bs.length)), .val (.int ((Int32.ofNat pre.length) + (1 : Int32))), .val (.int bb)] [])
              refine own_st (fun t k => XS.goto X28.here hx rfl (pc0 := 161) (pc' := 78) rfl (hb hby d3_161) (by decide) (by decide) k) ?_
              show own_Go _ _ _ _ T28 (mkF m 78 #[.val (.ref ru), .val (.ref rk), .val (.int (Int32.ofNat (own_cnt (own_kf ck) bs))), .val (.ref b4), .val (.int ((Int32.ofNat (own_flat (own_kf ck) pre).length) + (1 : Int32))), .val (.ref ru), .val (.int (Int32.ofNat bs.length)), .val (.int ((Int32.ofNat pre.length) + (1 : Int32))), .val (.int bb)] [])
              have hf : (own_flat (own_kf ck) (pre ++ [bb])) = ((own_flat (own_kf ck) pre) ++ [nar .byte bb]) := by rw [own_flat_snoc, own_enc1 c100_9]
              have K2_29 := (K2.wr W28 (Or.inr sz_b4))
              have q := ih (pre ++ [bb]) (some bb) T28 h28 _ X28 e28 N28 K2_29 (by rw [hf]; exact V28) (by rw [hpre]; simp)
              have hl4 : Int32.ofNat (own_flat (own_kf ck) (pre ++ [bb])).length = ((Int32.ofNat (own_flat (own_kf ck) pre).length) + (1 : Int32)) := by
                have e4 : (own_flat (own_kf ck) (pre ++ [bb])).length = (own_flat (own_kf ck) pre).length + 1 := by rw [hf]; simp
                rw [e4]
                exact (own_plus (by omega) 1 (by decide)).symm
              rw [hl4, show Int32.ofNat (pre ++ [bb]).length = ((Int32.ofNat pre.length) + (1 : Int32)) from (by rw [List.length_append]; exact (own_plus (by have := (own_lt3 hpre hbl).2.1; omega) 1 (by decide)).symm)] at q
              exact q
        have K0_30 := (K0.ext E4)
        exact LOOP2 bs [] none T4 h4 _ X4 e4 N0 K0_30 V4 rfl
    | cons bb rest ih =>
      intro pre o6 hpre
      show own_Go _ _ _ _ s₁ (mkF m 11 #[.val (.ref ru), .val (.ref rk), .val (.int (Int32.ofNat (own_cnt (own_kf ck) pre))), .val (.ref ru), .val (.int (Int32.ofNat bs.length)), .val (.int (Int32.ofNat pre.length)), (own_sl o6), .unset, .unset] [])
      refine own_st (fun t k => XS.iload X0.here hx rfl (hb hby d3_11) rfl k) ?_
      show own_Go _ _ _ _ s₁ (mkF m 13 #[.val (.ref ru), .val (.ref rk), .val (.int (Int32.ofNat (own_cnt (own_kf ck) pre))), .val (.ref ru), .val (.int (Int32.ofNat bs.length)), .val (.int (Int32.ofNat pre.length)), (own_sl o6), .unset, .unset] [(.int (Int32.ofNat pre.length))])
      refine own_st (fun t k => XS.iload X0.here hx rfl (hb hby d3_13) rfl k) ?_
      show own_Go _ _ _ _ s₁ (mkF m 15 #[.val (.ref ru), .val (.ref rk), .val (.int (Int32.ofNat (own_cnt (own_kf ck) pre))), .val (.ref ru), .val (.int (Int32.ofNat bs.length)), .val (.int (Int32.ofNat pre.length)), (own_sl o6), .unset, .unset] [(.int (Int32.ofNat bs.length)), (.int (Int32.ofNat pre.length))])
      refine own_st (fun t k => XS.icmpNo X0.here hx rfl (hb hby d3_15) rfl (tlt ((own_lt3 hpre hbl).2.2 : (Int32.ofNat pre.length) < (Int32.ofNat bs.length))).2.1 k) ?_
      show own_Go _ _ _ _ s₁ (mkF m 18 #[.val (.ref ru), .val (.ref rk), .val (.int (Int32.ofNat (own_cnt (own_kf ck) pre))), .val (.ref ru), .val (.int (Int32.ofNat bs.length)), .val (.int (Int32.ofNat pre.length)), (own_sl o6), .unset, .unset] [])
      refine own_st (fun t k => XS.aloadN X0.here hx rfl (hb hby d3_18) rfl rfl k) ?_
      show own_Go _ _ _ _ s₁ (mkF m 19 #[.val (.ref ru), .val (.ref rk), .val (.int (Int32.ofNat (own_cnt (own_kf ck) pre))), .val (.ref ru), .val (.int (Int32.ofNat bs.length)), .val (.int (Int32.ofNat pre.length)), (own_sl o6), .unset, .unset] [(.ref ru)])
      refine own_st (fun t k => XS.iload X0.here hx rfl (hb hby d3_19) rfl k) ?_
      show own_Go _ _ _ _ s₁ (mkF m 21 #[.val (.ref ru), .val (.ref rk), .val (.int (Int32.ofNat (own_cnt (own_kf ck) pre))), .val (.ref ru), .val (.int (Int32.ofNat bs.length)), .val (.int (Int32.ofNat pre.length)), (own_sl o6), .unset, .unset] [(.int (Int32.ofNat pre.length)), (.ref ru)])
      obtain ⟨cl31, Ar31, qk31, Sz31, Nn31, Hs31, Gf31⟩ := id V_u
      have hin31 : ¬ ((Int32.ofNat pre.length) < 0 ∨ cl31.slots.size ≤ ((Int32.ofNat pre.length)).toNatClampNeg) := own_in9 Sz31 (by omega) rfl (own_lt3 hpre hbl).1
      have hat31 : cl31.slots[((Int32.ofNat pre.length)).toNatClampNeg]? = some (.int bb) := Has.at Hs31 hin31 (by rw [own_getI, (own_small (by have := (own_lt3 hpre hbl).2.1; omega)).2.1, hpre, own_midl])
      refine own_st (X0.baloadBytes hx (j := (Int32.ofNat pre.length)) (v := (.int bb)) (by rw [e0]; exact Ar31.1) (State.isArrayOf_alike hZ.alike Ar31.2.1) Ar31.2.2 hin31 hat31 (g := (mkF m 21 #[.val (.ref ru), .val (.ref rk), .val (.int (Int32.ofNat (own_cnt (own_kf ck) pre))), .val (.ref ru), .val (.int (Int32.ofNat bs.length)), .val (.int (Int32.ofNat pre.length)), (own_sl o6), .unset, .unset] [(.int (Int32.ofNat pre.length)), (.ref ru)])) rfl rfl (hb hby d3_21)) ?_
      show own_Go _ _ _ _ s₁ (mkF m 22 #[.val (.ref ru), .val (.ref rk), .val (.int (Int32.ofNat (own_cnt (own_kf ck) pre))), .val (.ref ru), .val (.int (Int32.ofNat bs.length)), .val (.int (Int32.ofNat pre.length)), (own_sl o6), .unset, .unset] [(.int bb)])
      refine own_st (fun t k => XS.istore X0.here hx rfl (hb hby d3_22) rfl (l' := #[.val (.ref ru), .val (.ref rk), .val (.int (Int32.ofNat (own_cnt (own_kf ck) pre))), .val (.ref ru), .val (.int (Int32.ofNat bs.length)), .val (.int (Int32.ofNat pre.length)), .val (.int bb), .unset, .unset]) (by cases o6 <;> rfl) k) ?_
      show own_Go _ _ _ _ s₁ (mkF m 24 #[.val (.ref ru), .val (.ref rk), .val (.int (Int32.ofNat (own_cnt (own_kf ck) pre))), .val (.ref ru), .val (.int (Int32.ofNat bs.length)), .val (.int (Int32.ofNat pre.length)), .val (.int bb), .unset, .unset] [])
      refine own_st (fun t k => XS.iloadN X0.here hx rfl (hb hby d3_24) rfl k) ?_
      show own_Go _ _ _ _ s₁ (mkF m 25 #[.val (.ref ru), .val (.ref rk), .val (.int (Int32.ofNat (own_cnt (own_kf ck) pre))), .val (.ref ru), .val (.int (Int32.ofNat bs.length)), .val (.int (Int32.ofNat pre.length)), .val (.int bb), .unset, .unset] [(.int (Int32.ofNat (own_cnt (own_kf ck) pre)))])
      refine own_st (fun t k => XS.aloadN X0.here hx rfl (hb hby d3_25) rfl rfl k) ?_
      show own_Go _ _ _ _ s₁ (mkF m 26 #[.val (.ref ru), .val (.ref rk), .val (.int (Int32.ofNat (own_cnt (own_kf ck) pre))), .val (.ref ru), .val (.int (Int32.ofNat bs.length)), .val (.int (Int32.ofNat pre.length)), .val (.int bb), .unset, .unset] [(.ref rk), (.int (Int32.ofNat (own_cnt (own_kf ck) pre)))])
      refine own_st (fun t k => XS.iload X0.here hx rfl (hb hby d3_26) rfl k) ?_
      show own_Go _ _ _ _ s₁ (mkF m 28 #[.val (.ref ru), .val (.ref rk), .val (.int (Int32.ofNat (own_cnt (own_kf ck) pre))), .val (.ref ru), .val (.int (Int32.ofNat bs.length)), .val (.int (Int32.ofNat pre.length)), .val (.int bb), .unset, .unset] [(.int bb), (.ref rk), (.int (Int32.ofNat (own_cnt (own_kf ck) pre)))])
      refine own_st (fun t k => XS.sipush X0.here hx rfl (hb hby d3_28) k) ?_
      show own_Go _ _ _ _ s₁ (mkF m 31 #[.val (.ref ru), .val (.ref rk), .val (.int (Int32.ofNat (own_cnt (own_kf ck) pre))), .val (.ref ru), .val (.int (Int32.ofNat bs.length)), .val (.int (Int32.ofNat pre.length)), .val (.int bb), .unset, .unset] [(.int (255 : Int32)), (.int bb), (.ref rk), (.int (Int32.ofNat (own_cnt (own_kf ck) pre)))])
      refine own_st (fun t k => XS.iand X0.here hx rfl (hb hby d3_31) rfl k) ?_
      show own_Go _ _ _ _ s₁ (mkF m 32 #[.val (.ref ru), .val (.ref rk), .val (.int (Int32.ofNat (own_cnt (own_kf ck) pre))), .val (.ref ru), .val (.int (Int32.ofNat bs.length)), .val (.int (Int32.ofNat pre.length)), .val (.int bb), .unset, .unset] [(.int (bb &&& (255 : Int32))), (.ref rk), (.int (Int32.ofNat (own_cnt (own_kf ck) pre)))])
      have hin32 : ¬ ((bb &&& (255 : Int32)) < 0 ∨ ck.slots.size ≤ ((bb &&& (255 : Int32))).toNatClampNeg) := inb_of T_k.2.1 (own_b255 _)
      have hat32 : ck.slots[((bb &&& (255 : Int32))).toNatClampNeg]? = some (.int (own_kf ck bb)) := T_k.2.2.2 _ hin32
      refine own_st (X0.baloadBooleans hx (j := (bb &&& (255 : Int32))) (v := (.int (own_kf ck bb))) (by rw [e0]; exact T_k.1.1) (State.isArrayOf_alike hZ.alike T_k.1.2.1) T_k.1.2.2 hin32 hat32 (g := (mkF m 32 #[.val (.ref ru), .val (.ref rk), .val (.int (Int32.ofNat (own_cnt (own_kf ck) pre))), .val (.ref ru), .val (.int (Int32.ofNat bs.length)), .val (.int (Int32.ofNat pre.length)), .val (.int bb), .unset, .unset] [(.int (bb &&& (255 : Int32))), (.ref rk), (.int (Int32.ofNat (own_cnt (own_kf ck) pre)))])) rfl rfl (hb hby d3_32)) ?_
      show own_Go _ _ _ _ s₁ (mkF m 33 #[.val (.ref ru), .val (.ref rk), .val (.int (Int32.ofNat (own_cnt (own_kf ck) pre))), .val (.ref ru), .val (.int (Int32.ofNat bs.length)), .val (.int (Int32.ofNat pre.length)), .val (.int bb), .unset, .unset] [(.int (own_kf ck bb)), (.int (Int32.ofNat (own_cnt (own_kf ck) pre)))])
      by_cases c33_33 : (own_kf ck bb) = (0 : Int32)
      ·
        refine own_st (fun t k => XS.ifYes X0.here hx rfl (pc0 := 33) (pc' := 40) rfl (hb hby d3_33) rfl ((if0 _ _).trans (teq c33_33).1) (by decide) (by decide) k) ?_
        show own_Go _ _ _ _ s₁ (mkF m 40 #[.val (.ref ru), .val (.ref rk), .val (.int (Int32.ofNat (own_cnt (own_kf ck) pre))), .val (.ref ru), .val (.int (Int32.ofNat bs.length)), .val (.int (Int32.ofNat pre.length)), .val (.int bb), .unset, .unset] [(.int (Int32.ofNat (own_cnt (own_kf ck) pre)))])
        refine own_st (fun t k => XS.iconst X0.here hx rfl (hb hby d3_40) k) ?_
        show own_Go _ _ _ _ s₁ (mkF m 41 #[.val (.ref ru), .val (.ref rk), .val (.int (Int32.ofNat (own_cnt (own_kf ck) pre))), .val (.ref ru), .val (.int (Int32.ofNat bs.length)), .val (.int (Int32.ofNat pre.length)), .val (.int bb), .unset, .unset] [(.int (1 : Int32)), (.int (Int32.ofNat (own_cnt (own_kf ck) pre)))])
        refine own_st (fun t k => XS.iadd X0.here hx rfl (hb hby d3_41) rfl k) ?_
        show own_Go _ _ _ _ s₁ (mkF m 42 #[.val (.ref ru), .val (.ref rk), .val (.int (Int32.ofNat (own_cnt (own_kf ck) pre))), .val (.ref ru), .val (.int (Int32.ofNat bs.length)), .val (.int (Int32.ofNat pre.length)), .val (.int bb), .unset, .unset] [(.int ((Int32.ofNat (own_cnt (own_kf ck) pre)) + (1 : Int32)))])
        refine own_st (fun t k => XS.istoreN X0.here hx rfl (hb hby d3_42) rfl (l' := #[.val (.ref ru), .val (.ref rk), .val (.int ((Int32.ofNat (own_cnt (own_kf ck) pre)) + (1 : Int32))), .val (.ref ru), .val (.int (Int32.ofNat bs.length)), .val (.int (Int32.ofNat pre.length)), .val (.int bb), .unset, .unset]) rfl k) ?_
        show own_Go _ _ _ _ s₁ (mkF m 43 #[.val (.ref ru), .val (.ref rk), .val (.int ((Int32.ofNat (own_cnt (own_kf ck) pre)) + (1 : Int32))), .val (.ref ru), .val (.int (Int32.ofNat bs.length)), .val (.int (Int32.ofNat pre.length)), .val (.int bb), .unset, .unset] [])
        refine own_st (fun t k => XS.iinc X0.here hx rfl (hb hby d3_43) rfl (l' := #[.val (.ref ru), .val (.ref rk), .val (.int ((Int32.ofNat (own_cnt (own_kf ck) pre)) + (1 : Int32))), .val (.ref ru), .val (.int (Int32.ofNat bs.length)), .val (.int ((Int32.ofNat pre.length) + (1 : Int32))), .val (.int bb), .unset, .unset]) rfl k) ?_
        show own_Go _ _ _ _ s₁ (mkF m 46 #[.val (.ref ru), .val (.ref rk), .val (.int ((Int32.ofNat (own_cnt (own_kf ck) pre)) + (1 : Int32))), .val (.ref ru), .val (.int (Int32.ofNat bs.length)), .val (.int ((Int32.ofNat pre.length) + (1 : Int32))), .val (.int bb), .unset, .unset] [])
        refine own_st (fun t k => XS.goto X0.here hx rfl (pc0 := 46) (pc' := 11) rfl (hb hby d3_46) (by decide) (by decide) k) ?_
        show own_Go _ _ _ _ s₁ (mkF m 11 #[.val (.ref ru), .val (.ref rk), .val (.int ((Int32.ofNat (own_cnt (own_kf ck) pre)) + (1 : Int32))), .val (.ref ru), .val (.int (Int32.ofNat bs.length)), .val (.int ((Int32.ofNat pre.length) + (1 : Int32))), .val (.int bb), .unset, .unset] [])
        have q := ih (pre ++ [bb]) (some bb) (by rw [hpre]; simp)
        rw [show Int32.ofNat (own_cnt (own_kf ck) (pre ++ [bb])) = ((Int32.ofNat (own_cnt (own_kf ck) pre)) + (1 : Int32)) from (by rw [own_cnt_snoc, if_pos c33_33]; exact (own_plus (by have := own_cnt_le (own_kf ck) pre; have := (own_lt3 hpre hbl).2.1; omega) 1 (by decide)).symm), show Int32.ofNat (pre ++ [bb]).length = ((Int32.ofNat pre.length) + (1 : Int32)) from (by rw [List.length_append]; exact (own_plus (by have := (own_lt3 hpre hbl).2.1; omega) 1 (by decide)).symm)] at q
        exact q
      ·
        refine own_st (fun t k => XS.ifNo X0.here hx rfl (hb hby d3_33) rfl ((if0 _ _).trans (feq c33_33).1) k) ?_
        show own_Go _ _ _ _ s₁ (mkF m 36 #[.val (.ref ru), .val (.ref rk), .val (.int (Int32.ofNat (own_cnt (own_kf ck) pre))), .val (.ref ru), .val (.int (Int32.ofNat bs.length)), .val (.int (Int32.ofNat pre.length)), .val (.int bb), .unset, .unset] [(.int (Int32.ofNat (own_cnt (own_kf ck) pre)))])
        refine own_st (fun t k => XS.iconst X0.here hx rfl (hb hby d3_36) k) ?_
        show own_Go _ _ _ _ s₁ (mkF m 37 #[.val (.ref ru), .val (.ref rk), .val (.int (Int32.ofNat (own_cnt (own_kf ck) pre))), .val (.ref ru), .val (.int (Int32.ofNat bs.length)), .val (.int (Int32.ofNat pre.length)), .val (.int bb), .unset, .unset] [(.int (0 : Int32)), (.int (Int32.ofNat (own_cnt (own_kf ck) pre)))])
        refine own_st (fun t k => XS.goto X0.here hx rfl (pc0 := 37) (pc' := 41) rfl (hb hby d3_37) (by decide) (by decide) k) ?_
        show own_Go _ _ _ _ s₁ (mkF m 41 #[.val (.ref ru), .val (.ref rk), .val (.int (Int32.ofNat (own_cnt (own_kf ck) pre))), .val (.ref ru), .val (.int (Int32.ofNat bs.length)), .val (.int (Int32.ofNat pre.length)), .val (.int bb), .unset, .unset] [(.int (0 : Int32)), (.int (Int32.ofNat (own_cnt (own_kf ck) pre)))])
        refine own_st (fun t k => XS.iadd X0.here hx rfl (hb hby d3_41) rfl k) ?_
        show own_Go _ _ _ _ s₁ (mkF m 42 #[.val (.ref ru), .val (.ref rk), .val (.int (Int32.ofNat (own_cnt (own_kf ck) pre))), .val (.ref ru), .val (.int (Int32.ofNat bs.length)), .val (.int (Int32.ofNat pre.length)), .val (.int bb), .unset, .unset] [(.int ((Int32.ofNat (own_cnt (own_kf ck) pre)) + (0 : Int32)))])
        refine own_st (fun t k => XS.istoreN X0.here hx rfl (hb hby d3_42) rfl (l' := #[.val (.ref ru), .val (.ref rk), .val (.int ((Int32.ofNat (own_cnt (own_kf ck) pre)) + (0 : Int32))), .val (.ref ru), .val (.int (Int32.ofNat bs.length)), .val (.int (Int32.ofNat pre.length)), .val (.int bb), .unset, .unset]) rfl k) ?_
        show own_Go _ _ _ _ s₁ (mkF m 43 #[.val (.ref ru), .val (.ref rk), .val (.int ((Int32.ofNat (own_cnt (own_kf ck) pre)) + (0 : Int32))), .val (.ref ru), .val (.int (Int32.ofNat bs.length)), .val (.int (Int32.ofNat pre.length)), .val (.int bb), .unset, .unset] [])
        refine own_st (fun t k => XS.iinc X0.here hx rfl (hb hby d3_43) rfl (l' := #[.val (.ref ru), .val (.ref rk), .val (.int ((Int32.ofNat (own_cnt (own_kf ck) pre)) + (0 : Int32))), .val (.ref ru), .val (.int (Int32.ofNat bs.length)), .val (.int ((Int32.ofNat pre.length) + (1 : Int32))), .val (.int bb), .unset, .unset]) rfl k) ?_
        show own_Go _ _ _ _ s₁ (mkF m 46 #[.val (.ref ru), .val (.ref rk), .val (.int ((Int32.ofNat (own_cnt (own_kf ck) pre)) + (0 : Int32))), .val (.ref ru), .val (.int (Int32.ofNat bs.length)), .val (.int ((Int32.ofNat pre.length) + (1 : Int32))), .val (.int bb), .unset, .unset] [])
        refine own_st (fun t k => XS.goto X0.here hx rfl (pc0 := 46) (pc' := 11) rfl (hb hby d3_46) (by decide) (by decide) k) ?_
        show own_Go _ _ _ _ s₁ (mkF m 11 #[.val (.ref ru), .val (.ref rk), .val (.int ((Int32.ofNat (own_cnt (own_kf ck) pre)) + (0 : Int32))), .val (.ref ru), .val (.int (Int32.ofNat bs.length)), .val (.int ((Int32.ofNat pre.length) + (1 : Int32))), .val (.int bb), .unset, .unset] [])
        have q := ih (pre ++ [bb]) (some bb) (by rw [hpre]; simp)
        rw [show Int32.ofNat (own_cnt (own_kf ck) (pre ++ [bb])) = ((Int32.ofNat (own_cnt (own_kf ck) pre)) + (0 : Int32)) from (by rw [own_cnt_snoc, if_neg c33_33]; exact (own_plus (by have := own_cnt_le (own_kf ck) pre; have := (own_lt3 hpre hbl).2.1; omega) 0 (by decide)).symm), show Int32.ofNat (pre ++ [bb]).length = ((Int32.ofNat pre.length) + (1 : Int32)) from (by rw [List.length_append]; exact (own_plus (by have := (own_lt3 hpre hbl).2.1; omega) 1 (by decide)).symm)] at q
        exact q
  exact LOOP1 bs [] none rfl
theorem pd__28_5bB_5bZ_29_5bB : parseMethodDescriptor "([B[Z)[B" = some ⟨[(.array .byte), (.array .boolean)], some (.array .byte)⟩ := by decide +kernel
theorem pd__28_5bB_5bBII_29Z : parseMethodDescriptor "([B[BII)Z" = some ⟨[(.array .byte), (.array .byte), .int, .int], some .boolean⟩ := by decide +kernel
theorem pd__28_5bBIBZ_29I : parseMethodDescriptor "([BIBZ)I" = some ⟨[(.array .byte), .int, .byte, .boolean], some .int⟩ := by decide +kernel
/-! body 0: IriPatternPercentEncodedPinLaw.law -/
theorem ef_0 (m : MethodId) (x0 : Int32) (x1 : Int32) (x2 : Int32) (x3 : Int32) (x4 : Int32) : entryFrame m #[(.int x0), (.int x1), (.int x2), (.int x3), (.int x4)] maxLocals = mkF m 0 #[.val (.int x0), .val (.int x1), .val (.int x2), .val (.int x3), .val (.int x4), .unset, .unset, .unset, .unset, .unset, .unset, .unset, .unset, .unset, .unset, .unset, .unset, .unset, .unset] [] := by first | (simp [entryFrame, mkF, argsToLocals, Value.category, maxLocals]; done) | rfl
def Q0 (Z : State) (p0 : Int32) (p1 : Int32) (p2 : Int32) (p3 : Int32) (p4 : Int32) (ra : Addr) (ch : Cell) (h0 : Heap) (n0 : Nat) (v : Option Value) (h : Heap) (L : List Loc) : Prop := v = some (.int (1 : Int32)) ∧ Fr n0 L
set_option maxRecDepth 65536 in
set_option maxHeartbeats 40000000 in
theorem rm0 (l : Launch) (Z : State) (a0 : Array Value) (hw : ∀ d ∈ tables_1, d.before a0 Z = true) (ws : List Jvm.Cond) (p0 : Int32) (p1 : Int32) (p2 : Int32) (p3 : Int32) (p4 : Int32) (ra : Addr) (ch : Cell) (h0 : Heap) (n0 : Nat) (Z0 : n0 ≤ h0.size) (S_H : Sta Z h0 "shelfmark/IriPattern" "HEX_DIGITS" "[B" (.ref ra)) (A_H : Arr Z h0 ra ch .byte) (hH : ch.slots.size = 16 ∧ ∀ j : Int32, (0 ≤ j.toInt ∧ j.toInt < 16) → ch.slots[j.toNatClampNeg]? = some (.int (own_H j))) :
    MetFree l x (head1 (Jvm.Cond.code x code maxLocals ret :: ws) room_1) (fun a U => a = #[(.int p0), (.int p1), (.int p2), (.int p3), (.int p4)] ∧ Z.Warmed39 U.vm ∧ U.heap = h0) (fun _ _ _ _ _ => True) (fun _ U o U' => ∃ v L, o = .returned v ∧ Q0 Z p0 p1 p2 p3 p4 ra ch h0 n0 v U'.heap L ∧ FrameEnd U o U' L 4 277) := by
  refine MetFree.of_bodySF (plainFor_of_name pn_shelfmark_IriPatternPercentEncodedPinLaw) hisR ?_
  intro p e s m args below meth c s₁ Bd hml0 hP hK
  obtain ⟨rfl, hZ, hh⟩ := hP
  have hx := Bd.exec
  have hby := Bd.bytes
  have hlk := Bd.notSynchronized
  have hrt := Bd.returns
  have hml : c.maxLocals = 19 := hml0
  have hown : s.vm.findClass "shelfmark/IriPatternPercentEncodedPinLaw" = some m.cls := findClass_of_methodNamed Bd.named
  have hnm := (name_of_methodNamed Bd.named Bd.method).1
  have X0 : Stand p l e room_1 s m #[(.int p0), (.int p1), (.int p2), (.int p3), (.int p4)] below meth c s₁ [] 0 0 := Stand.of_body Bd
  have e0 : s₁.heap = h0 := by rw [← hh, Bd.state]; rfl
  have N0 := Fr.nil n0
  have K0 := Keep.refl h0 []
  refine own_out (Q := Q0 Z p0 p1 p2 p3 p4 ra ch h0 n0) ?_
  refine own_in (ef_0 m p0 p1 p2 p3 p4) ?_
  show own_Go _ _ _ _ s₁ (mkF m 0 #[.val (.int p0), .val (.int p1), .val (.int p2), .val (.int p3), .val (.int p4), .unset, .unset, .unset, .unset, .unset, .unset, .unset, .unset, .unset, .unset, .unset, .unset, .unset, .unset] [])
  refine own_st (fun t k => XS.iloadN X0.here hx rfl (hb hby at_0) rfl k) ?_
  refine own_st (fun t k => XS.iconst X0.here hx rfl (hb hby at_1) k) ?_
  refine own_st (fun t k => XS.iand X0.here hx rfl (hb hby at_2) rfl k) ?_
  show own_Go _ _ _ _ s₁ (mkF m 3 #[.val (.int p0), .val (.int p1), .val (.int p2), .val (.int p3), .val (.int p4), .unset, .unset, .unset, .unset, .unset, .unset, .unset, .unset, .unset, .unset, .unset, .unset, .unset, .unset] [(.int (p3 &&& (3 : Int32)))])
  refine own_st (fun t k => XS.istore X0.here hx rfl (hb hby at_3) rfl (l' := #[.val (.int p0), .val (.int p1), .val (.int p2), .val (.int p3), .val (.int p4), .val (.int (p3 &&& (3 : Int32))), .unset, .unset, .unset, .unset, .unset, .unset, .unset, .unset, .unset, .unset, .unset, .unset, .unset]) rfl k) ?_
  show own_Go _ _ _ _ s₁ (mkF m 5 #[.val (.int p0), .val (.int p1), .val (.int p2), .val (.int p3), .val (.int p4), .val (.int (p3 &&& (3 : Int32))), .unset, .unset, .unset, .unset, .unset, .unset, .unset, .unset, .unset, .unset, .unset, .unset, .unset] [])
  refine own_st (fun t k => XS.iloadN X0.here hx rfl (hb hby at_5) rfl k) ?_
  show own_Go _ _ _ _ s₁ (mkF m 6 #[.val (.int p0), .val (.int p1), .val (.int p2), .val (.int p3), .val (.int p4), .val (.int (p3 &&& (3 : Int32))), .unset, .unset, .unset, .unset, .unset, .unset, .unset, .unset, .unset, .unset, .unset, .unset, .unset] [(.int p0)])
  refine own_st (fun t k => XS.i2b X0.here hx rfl (hb hby at_6) rfl k) ?_
  show own_Go _ _ _ _ s₁ (mkF m 7 #[.val (.int p0), .val (.int p1), .val (.int p2), .val (.int p3), .val (.int p4), .val (.int (p3 &&& (3 : Int32))), .unset, .unset, .unset, .unset, .unset, .unset, .unset, .unset, .unset, .unset, .unset, .unset, .unset] [(.int (p0.toInt8.toInt32))])
  refine own_st (fun t k => XS.istore X0.here hx rfl (hb hby at_7) rfl (l' := #[.val (.int p0), .val (.int p1), .val (.int p2), .val (.int p3), .val (.int p4), .val (.int (p3 &&& (3 : Int32))), .val (.int (p0.toInt8.toInt32)), .unset, .unset, .unset, .unset, .unset, .unset, .unset, .unset, .unset, .unset, .unset, .unset]) rfl k) ?_
  show own_Go _ _ _ _ s₁ (mkF m 9 #[.val (.int p0), .val (.int p1), .val (.int p2), .val (.int p3), .val (.int p4), .val (.int (p3 &&& (3 : Int32))), .val (.int (p0.toInt8.toInt32)), .unset, .unset, .unset, .unset, .unset, .unset, .unset, .unset, .unset, .unset, .unset, .unset] [])
  refine own_st (fun t k => XS.iloadN X0.here hx rfl (hb hby at_9) rfl k) ?_
  show own_Go _ _ _ _ s₁ (mkF m 10 #[.val (.int p0), .val (.int p1), .val (.int p2), .val (.int p3), .val (.int p4), .val (.int (p3 &&& (3 : Int32))), .val (.int (p0.toInt8.toInt32)), .unset, .unset, .unset, .unset, .unset, .unset, .unset, .unset, .unset, .unset, .unset, .unset] [(.int p1)])
  refine own_st (fun t k => XS.i2b X0.here hx rfl (hb hby at_10) rfl k) ?_
  show own_Go _ _ _ _ s₁ (mkF m 11 #[.val (.int p0), .val (.int p1), .val (.int p2), .val (.int p3), .val (.int p4), .val (.int (p3 &&& (3 : Int32))), .val (.int (p0.toInt8.toInt32)), .unset, .unset, .unset, .unset, .unset, .unset, .unset, .unset, .unset, .unset, .unset, .unset] [(.int (p1.toInt8.toInt32))])
  refine own_st (fun t k => XS.istore X0.here hx rfl (hb hby at_11) rfl (l' := #[.val (.int p0), .val (.int p1), .val (.int p2), .val (.int p3), .val (.int p4), .val (.int (p3 &&& (3 : Int32))), .val (.int (p0.toInt8.toInt32)), .val (.int (p1.toInt8.toInt32)), .unset, .unset, .unset, .unset, .unset, .unset, .unset, .unset, .unset, .unset, .unset]) rfl k) ?_
  show own_Go _ _ _ _ s₁ (mkF m 13 #[.val (.int p0), .val (.int p1), .val (.int p2), .val (.int p3), .val (.int p4), .val (.int (p3 &&& (3 : Int32))), .val (.int (p0.toInt8.toInt32)), .val (.int (p1.toInt8.toInt32)), .unset, .unset, .unset, .unset, .unset, .unset, .unset, .unset, .unset, .unset, .unset] [])
  refine own_st (fun t k => XS.iloadN X0.here hx rfl (hb hby at_13) rfl k) ?_
  show own_Go _ _ _ _ s₁ (mkF m 14 #[.val (.int p0), .val (.int p1), .val (.int p2), .val (.int p3), .val (.int p4), .val (.int (p3 &&& (3 : Int32))), .val (.int (p0.toInt8.toInt32)), .val (.int (p1.toInt8.toInt32)), .unset, .unset, .unset, .unset, .unset, .unset, .unset, .unset, .unset, .unset, .unset] [(.int p2)])
  refine own_st (fun t k => XS.i2b X0.here hx rfl (hb hby at_14) rfl k) ?_
  show own_Go _ _ _ _ s₁ (mkF m 15 #[.val (.int p0), .val (.int p1), .val (.int p2), .val (.int p3), .val (.int p4), .val (.int (p3 &&& (3 : Int32))), .val (.int (p0.toInt8.toInt32)), .val (.int (p1.toInt8.toInt32)), .unset, .unset, .unset, .unset, .unset, .unset, .unset, .unset, .unset, .unset, .unset] [(.int (p2.toInt8.toInt32))])
  refine own_st (fun t k => XS.istore X0.here hx rfl (hb hby at_15) rfl (l' := #[.val (.int p0), .val (.int p1), .val (.int p2), .val (.int p3), .val (.int p4), .val (.int (p3 &&& (3 : Int32))), .val (.int (p0.toInt8.toInt32)), .val (.int (p1.toInt8.toInt32)), .val (.int (p2.toInt8.toInt32)), .unset, .unset, .unset, .unset, .unset, .unset, .unset, .unset, .unset, .unset]) rfl k) ?_
  show own_Go _ _ _ _ s₁ (mkF m 17 #[.val (.int p0), .val (.int p1), .val (.int p2), .val (.int p3), .val (.int p4), .val (.int (p3 &&& (3 : Int32))), .val (.int (p0.toInt8.toInt32)), .val (.int (p1.toInt8.toInt32)), .val (.int (p2.toInt8.toInt32)), .unset, .unset, .unset, .unset, .unset, .unset, .unset, .unset, .unset, .unset] [])
  obtain ⟨c0, hc0⟩ : ∃ z, z = (p0.toInt8.toInt32) := ⟨_, rfl⟩
  have hb0 : nar .byte c0 = c0 := by rw [hc0]; exact own_nb _
  rw [← hc0]
  obtain ⟨c1, hc1⟩ : ∃ z, z = (p1.toInt8.toInt32) := ⟨_, rfl⟩
  have hb1 : nar .byte c1 = c1 := by rw [hc1]; exact own_nb _
  rw [← hc1]
  obtain ⟨c2, hc2⟩ : ∃ z, z = (p2.toInt8.toInt32) := ⟨_, rfl⟩
  have hb2 : nar .byte c2 = c2 := by rw [hc2]; exact own_nb _
  rw [← hc2]
  rcases own_n4 p3 with hn | hn | hn | hn
  ·
    rw [hn]
    show own_Go _ _ _ _ s₁ (mkF m 17 #[.val (.int p0), .val (.int p1), .val (.int p2), .val (.int p3), .val (.int p4), .val (.int (0 : Int32)), .val (.int c0), .val (.int c1), .val (.int c2), .unset, .unset, .unset, .unset, .unset, .unset, .unset, .unset, .unset, .unset] [])
    refine own_st (fun t k => XS.iload X0.here hx rfl (hb hby at_17) rfl k) ?_
    show own_Go _ _ _ _ s₁ (mkF m 19 #[.val (.int p0), .val (.int p1), .val (.int p2), .val (.int p3), .val (.int p4), .val (.int (0 : Int32)), .val (.int c0), .val (.int c1), .val (.int c2), .unset, .unset, .unset, .unset, .unset, .unset, .unset, .unset, .unset, .unset] [(.int (0 : Int32))])
    obtain ⟨T1, h1, k1, X1, e1, E1, A1, st1⟩ := newP X0 hx hZ (hw _ (List.mem_of_getElem? (i := 0) rfl)) e0 (g := (mkF m 19 #[.val (.int p0), .val (.int p1), .val (.int p2), .val (.int p3), .val (.int p4), .val (.int (0 : Int32)), .val (.int c0), .val (.int c1), .val (.int c2), .unset, .unset, .unset, .unset, .unset, .unset, .unset, .unset, .unset, .unset] [(.int (0 : Int32))])) rfl (hb hby at_19) rfl (by decide) (cap := 0) (by decide) (by decide) (by decide) (by decide)
    obtain ⟨b1, g1⟩ : ∃ z, z = h0.size := ⟨_, rfl⟩
    rw [← g1] at A1 st1
    have sz_b1 : h0.size ≤ b1 := Nat.le_trans K0.1 (Nat.le_of_eq g1.symm)
    have g_b1 : n0 ≤ b1 := Nat.le_trans Z0 sz_b1
    have ne_ra_b1 : ra ≠ b1 := Nat.ne_of_lt (Nat.lt_of_lt_of_le A_H.lt (Nat.le_of_eq g1.symm))
    have V1 : Arv Z h1 b1 k1 .byte (0 : Int32) [] (.int (0 : Int32)) := (Arv.new A1 (by decide)).pad (pad_rep [] (.int (0 : Int32)) 0)
    refine own_st st1 ?_
    show own_Go _ _ _ _ T1 (mkF m 21 #[.val (.int p0), .val (.int p1), .val (.int p2), .val (.int p3), .val (.int p4), .val (.int (0 : Int32)), .val (.int c0), .val (.int c1), .val (.int c2), .unset, .unset, .unset, .unset, .unset, .unset, .unset, .unset, .unset, .unset] [(.ref b1)])
    refine own_st (fun t k => XS.astore X1.here hx rfl (hb hby at_21) rfl rfl (l' := #[.val (.int p0), .val (.int p1), .val (.int p2), .val (.int p3), .val (.int p4), .val (.int (0 : Int32)), .val (.int c0), .val (.int c1), .val (.int c2), .val (.ref b1), .unset, .unset, .unset, .unset, .unset, .unset, .unset, .unset, .unset]) rfl k) ?_
    show own_Go _ _ _ _ T1 (mkF m 23 #[.val (.int p0), .val (.int p1), .val (.int p2), .val (.int p3), .val (.int p4), .val (.int (0 : Int32)), .val (.int c0), .val (.int c1), .val (.int c2), .val (.ref b1), .unset, .unset, .unset, .unset, .unset, .unset, .unset, .unset, .unset] [])
    refine own_st (fun t k => XS.iload X1.here hx rfl (hb hby at_23) rfl k) ?_
    refine own_st (fun t k => XS.ifYes X1.here hx rfl (pc0 := 25) (pc' := 34) rfl (hb hby at_25) rfl ((if0 _ _).trans (flt (by decide : ¬ ((0 : Int32) < (0 : Int32)))).2.2.2) (by decide) (by decide) k) ?_
    show own_Go _ _ _ _ T1 (mkF m 34 #[.val (.int p0), .val (.int p1), .val (.int p2), .val (.int p3), .val (.int p4), .val (.int (0 : Int32)), .val (.int c0), .val (.int c1), .val (.int c2), .val (.ref b1), .unset, .unset, .unset, .unset, .unset, .unset, .unset, .unset, .unset] [])
    refine own_st (fun t k => XS.iload X1.here hx rfl (hb hby at_34) rfl k) ?_
    refine own_st (fun t k => XS.iconst X1.here hx rfl (hb hby at_36) k) ?_
    refine own_st (fun t k => XS.icmpYes X1.here hx rfl (pc0 := 37) (pc' := 46) rfl (hb hby at_37) rfl (flt (by decide : ¬ ((1 : Int32) < (0 : Int32)))).2.2.2 (by decide) (by decide) k) ?_
    show own_Go _ _ _ _ T1 (mkF m 46 #[.val (.int p0), .val (.int p1), .val (.int p2), .val (.int p3), .val (.int p4), .val (.int (0 : Int32)), .val (.int c0), .val (.int c1), .val (.int c2), .val (.ref b1), .unset, .unset, .unset, .unset, .unset, .unset, .unset, .unset, .unset] [])
    refine own_st (fun t k => XS.iload X1.here hx rfl (hb hby at_46) rfl k) ?_
    refine own_st (fun t k => XS.iconst X1.here hx rfl (hb hby at_48) k) ?_
    refine own_st (fun t k => XS.icmpYes X1.here hx rfl (pc0 := 49) (pc' := 58) rfl (hb hby at_49) rfl (flt (by decide : ¬ ((2 : Int32) < (0 : Int32)))).2.2.2 (by decide) (by decide) k) ?_
    show own_Go _ _ _ _ T1 (mkF m 58 #[.val (.int p0), .val (.int p1), .val (.int p2), .val (.int p3), .val (.int p4), .val (.int (0 : Int32)), .val (.int c0), .val (.int c1), .val (.int c2), .val (.ref b1), .unset, .unset, .unset, .unset, .unset, .unset, .unset, .unset, .unset] [])
    refine own_st (fun t k => XS.sipush X1.here hx rfl (hb hby at_58) k) ?_
    show own_Go _ _ _ _ T1 (mkF m 61 #[.val (.int p0), .val (.int p1), .val (.int p2), .val (.int p3), .val (.int p4), .val (.int (0 : Int32)), .val (.int c0), .val (.int c1), .val (.int c2), .val (.ref b1), .unset, .unset, .unset, .unset, .unset, .unset, .unset, .unset, .unset] [(.int (256 : Int32))])
    have K0_2 := (K0.ext E1)
    obtain ⟨T3, h3, k3, X3, e3, E3, A3, st3⟩ := newP X1 hx hZ (hw _ (List.mem_of_getElem? (i := 1) rfl)) e1 (g := (mkF m 61 #[.val (.int p0), .val (.int p1), .val (.int p2), .val (.int p3), .val (.int p4), .val (.int (0 : Int32)), .val (.int c0), .val (.int c1), .val (.int c2), .val (.ref b1), .unset, .unset, .unset, .unset, .unset, .unset, .unset, .unset, .unset] [(.int (256 : Int32))])) rfl (hb hby at_61) rfl (by decide) (cap := 256) (by decide) (by decide) (by decide) (by decide)
    obtain ⟨b3, g3⟩ : ∃ z, z = h1.size := ⟨_, rfl⟩
    rw [← g3] at A3 st3
    have sz_b3 : h0.size ≤ b3 := Nat.le_trans K0_2.1 (Nat.le_of_eq g3.symm)
    have g_b3 : n0 ≤ b3 := Nat.le_trans Z0 sz_b3
    have Arh_4 := (A_H.ext E1)
    have ne_ra_b3 : ra ≠ b3 := Nat.ne_of_lt (Nat.lt_of_lt_of_le Arh_4.lt (Nat.le_of_eq g3.symm))
    have ne_b1_b3 : b1 ≠ b3 := Nat.ne_of_lt (Nat.lt_of_lt_of_le V1.lt (Nat.le_of_eq g3.symm))
    have B3 := own_B_new A3
    refine own_st st3 ?_
    show own_Go _ _ _ _ T3 (mkF m 63 #[.val (.int p0), .val (.int p1), .val (.int p2), .val (.int p3), .val (.int p4), .val (.int (0 : Int32)), .val (.int c0), .val (.int c1), .val (.int c2), .val (.ref b1), .unset, .unset, .unset, .unset, .unset, .unset, .unset, .unset, .unset] [(.ref b3)])
    refine own_st (fun t k => XS.astore X3.here hx rfl (hb hby at_63) rfl rfl (l' := #[.val (.int p0), .val (.int p1), .val (.int p2), .val (.int p3), .val (.int p4), .val (.int (0 : Int32)), .val (.int c0), .val (.int c1), .val (.int c2), .val (.ref b1), .val (.ref b3), .unset, .unset, .unset, .unset, .unset, .unset, .unset, .unset]) rfl k) ?_
    show own_Go _ _ _ _ T3 (mkF m 65 #[.val (.int p0), .val (.int p1), .val (.int p2), .val (.int p3), .val (.int p4), .val (.int (0 : Int32)), .val (.int c0), .val (.int c1), .val (.int c2), .val (.ref b1), .val (.ref b3), .unset, .unset, .unset, .unset, .unset, .unset, .unset, .unset] [])
    refine own_st (fun t k => XS.aload X3.here hx rfl (hb hby at_65) rfl rfl k) ?_
    refine own_st (fun t k => XS.iload X3.here hx rfl (hb hby at_67) rfl k) ?_
    refine own_st (fun t k => XS.iconst X3.here hx rfl (hb hby at_69) k) ?_
    refine own_st (fun t k => XS.iadd X3.here hx rfl (hb hby at_70) rfl k) ?_
    show own_Go _ _ _ _ T3 (mkF m 71 #[.val (.int p0), .val (.int p1), .val (.int p2), .val (.int p3), .val (.int p4), .val (.int (0 : Int32)), .val (.int c0), .val (.int c1), .val (.int c2), .val (.ref b1), .val (.ref b3), .unset, .unset, .unset, .unset, .unset, .unset, .unset, .unset] [(.int (c0 + (1 : Int32))), (.ref b3)])
    refine own_st (fun t k => XS.sipush X3.here hx rfl (hb hby at_71) k) ?_
    refine own_st (fun t k => XS.iand X3.here hx rfl (hb hby at_74) rfl k) ?_
    show own_Go _ _ _ _ T3 (mkF m 75 #[.val (.int p0), .val (.int p1), .val (.int p2), .val (.int p3), .val (.int p4), .val (.int (0 : Int32)), .val (.int c0), .val (.int c1), .val (.int c2), .val (.ref b1), .val (.ref b3), .unset, .unset, .unset, .unset, .unset, .unset, .unset, .unset] [(.int ((c0 + (1 : Int32)) &&& (255 : Int32))), (.ref b3)])
    refine own_st (fun t k => XS.iload X3.here hx rfl (hb hby at_75) rfl k) ?_
    refine own_st (fun t k => XS.bipush X3.here hx rfl (hb hby at_77) k) ?_
    refine own_st (fun t k => XS.iand X3.here hx rfl (hb hby at_79) rfl k) ?_
    show own_Go _ _ _ _ T3 (mkF m 80 #[.val (.int p0), .val (.int p1), .val (.int p2), .val (.int p3), .val (.int p4), .val (.int (0 : Int32)), .val (.int c0), .val (.int c1), .val (.int c2), .val (.ref b1), .val (.ref b3), .unset, .unset, .unset, .unset, .unset, .unset, .unset, .unset] [(.int (p4 &&& (8 : Int32))), (.int ((c0 + (1 : Int32)) &&& (255 : Int32))), (.ref b3)])
    suffices hj5 : own_Go p.tables e below (own_Fin below s (Q0 Z p0 p1 p2 p3 p4 ra ch h0 n0) 4 277) T3 (mkF m 88 #[.val (.int p0), .val (.int p1), .val (.int p2), .val (.int p3), .val (.int p4), .val (.int (0 : Int32)), .val (.int c0), .val (.int c1), .val (.int c2), .val (.ref b1), .val (.ref b3), .unset, .unset, .unset, .unset, .unset, .unset, .unset, .unset] [(.int (if (p4 &&& (8 : Int32)) = (0 : Int32) then (0 : Int32) else (1 : Int32))), (.int ((c0 + (1 : Int32)) &&& (255 : Int32))), (.ref b3)]) by
      by_cases c80_5 : (p4 &&& (8 : Int32)) = (0 : Int32)
      · rw [if_pos c80_5] at hj5
        refine own_st (fun t k => XS.ifYes X3.here hx rfl (pc0 := 80) (pc' := 87) rfl (hb hby at_80) rfl ((if0 _ _).trans (teq c80_5).1) (by decide) (by decide) k) ?_
        show own_Go _ _ _ _ T3 (mkF m 87 #[.val (.int p0), .val (.int p1), .val (.int p2), .val (.int p3), .val (.int p4), .val (.int (0 : Int32)), .val (.int c0), .val (.int c1), .val (.int c2), .val (.ref b1), .val (.ref b3), .unset, .unset, .unset, .unset, .unset, .unset, .unset, .unset] [(.int ((c0 + (1 : Int32)) &&& (255 : Int32))), (.ref b3)])
        refine own_st (fun t k => XS.iconst X3.here hx rfl (hb hby at_87) k) ?_
        show own_Go _ _ _ _ T3 (mkF m 88 #[.val (.int p0), .val (.int p1), .val (.int p2), .val (.int p3), .val (.int p4), .val (.int (0 : Int32)), .val (.int c0), .val (.int c1), .val (.int c2), .val (.ref b1), .val (.ref b3), .unset, .unset, .unset, .unset, .unset, .unset, .unset, .unset] [(.int (0 : Int32)), (.int ((c0 + (1 : Int32)) &&& (255 : Int32))), (.ref b3)])
        exact hj5
      · rw [if_neg c80_5] at hj5
        refine own_st (fun t k => XS.ifNo X3.here hx rfl (hb hby at_80) rfl ((if0 _ _).trans (feq c80_5).1) k) ?_
        show own_Go _ _ _ _ T3 (mkF m 83 #[.val (.int p0), .val (.int p1), .val (.int p2), .val (.int p3), .val (.int p4), .val (.int (0 : Int32)), .val (.int c0), .val (.int c1), .val (.int c2), .val (.ref b1), .val (.ref b3), .unset, .unset, .unset, .unset, .unset, .unset, .unset, .unset] [(.int ((c0 + (1 : Int32)) &&& (255 : Int32))), (.ref b3)])
        refine own_st (fun t k => XS.iconst X3.here hx rfl (hb hby at_83) k) ?_
        show own_Go _ _ _ _ T3 (mkF m 84 #[.val (.int p0), .val (.int p1), .val (.int p2), .val (.int p3), .val (.int p4), .val (.int (0 : Int32)), .val (.int c0), .val (.int c1), .val (.int c2), .val (.ref b1), .val (.ref b3), .unset, .unset, .unset, .unset, .unset, .unset, .unset, .unset] [(.int (1 : Int32)), (.int ((c0 + (1 : Int32)) &&& (255 : Int32))), (.ref b3)])
        refine own_st (fun t k => XS.goto X3.here hx rfl (pc0 := 84) (pc' := 88) rfl (hb hby at_84) (by decide) (by decide) k) ?_
        show own_Go _ _ _ _ T3 (mkF m 88 #[.val (.int p0), .val (.int p1), .val (.int p2), .val (.int p3), .val (.int p4), .val (.int (0 : Int32)), .val (.int c0), .val (.int c1), .val (.int c2), .val (.ref b1), .val (.ref b3), .unset, .unset, .unset, .unset, .unset, .unset, .unset, .unset] [(.int (1 : Int32)), (.int ((c0 + (1 : Int32)) &&& (255 : Int32))), (.ref b3)])
        exact hj5
    show own_Go _ _ _ _ T3 (mkF m 88 #[.val (.int p0), .val (.int p1), .val (.int p2), .val (.int p3), .val (.int p4), .val (.int (0 : Int32)), .val (.int c0), .val (.int c1), .val (.int c2), .val (.ref b1), .val (.ref b3), .unset, .unset, .unset, .unset, .unset, .unset, .unset, .unset] [(.int (if (p4 &&& (8 : Int32)) = (0 : Int32) then (0 : Int32) else (1 : Int32))), (.int ((c0 + (1 : Int32)) &&& (255 : Int32))), (.ref b3)])
    have K0_6 := (K0_2.ext E3)
    obtain ⟨cl7, Ar7, Sz7, al7⟩ := B3
    have hin7 : ¬ (((c0 + (1 : Int32)) &&& (255 : Int32)) < 0 ∨ cl7.slots.size ≤ (((c0 + (1 : Int32)) &&& (255 : Int32))).toNatClampNeg) := inb_of Sz7 (own_b255 _)
    obtain ⟨T8, h8, X8, e8, W8, st8⟩ := stZ X3 hx hZ e3 Ar7 (j := ((c0 + (1 : Int32)) &&& (255 : Int32))) hin7 (g := (mkF m 88 #[.val (.int p0), .val (.int p1), .val (.int p2), .val (.int p3), .val (.int p4), .val (.int (0 : Int32)), .val (.int c0), .val (.int c1), .val (.int c2), .val (.ref b1), .val (.ref b3), .unset, .unset, .unset, .unset, .unset, .unset, .unset, .unset] [(.int (if (p4 &&& (8 : Int32)) = (0 : Int32) then (0 : Int32) else (1 : Int32))), (.int ((c0 + (1 : Int32)) &&& (255 : Int32))), (.ref b3)])) rfl rfl (hb hby at_88)
    have B8 := own_B_set Ar7 Sz7 al7 W8
    obtain ⟨_, X8, N8⟩ := own_hide X8 (Fr.snoc X8 N0 g_b3)
    refine own_st st8 ?_
    show own_Go _ _ _ _ T8 (mkF m 89 #[.val (.int p0), .val (.int p1), .val (.int p2), .val (.int p3), .val (.int p4), .val (.int (0 : Int32)), .val (.int c0), .val (.int c1), .val (.int c2), .val (.ref b1), .val (.ref b3), .unset, .unset, .unset, .unset, .unset, .unset, .unset, .unset] [])
    refine own_st (fun t k => XS.aload X8.here hx rfl (hb hby at_89) rfl rfl k) ?_
    refine own_st (fun t k => XS.iload X8.here hx rfl (hb hby at_91) rfl k) ?_
    refine own_st (fun t k => XS.sipush X8.here hx rfl (hb hby at_93) k) ?_
    refine own_st (fun t k => XS.iand X8.here hx rfl (hb hby at_96) rfl k) ?_
    show own_Go _ _ _ _ T8 (mkF m 97 #[.val (.int p0), .val (.int p1), .val (.int p2), .val (.int p3), .val (.int p4), .val (.int (0 : Int32)), .val (.int c0), .val (.int c1), .val (.int c2), .val (.ref b1), .val (.ref b3), .unset, .unset, .unset, .unset, .unset, .unset, .unset, .unset] [(.int (c0 &&& (255 : Int32))), (.ref b3)])
    refine own_st (fun t k => XS.iload X8.here hx rfl (hb hby at_97) rfl k) ?_
    refine own_st (fun t k => XS.iconst X8.here hx rfl (hb hby at_99) k) ?_
    refine own_st (fun t k => XS.iand X8.here hx rfl (hb hby at_100) rfl k) ?_
    show own_Go _ _ _ _ T8 (mkF m 101 #[.val (.int p0), .val (.int p1), .val (.int p2), .val (.int p3), .val (.int p4), .val (.int (0 : Int32)), .val (.int c0), .val (.int c1), .val (.int c2), .val (.ref b1), .val (.ref b3), .unset, .unset, .unset, .unset, .unset, .unset, .unset, .unset] [(.int (p4 &&& (1 : Int32))), (.int (c0 &&& (255 : Int32))), (.ref b3)])
    suffices hj9 : own_Go p.tables e below (own_Fin below s (Q0 Z p0 p1 p2 p3 p4 ra ch h0 n0) 4 277) T8 (mkF m 109 #[.val (.int p0), .val (.int p1), .val (.int p2), .val (.int p3), .val (.int p4), .val (.int (0 : Int32)), .val (.int c0), .val (.int c1), .val (.int c2), .val (.ref b1), .val (.ref b3), .unset, .unset, .unset, .unset, .unset, .unset, .unset, .unset] [(.int (if (p4 &&& (1 : Int32)) = (0 : Int32) then (0 : Int32) else (1 : Int32))), (.int (c0 &&& (255 : Int32))), (.ref b3)]) by
      by_cases c101_9 : (p4 &&& (1 : Int32)) = (0 : Int32)
      · rw [if_pos c101_9] at hj9
        refine own_st (fun t k => XS.ifYes X8.here hx rfl (pc0 := 101) (pc' := 108) rfl (hb hby at_101) rfl ((if0 _ _).trans (teq c101_9).1) (by decide) (by decide) k) ?_
        show own_Go _ _ _ _ T8 (mkF m 108 #[.val (.int p0), .val (.int p1), .val (.int p2), .val (.int p3), .val (.int p4), .val (.int (0 : Int32)), .val (.int c0), .val (.int c1), .val (.int c2), .val (.ref b1), .val (.ref b3), .unset, .unset, .unset, .unset, .unset, .unset, .unset, .unset] [(.int (c0 &&& (255 : Int32))), (.ref b3)])
        refine own_st (fun t k => XS.iconst X8.here hx rfl (hb hby at_108) k) ?_
        show own_Go _ _ _ _ T8 (mkF m 109 #[.val (.int p0), .val (.int p1), .val (.int p2), .val (.int p3), .val (.int p4), .val (.int (0 : Int32)), .val (.int c0), .val (.int c1), .val (.int c2), .val (.ref b1), .val (.ref b3), .unset, .unset, .unset, .unset, .unset, .unset, .unset, .unset] [(.int (0 : Int32)), (.int (c0 &&& (255 : Int32))), (.ref b3)])
        exact hj9
      · rw [if_neg c101_9] at hj9
        refine own_st (fun t k => XS.ifNo X8.here hx rfl (hb hby at_101) rfl ((if0 _ _).trans (feq c101_9).1) k) ?_
        show own_Go _ _ _ _ T8 (mkF m 104 #[.val (.int p0), .val (.int p1), .val (.int p2), .val (.int p3), .val (.int p4), .val (.int (0 : Int32)), .val (.int c0), .val (.int c1), .val (.int c2), .val (.ref b1), .val (.ref b3), .unset, .unset, .unset, .unset, .unset, .unset, .unset, .unset] [(.int (c0 &&& (255 : Int32))), (.ref b3)])
        refine own_st (fun t k => XS.iconst X8.here hx rfl (hb hby at_104) k) ?_
        show own_Go _ _ _ _ T8 (mkF m 105 #[.val (.int p0), .val (.int p1), .val (.int p2), .val (.int p3), .val (.int p4), .val (.int (0 : Int32)), .val (.int c0), .val (.int c1), .val (.int c2), .val (.ref b1), .val (.ref b3), .unset, .unset, .unset, .unset, .unset, .unset, .unset, .unset] [(.int (1 : Int32)), (.int (c0 &&& (255 : Int32))), (.ref b3)])
        refine own_st (fun t k => XS.goto X8.here hx rfl (pc0 := 105) (pc' := 109) rfl (hb hby at_105) (by decide) (by decide) k) ?_
        show own_Go _ _ _ _ T8 (mkF m 109 #[.val (.int p0), .val (.int p1), .val (.int p2), .val (.int p3), .val (.int p4), .val (.int (0 : Int32)), .val (.int c0), .val (.int c1), .val (.int c2), .val (.ref b1), .val (.ref b3), .unset, .unset, .unset, .unset, .unset, .unset, .unset, .unset] [(.int (1 : Int32)), (.int (c0 &&& (255 : Int32))), (.ref b3)])
        exact hj9
    show own_Go _ _ _ _ T8 (mkF m 109 #[.val (.int p0), .val (.int p1), .val (.int p2), .val (.int p3), .val (.int p4), .val (.int (0 : Int32)), .val (.int c0), .val (.int c1), .val (.int c2), .val (.ref b1), .val (.ref b3), .unset, .unset, .unset, .unset, .unset, .unset, .unset, .unset] [(.int (if (p4 &&& (1 : Int32)) = (0 : Int32) then (0 : Int32) else (1 : Int32))), (.int (c0 &&& (255 : Int32))), (.ref b3)])
    have K0_10 := (K0_6.wr W8 (Or.inr sz_b3))
    obtain ⟨cl11, Ar11, Sz11, al11⟩ := B8
    have hin11 : ¬ ((c0 &&& (255 : Int32)) < 0 ∨ cl11.slots.size ≤ ((c0 &&& (255 : Int32))).toNatClampNeg) := inb_of Sz11 (own_b255 _)
    obtain ⟨T12, h12, X12, e12, W12, st12⟩ := stZ X8 hx hZ e8 Ar11 (j := (c0 &&& (255 : Int32))) hin11 (g := (mkF m 109 #[.val (.int p0), .val (.int p1), .val (.int p2), .val (.int p3), .val (.int p4), .val (.int (0 : Int32)), .val (.int c0), .val (.int c1), .val (.int c2), .val (.ref b1), .val (.ref b3), .unset, .unset, .unset, .unset, .unset, .unset, .unset, .unset] [(.int (if (p4 &&& (1 : Int32)) = (0 : Int32) then (0 : Int32) else (1 : Int32))), (.int (c0 &&& (255 : Int32))), (.ref b3)])) rfl rfl (hb hby at_109)
    have B12 := own_B_set Ar11 Sz11 al11 W12
    obtain ⟨_, X12, N12⟩ := own_hide X12 (Fr.snoc X12 N8 g_b3)
    refine own_st st12 ?_
    show own_Go _ _ _ _ T12 (mkF m 110 #[.val (.int p0), .val (.int p1), .val (.int p2), .val (.int p3), .val (.int p4), .val (.int (0 : Int32)), .val (.int c0), .val (.int c1), .val (.int c2), .val (.ref b1), .val (.ref b3), .unset, .unset, .unset, .unset, .unset, .unset, .unset, .unset] [])
    refine own_st (fun t k => XS.aload X12.here hx rfl (hb hby at_110) rfl rfl k) ?_
    refine own_st (fun t k => XS.iload X12.here hx rfl (hb hby at_112) rfl k) ?_
    refine own_st (fun t k => XS.sipush X12.here hx rfl (hb hby at_114) k) ?_
    refine own_st (fun t k => XS.iand X12.here hx rfl (hb hby at_117) rfl k) ?_
    show own_Go _ _ _ _ T12 (mkF m 118 #[.val (.int p0), .val (.int p1), .val (.int p2), .val (.int p3), .val (.int p4), .val (.int (0 : Int32)), .val (.int c0), .val (.int c1), .val (.int c2), .val (.ref b1), .val (.ref b3), .unset, .unset, .unset, .unset, .unset, .unset, .unset, .unset] [(.int (c1 &&& (255 : Int32))), (.ref b3)])
    refine own_st (fun t k => XS.iload X12.here hx rfl (hb hby at_118) rfl k) ?_
    refine own_st (fun t k => XS.iconst X12.here hx rfl (hb hby at_120) k) ?_
    refine own_st (fun t k => XS.iand X12.here hx rfl (hb hby at_121) rfl k) ?_
    show own_Go _ _ _ _ T12 (mkF m 122 #[.val (.int p0), .val (.int p1), .val (.int p2), .val (.int p3), .val (.int p4), .val (.int (0 : Int32)), .val (.int c0), .val (.int c1), .val (.int c2), .val (.ref b1), .val (.ref b3), .unset, .unset, .unset, .unset, .unset, .unset, .unset, .unset] [(.int (p4 &&& (2 : Int32))), (.int (c1 &&& (255 : Int32))), (.ref b3)])
    suffices hj13 : own_Go p.tables e below (own_Fin below s (Q0 Z p0 p1 p2 p3 p4 ra ch h0 n0) 4 277) T12 (mkF m 130 #[.val (.int p0), .val (.int p1), .val (.int p2), .val (.int p3), .val (.int p4), .val (.int (0 : Int32)), .val (.int c0), .val (.int c1), .val (.int c2), .val (.ref b1), .val (.ref b3), .unset, .unset, .unset, .unset, .unset, .unset, .unset, .unset] [(.int (if (p4 &&& (2 : Int32)) = (0 : Int32) then (0 : Int32) else (1 : Int32))), (.int (c1 &&& (255 : Int32))), (.ref b3)]) by
      by_cases c122_13 : (p4 &&& (2 : Int32)) = (0 : Int32)
      · rw [if_pos c122_13] at hj13
        refine own_st (fun t k => XS.ifYes X12.here hx rfl (pc0 := 122) (pc' := 129) rfl (hb hby at_122) rfl ((if0 _ _).trans (teq c122_13).1) (by decide) (by decide) k) ?_
        show own_Go _ _ _ _ T12 (mkF m 129 #[.val (.int p0), .val (.int p1), .val (.int p2), .val (.int p3), .val (.int p4), .val (.int (0 : Int32)), .val (.int c0), .val (.int c1), .val (.int c2), .val (.ref b1), .val (.ref b3), .unset, .unset, .unset, .unset, .unset, .unset, .unset, .unset] [(.int (c1 &&& (255 : Int32))), (.ref b3)])
        refine own_st (fun t k => XS.iconst X12.here hx rfl (hb hby at_129) k) ?_
        show own_Go _ _ _ _ T12 (mkF m 130 #[.val (.int p0), .val (.int p1), .val (.int p2), .val (.int p3), .val (.int p4), .val (.int (0 : Int32)), .val (.int c0), .val (.int c1), .val (.int c2), .val (.ref b1), .val (.ref b3), .unset, .unset, .unset, .unset, .unset, .unset, .unset, .unset] [(.int (0 : Int32)), (.int (c1 &&& (255 : Int32))), (.ref b3)])
        exact hj13
      · rw [if_neg c122_13] at hj13
        refine own_st (fun t k => XS.ifNo X12.here hx rfl (hb hby at_122) rfl ((if0 _ _).trans (feq c122_13).1) k) ?_
        show own_Go _ _ _ _ T12 (mkF m 125 #[.val (.int p0), .val (.int p1), .val (.int p2), .val (.int p3), .val (.int p4), .val (.int (0 : Int32)), .val (.int c0), .val (.int c1), .val (.int c2), .val (.ref b1), .val (.ref b3), .unset, .unset, .unset, .unset, .unset, .unset, .unset, .unset] [(.int (c1 &&& (255 : Int32))), (.ref b3)])
        refine own_st (fun t k => XS.iconst X12.here hx rfl (hb hby at_125) k) ?_
        show own_Go _ _ _ _ T12 (mkF m 126 #[.val (.int p0), .val (.int p1), .val (.int p2), .val (.int p3), .val (.int p4), .val (.int (0 : Int32)), .val (.int c0), .val (.int c1), .val (.int c2), .val (.ref b1), .val (.ref b3), .unset, .unset, .unset, .unset, .unset, .unset, .unset, .unset] [(.int (1 : Int32)), (.int (c1 &&& (255 : Int32))), (.ref b3)])
        refine own_st (fun t k => XS.goto X12.here hx rfl (pc0 := 126) (pc' := 130) rfl (hb hby at_126) (by decide) (by decide) k) ?_
        show own_Go _ _ _ _ T12 (mkF m 130 #[.val (.int p0), .val (.int p1), .val (.int p2), .val (.int p3), .val (.int p4), .val (.int (0 : Int32)), .val (.int c0), .val (.int c1), .val (.int c2), .val (.ref b1), .val (.ref b3), .unset, .unset, .unset, .unset, .unset, .unset, .unset, .unset] [(.int (1 : Int32)), (.int (c1 &&& (255 : Int32))), (.ref b3)])
        exact hj13
    show own_Go _ _ _ _ T12 (mkF m 130 #[.val (.int p0), .val (.int p1), .val (.int p2), .val (.int p3), .val (.int p4), .val (.int (0 : Int32)), .val (.int c0), .val (.int c1), .val (.int c2), .val (.ref b1), .val (.ref b3), .unset, .unset, .unset, .unset, .unset, .unset, .unset, .unset] [(.int (if (p4 &&& (2 : Int32)) = (0 : Int32) then (0 : Int32) else (1 : Int32))), (.int (c1 &&& (255 : Int32))), (.ref b3)])
    have K0_14 := (K0_10.wr W12 (Or.inr sz_b3))
    obtain ⟨cl15, Ar15, Sz15, al15⟩ := B12
    have hin15 : ¬ ((c1 &&& (255 : Int32)) < 0 ∨ cl15.slots.size ≤ ((c1 &&& (255 : Int32))).toNatClampNeg) := inb_of Sz15 (own_b255 _)
    obtain ⟨T16, h16, X16, e16, W16, st16⟩ := stZ X12 hx hZ e12 Ar15 (j := (c1 &&& (255 : Int32))) hin15 (g := (mkF m 130 #[.val (.int p0), .val (.int p1), .val (.int p2), .val (.int p3), .val (.int p4), .val (.int (0 : Int32)), .val (.int c0), .val (.int c1), .val (.int c2), .val (.ref b1), .val (.ref b3), .unset, .unset, .unset, .unset, .unset, .unset, .unset, .unset] [(.int (if (p4 &&& (2 : Int32)) = (0 : Int32) then (0 : Int32) else (1 : Int32))), (.int (c1 &&& (255 : Int32))), (.ref b3)])) rfl rfl (hb hby at_130)
    have B16 := own_B_set Ar15 Sz15 al15 W16
    obtain ⟨_, X16, N16⟩ := own_hide X16 (Fr.snoc X16 N12 g_b3)
    refine own_st st16 ?_
    show own_Go _ _ _ _ T16 (mkF m 131 #[.val (.int p0), .val (.int p1), .val (.int p2), .val (.int p3), .val (.int p4), .val (.int (0 : Int32)), .val (.int c0), .val (.int c1), .val (.int c2), .val (.ref b1), .val (.ref b3), .unset, .unset, .unset, .unset, .unset, .unset, .unset, .unset] [])
    refine own_st (fun t k => XS.aload X16.here hx rfl (hb hby at_131) rfl rfl k) ?_
    refine own_st (fun t k => XS.iload X16.here hx rfl (hb hby at_133) rfl k) ?_
    refine own_st (fun t k => XS.sipush X16.here hx rfl (hb hby at_135) k) ?_
    refine own_st (fun t k => XS.iand X16.here hx rfl (hb hby at_138) rfl k) ?_
    show own_Go _ _ _ _ T16 (mkF m 139 #[.val (.int p0), .val (.int p1), .val (.int p2), .val (.int p3), .val (.int p4), .val (.int (0 : Int32)), .val (.int c0), .val (.int c1), .val (.int c2), .val (.ref b1), .val (.ref b3), .unset, .unset, .unset, .unset, .unset, .unset, .unset, .unset] [(.int (c2 &&& (255 : Int32))), (.ref b3)])
    refine own_st (fun t k => XS.iload X16.here hx rfl (hb hby at_139) rfl k) ?_
    refine own_st (fun t k => XS.iconst X16.here hx rfl (hb hby at_141) k) ?_
    refine own_st (fun t k => XS.iand X16.here hx rfl (hb hby at_142) rfl k) ?_
    show own_Go _ _ _ _ T16 (mkF m 143 #[.val (.int p0), .val (.int p1), .val (.int p2), .val (.int p3), .val (.int p4), .val (.int (0 : Int32)), .val (.int c0), .val (.int c1), .val (.int c2), .val (.ref b1), .val (.ref b3), .unset, .unset, .unset, .unset, .unset, .unset, .unset, .unset] [(.int (p4 &&& (4 : Int32))), (.int (c2 &&& (255 : Int32))), (.ref b3)])
    suffices hj17 : own_Go p.tables e below (own_Fin below s (Q0 Z p0 p1 p2 p3 p4 ra ch h0 n0) 4 277) T16 (mkF m 151 #[.val (.int p0), .val (.int p1), .val (.int p2), .val (.int p3), .val (.int p4), .val (.int (0 : Int32)), .val (.int c0), .val (.int c1), .val (.int c2), .val (.ref b1), .val (.ref b3), .unset, .unset, .unset, .unset, .unset, .unset, .unset, .unset] [(.int (if (p4 &&& (4 : Int32)) = (0 : Int32) then (0 : Int32) else (1 : Int32))), (.int (c2 &&& (255 : Int32))), (.ref b3)]) by
      by_cases c143_17 : (p4 &&& (4 : Int32)) = (0 : Int32)
      · rw [if_pos c143_17] at hj17
        refine own_st (fun t k => XS.ifYes X16.here hx rfl (pc0 := 143) (pc' := 150) rfl (hb hby at_143) rfl ((if0 _ _).trans (teq c143_17).1) (by decide) (by decide) k) ?_
        show own_Go _ _ _ _ T16 (mkF m 150 #[.val (.int p0), .val (.int p1), .val (.int p2), .val (.int p3), .val (.int p4), .val (.int (0 : Int32)), .val (.int c0), .val (.int c1), .val (.int c2), .val (.ref b1), .val (.ref b3), .unset, .unset, .unset, .unset, .unset, .unset, .unset, .unset] [(.int (c2 &&& (255 : Int32))), (.ref b3)])
        refine own_st (fun t k => XS.iconst X16.here hx rfl (hb hby at_150) k) ?_
        show own_Go _ _ _ _ T16 (mkF m 151 #[.val (.int p0), .val (.int p1), .val (.int p2), .val (.int p3), .val (.int p4), .val (.int (0 : Int32)), .val (.int c0), .val (.int c1), .val (.int c2), .val (.ref b1), .val (.ref b3), .unset, .unset, .unset, .unset, .unset, .unset, .unset, .unset] [(.int (0 : Int32)), (.int (c2 &&& (255 : Int32))), (.ref b3)])
        exact hj17
      · rw [if_neg c143_17] at hj17
        refine own_st (fun t k => XS.ifNo X16.here hx rfl (hb hby at_143) rfl ((if0 _ _).trans (feq c143_17).1) k) ?_
        show own_Go _ _ _ _ T16 (mkF m 146 #[.val (.int p0), .val (.int p1), .val (.int p2), .val (.int p3), .val (.int p4), .val (.int (0 : Int32)), .val (.int c0), .val (.int c1), .val (.int c2), .val (.ref b1), .val (.ref b3), .unset, .unset, .unset, .unset, .unset, .unset, .unset, .unset] [(.int (c2 &&& (255 : Int32))), (.ref b3)])
        refine own_st (fun t k => XS.iconst X16.here hx rfl (hb hby at_146) k) ?_
        show own_Go _ _ _ _ T16 (mkF m 147 #[.val (.int p0), .val (.int p1), .val (.int p2), .val (.int p3), .val (.int p4), .val (.int (0 : Int32)), .val (.int c0), .val (.int c1), .val (.int c2), .val (.ref b1), .val (.ref b3), .unset, .unset, .unset, .unset, .unset, .unset, .unset, .unset] [(.int (1 : Int32)), (.int (c2 &&& (255 : Int32))), (.ref b3)])
        refine own_st (fun t k => XS.goto X16.here hx rfl (pc0 := 147) (pc' := 151) rfl (hb hby at_147) (by decide) (by decide) k) ?_
        show own_Go _ _ _ _ T16 (mkF m 151 #[.val (.int p0), .val (.int p1), .val (.int p2), .val (.int p3), .val (.int p4), .val (.int (0 : Int32)), .val (.int c0), .val (.int c1), .val (.int c2), .val (.ref b1), .val (.ref b3), .unset, .unset, .unset, .unset, .unset, .unset, .unset, .unset] [(.int (1 : Int32)), (.int (c2 &&& (255 : Int32))), (.ref b3)])
        exact hj17
    show own_Go _ _ _ _ T16 (mkF m 151 #[.val (.int p0), .val (.int p1), .val (.int p2), .val (.int p3), .val (.int p4), .val (.int (0 : Int32)), .val (.int c0), .val (.int c1), .val (.int c2), .val (.ref b1), .val (.ref b3), .unset, .unset, .unset, .unset, .unset, .unset, .unset, .unset] [(.int (if (p4 &&& (4 : Int32)) = (0 : Int32) then (0 : Int32) else (1 : Int32))), (.int (c2 &&& (255 : Int32))), (.ref b3)])
    have K0_18 := (K0_14.wr W16 (Or.inr sz_b3))
    obtain ⟨cl19, Ar19, Sz19, al19⟩ := B16
    have hin19 : ¬ ((c2 &&& (255 : Int32)) < 0 ∨ cl19.slots.size ≤ ((c2 &&& (255 : Int32))).toNatClampNeg) := inb_of Sz19 (own_b255 _)
    obtain ⟨T20, h20, X20, e20, W20, st20⟩ := stZ X16 hx hZ e16 Ar19 (j := (c2 &&& (255 : Int32))) hin19 (g := (mkF m 151 #[.val (.int p0), .val (.int p1), .val (.int p2), .val (.int p3), .val (.int p4), .val (.int (0 : Int32)), .val (.int c0), .val (.int c1), .val (.int c2), .val (.ref b1), .val (.ref b3), .unset, .unset, .unset, .unset, .unset, .unset, .unset, .unset] [(.int (if (p4 &&& (4 : Int32)) = (0 : Int32) then (0 : Int32) else (1 : Int32))), (.int (c2 &&& (255 : Int32))), (.ref b3)])) rfl rfl (hb hby at_151)
    have B20 := own_B_set Ar19 Sz19 al19 W20
    obtain ⟨_, X20, N20⟩ := own_hide X20 (Fr.snoc X20 N16 g_b3)
    refine own_st st20 ?_
    show own_Go _ _ _ _ T20 (mkF m 152 #[.val (.int p0), .val (.int p1), .val (.int p2), .val (.int p3), .val (.int p4), .val (.int (0 : Int32)), .val (.int c0), .val (.int c1), .val (.int c2), .val (.ref b1), .val (.ref b3), .unset, .unset, .unset, .unset, .unset, .unset, .unset, .unset] [])
    obtain ⟨ck, Tk⟩ := own_B_tab B20
    refine own_st (fun t k => XS.aload X20.here hx rfl (hb hby at_152) rfl rfl k) ?_
    refine own_st (fun t k => XS.iload X20.here hx rfl (hb hby at_154) rfl k) ?_
    refine own_st (fun t k => XS.sipush X20.here hx rfl (hb hby at_156) k) ?_
    refine own_st (fun t k => XS.iand X20.here hx rfl (hb hby at_159) rfl k) ?_
    show own_Go _ _ _ _ T20 (mkF m 160 #[.val (.int p0), .val (.int p1), .val (.int p2), .val (.int p3), .val (.int p4), .val (.int (0 : Int32)), .val (.int c0), .val (.int c1), .val (.int c2), .val (.ref b1), .val (.ref b3), .unset, .unset, .unset, .unset, .unset, .unset, .unset, .unset] [(.int (c0 &&& (255 : Int32))), (.ref b3)])
    have hin21 : ¬ ((c0 &&& (255 : Int32)) < 0 ∨ ck.slots.size ≤ ((c0 &&& (255 : Int32))).toNatClampNeg) := inb_of Tk.2.1 (own_b255 _)
    have hat21 : ck.slots[((c0 &&& (255 : Int32))).toNatClampNeg]? = some (.int (own_kf ck c0)) := Tk.2.2.2 _ hin21
    refine own_st (X20.baloadBooleans hx (j := (c0 &&& (255 : Int32))) (v := (.int (own_kf ck c0))) (by rw [e20]; exact Tk.1.1) (State.isArrayOf_alike hZ.alike Tk.1.2.1) Tk.1.2.2 hin21 hat21 (g := (mkF m 160 #[.val (.int p0), .val (.int p1), .val (.int p2), .val (.int p3), .val (.int p4), .val (.int (0 : Int32)), .val (.int c0), .val (.int c1), .val (.int c2), .val (.ref b1), .val (.ref b3), .unset, .unset, .unset, .unset, .unset, .unset, .unset, .unset] [(.int (c0 &&& (255 : Int32))), (.ref b3)])) rfl rfl (hb hby at_160)) ?_
    show own_Go _ _ _ _ T20 (mkF m 161 #[.val (.int p0), .val (.int p1), .val (.int p2), .val (.int p3), .val (.int p4), .val (.int (0 : Int32)), .val (.int c0), .val (.int c1), .val (.int c2), .val (.ref b1), .val (.ref b3), .unset, .unset, .unset, .unset, .unset, .unset, .unset, .unset] [(.int (own_kf ck c0))])
    refine own_st (fun t k => XS.istore X20.here hx rfl (hb hby at_161) rfl (l' := #[.val (.int p0), .val (.int p1), .val (.int p2), .val (.int p3), .val (.int p4), .val (.int (0 : Int32)), .val (.int c0), .val (.int c1), .val (.int c2), .val (.ref b1), .val (.ref b3), .val (.int (own_kf ck c0)), .unset, .unset, .unset, .unset, .unset, .unset, .unset]) rfl k) ?_
    show own_Go _ _ _ _ T20 (mkF m 163 #[.val (.int p0), .val (.int p1), .val (.int p2), .val (.int p3), .val (.int p4), .val (.int (0 : Int32)), .val (.int c0), .val (.int c1), .val (.int c2), .val (.ref b1), .val (.ref b3), .val (.int (own_kf ck c0)), .unset, .unset, .unset, .unset, .unset, .unset, .unset] [])
    refine own_st (fun t k => XS.aload X20.here hx rfl (hb hby at_163) rfl rfl k) ?_
    refine own_st (fun t k => XS.iload X20.here hx rfl (hb hby at_165) rfl k) ?_
    refine own_st (fun t k => XS.sipush X20.here hx rfl (hb hby at_167) k) ?_
    refine own_st (fun t k => XS.iand X20.here hx rfl (hb hby at_170) rfl k) ?_
    show own_Go _ _ _ _ T20 (mkF m 171 #[.val (.int p0), .val (.int p1), .val (.int p2), .val (.int p3), .val (.int p4), .val (.int (0 : Int32)), .val (.int c0), .val (.int c1), .val (.int c2), .val (.ref b1), .val (.ref b3), .val (.int (own_kf ck c0)), .unset, .unset, .unset, .unset, .unset, .unset, .unset] [(.int (c1 &&& (255 : Int32))), (.ref b3)])
    have hin22 : ¬ ((c1 &&& (255 : Int32)) < 0 ∨ ck.slots.size ≤ ((c1 &&& (255 : Int32))).toNatClampNeg) := inb_of Tk.2.1 (own_b255 _)
    have hat22 : ck.slots[((c1 &&& (255 : Int32))).toNatClampNeg]? = some (.int (own_kf ck c1)) := Tk.2.2.2 _ hin22
    refine own_st (X20.baloadBooleans hx (j := (c1 &&& (255 : Int32))) (v := (.int (own_kf ck c1))) (by rw [e20]; exact Tk.1.1) (State.isArrayOf_alike hZ.alike Tk.1.2.1) Tk.1.2.2 hin22 hat22 (g := (mkF m 171 #[.val (.int p0), .val (.int p1), .val (.int p2), .val (.int p3), .val (.int p4), .val (.int (0 : Int32)), .val (.int c0), .val (.int c1), .val (.int c2), .val (.ref b1), .val (.ref b3), .val (.int (own_kf ck c0)), .unset, .unset, .unset, .unset, .unset, .unset, .unset] [(.int (c1 &&& (255 : Int32))), (.ref b3)])) rfl rfl (hb hby at_171)) ?_
    show own_Go _ _ _ _ T20 (mkF m 172 #[.val (.int p0), .val (.int p1), .val (.int p2), .val (.int p3), .val (.int p4), .val (.int (0 : Int32)), .val (.int c0), .val (.int c1), .val (.int c2), .val (.ref b1), .val (.ref b3), .val (.int (own_kf ck c0)), .unset, .unset, .unset, .unset, .unset, .unset, .unset] [(.int (own_kf ck c1))])
    refine own_st (fun t k => XS.istore X20.here hx rfl (hb hby at_172) rfl (l' := #[.val (.int p0), .val (.int p1), .val (.int p2), .val (.int p3), .val (.int p4), .val (.int (0 : Int32)), .val (.int c0), .val (.int c1), .val (.int c2), .val (.ref b1), .val (.ref b3), .val (.int (own_kf ck c0)), .val (.int (own_kf ck c1)), .unset, .unset, .unset, .unset, .unset, .unset]) rfl k) ?_
    show own_Go _ _ _ _ T20 (mkF m 174 #[.val (.int p0), .val (.int p1), .val (.int p2), .val (.int p3), .val (.int p4), .val (.int (0 : Int32)), .val (.int c0), .val (.int c1), .val (.int c2), .val (.ref b1), .val (.ref b3), .val (.int (own_kf ck c0)), .val (.int (own_kf ck c1)), .unset, .unset, .unset, .unset, .unset, .unset] [])
    refine own_st (fun t k => XS.aload X20.here hx rfl (hb hby at_174) rfl rfl k) ?_
    refine own_st (fun t k => XS.iload X20.here hx rfl (hb hby at_176) rfl k) ?_
    refine own_st (fun t k => XS.sipush X20.here hx rfl (hb hby at_178) k) ?_
    refine own_st (fun t k => XS.iand X20.here hx rfl (hb hby at_181) rfl k) ?_
    show own_Go _ _ _ _ T20 (mkF m 182 #[.val (.int p0), .val (.int p1), .val (.int p2), .val (.int p3), .val (.int p4), .val (.int (0 : Int32)), .val (.int c0), .val (.int c1), .val (.int c2), .val (.ref b1), .val (.ref b3), .val (.int (own_kf ck c0)), .val (.int (own_kf ck c1)), .unset, .unset, .unset, .unset, .unset, .unset] [(.int (c2 &&& (255 : Int32))), (.ref b3)])
    have hin23 : ¬ ((c2 &&& (255 : Int32)) < 0 ∨ ck.slots.size ≤ ((c2 &&& (255 : Int32))).toNatClampNeg) := inb_of Tk.2.1 (own_b255 _)
    have hat23 : ck.slots[((c2 &&& (255 : Int32))).toNatClampNeg]? = some (.int (own_kf ck c2)) := Tk.2.2.2 _ hin23
    refine own_st (X20.baloadBooleans hx (j := (c2 &&& (255 : Int32))) (v := (.int (own_kf ck c2))) (by rw [e20]; exact Tk.1.1) (State.isArrayOf_alike hZ.alike Tk.1.2.1) Tk.1.2.2 hin23 hat23 (g := (mkF m 182 #[.val (.int p0), .val (.int p1), .val (.int p2), .val (.int p3), .val (.int p4), .val (.int (0 : Int32)), .val (.int c0), .val (.int c1), .val (.int c2), .val (.ref b1), .val (.ref b3), .val (.int (own_kf ck c0)), .val (.int (own_kf ck c1)), .unset, .unset, .unset, .unset, .unset, .unset] [(.int (c2 &&& (255 : Int32))), (.ref b3)])) rfl rfl (hb hby at_182)) ?_
    show own_Go _ _ _ _ T20 (mkF m 183 #[.val (.int p0), .val (.int p1), .val (.int p2), .val (.int p3), .val (.int p4), .val (.int (0 : Int32)), .val (.int c0), .val (.int c1), .val (.int c2), .val (.ref b1), .val (.ref b3), .val (.int (own_kf ck c0)), .val (.int (own_kf ck c1)), .unset, .unset, .unset, .unset, .unset, .unset] [(.int (own_kf ck c2))])
    refine own_st (fun t k => XS.istore X20.here hx rfl (hb hby at_183) rfl (l' := #[.val (.int p0), .val (.int p1), .val (.int p2), .val (.int p3), .val (.int p4), .val (.int (0 : Int32)), .val (.int c0), .val (.int c1), .val (.int c2), .val (.ref b1), .val (.ref b3), .val (.int (own_kf ck c0)), .val (.int (own_kf ck c1)), .val (.int (own_kf ck c2)), .unset, .unset, .unset, .unset, .unset]) rfl k) ?_
    show own_Go _ _ _ _ T20 (mkF m 185 #[.val (.int p0), .val (.int p1), .val (.int p2), .val (.int p3), .val (.int p4), .val (.int (0 : Int32)), .val (.int c0), .val (.int c1), .val (.int c2), .val (.ref b1), .val (.ref b3), .val (.int (own_kf ck c0)), .val (.int (own_kf ck c1)), .val (.int (own_kf ck c2)), .unset, .unset, .unset, .unset, .unset] [])
    refine own_st (fun t k => XS.bipush X20.here hx rfl (hb hby at_185) k) ?_
    show own_Go _ _ _ _ T20 (mkF m 187 #[.val (.int p0), .val (.int p1), .val (.int p2), .val (.int p3), .val (.int p4), .val (.int (0 : Int32)), .val (.int c0), .val (.int c1), .val (.int c2), .val (.ref b1), .val (.ref b3), .val (.int (own_kf ck c0)), .val (.int (own_kf ck c1)), .val (.int (own_kf ck c2)), .unset, .unset, .unset, .unset, .unset] [(.int (9 : Int32))])
    have K0_24 := (K0_18.wr W20 (Or.inr sz_b3))
    obtain ⟨T25, h25, k25, X25, e25, E25, A25, st25⟩ := newP X20 hx hZ (hw _ (List.mem_of_getElem? (i := 0) rfl)) e20 (g := (mkF m 187 #[.val (.int p0), .val (.int p1), .val (.int p2), .val (.int p3), .val (.int p4), .val (.int (0 : Int32)), .val (.int c0), .val (.int c1), .val (.int c2), .val (.ref b1), .val (.ref b3), .val (.int (own_kf ck c0)), .val (.int (own_kf ck c1)), .val (.int (own_kf ck c2)), .unset, .unset, .unset, .unset, .unset] [(.int (9 : Int32))])) rfl (hb hby at_187) rfl (by decide) (cap := 9) (by decide) (by decide) (by decide) (by decide)
    obtain ⟨b25, g25⟩ : ∃ z, z = h20.size := ⟨_, rfl⟩
    rw [← g25] at A25 st25
    have sz_b25 : h0.size ≤ b25 := Nat.le_trans K0_24.1 (Nat.le_of_eq g25.symm)
    have g_b25 : n0 ≤ b25 := Nat.le_trans Z0 sz_b25
    have Arh_26 := (((((Arh_4.ext E3).other W8 ne_ra_b3).other W12 ne_ra_b3).other W16 ne_ra_b3).other W20 ne_ra_b3)
    have ne_ra_b25 : ra ≠ b25 := Nat.ne_of_lt (Nat.lt_of_lt_of_le Arh_26.lt (Nat.le_of_eq g25.symm))
    have V1_27 := (((((V1.ext E3).other W8 ne_b1_b3).other W12 ne_b1_b3).other W16 ne_b1_b3).other W20 ne_b1_b3)
    have ne_b1_b25 : b1 ≠ b25 := Nat.ne_of_lt (Nat.lt_of_lt_of_le V1_27.lt (Nat.le_of_eq g25.symm))
    have ne_b3_b25 : b3 ≠ b25 := Nat.ne_of_lt (Nat.lt_of_lt_of_le Tk.1.lt (Nat.le_of_eq g25.symm))
    have V25 : own_X Z h25 b25 k25 9 [] := own_new (n := 9) A25 (by decide)
    refine own_st st25 ?_
    show own_Go _ _ _ _ T25 (mkF m 189 #[.val (.int p0), .val (.int p1), .val (.int p2), .val (.int p3), .val (.int p4), .val (.int (0 : Int32)), .val (.int c0), .val (.int c1), .val (.int c2), .val (.ref b1), .val (.ref b3), .val (.int (own_kf ck c0)), .val (.int (own_kf ck c1)), .val (.int (own_kf ck c2)), .unset, .unset, .unset, .unset, .unset] [(.ref b25)])
    refine own_st (fun t k => XS.astore X25.here hx rfl (hb hby at_189) rfl rfl (l' := #[.val (.int p0), .val (.int p1), .val (.int p2), .val (.int p3), .val (.int p4), .val (.int (0 : Int32)), .val (.int c0), .val (.int c1), .val (.int c2), .val (.ref b1), .val (.ref b3), .val (.int (own_kf ck c0)), .val (.int (own_kf ck c1)), .val (.int (own_kf ck c2)), .val (.ref b25), .unset, .unset, .unset, .unset]) rfl k) ?_
    show own_Go _ _ _ _ T25 (mkF m 191 #[.val (.int p0), .val (.int p1), .val (.int p2), .val (.int p3), .val (.int p4), .val (.int (0 : Int32)), .val (.int c0), .val (.int c1), .val (.int c2), .val (.ref b1), .val (.ref b3), .val (.int (own_kf ck c0)), .val (.int (own_kf ck c1)), .val (.int (own_kf ck c2)), .val (.ref b25), .unset, .unset, .unset, .unset] [])
    refine own_st (fun t k => XS.iconst X25.here hx rfl (hb hby at_191) k) ?_
    refine own_st (fun t k => XS.istore X25.here hx rfl (hb hby at_192) rfl (l' := #[.val (.int p0), .val (.int p1), .val (.int p2), .val (.int p3), .val (.int p4), .val (.int (0 : Int32)), .val (.int c0), .val (.int c1), .val (.int c2), .val (.ref b1), .val (.ref b3), .val (.int (own_kf ck c0)), .val (.int (own_kf ck c1)), .val (.int (own_kf ck c2)), .val (.ref b25), .val (.int (0 : Int32)), .unset, .unset, .unset]) rfl k) ?_
    show own_Go _ _ _ _ T25 (mkF m 194 #[.val (.int p0), .val (.int p1), .val (.int p2), .val (.int p3), .val (.int p4), .val (.int (0 : Int32)), .val (.int c0), .val (.int c1), .val (.int c2), .val (.ref b1), .val (.ref b3), .val (.int (own_kf ck c0)), .val (.int (own_kf ck c1)), .val (.int (own_kf ck c2)), .val (.ref b25), .val (.int (0 : Int32)), .unset, .unset, .unset] [])
    refine own_st (fun t k => XS.iload X25.here hx rfl (hb hby at_194) rfl k) ?_
    refine own_st (fun t k => XS.ifYes X25.here hx rfl (pc0 := 196) (pc' := 212) rfl (hb hby at_196) rfl ((if0 _ _).trans (flt (by decide : ¬ ((0 : Int32) < (0 : Int32)))).2.2.2) (by decide) (by decide) k) ?_
    show own_Go _ _ _ _ T25 (mkF m 212 #[.val (.int p0), .val (.int p1), .val (.int p2), .val (.int p3), .val (.int p4), .val (.int (0 : Int32)), .val (.int c0), .val (.int c1), .val (.int c2), .val (.ref b1), .val (.ref b3), .val (.int (own_kf ck c0)), .val (.int (own_kf ck c1)), .val (.int (own_kf ck c2)), .val (.ref b25), .val (.int (0 : Int32)), .unset, .unset, .unset] [])
    refine own_st (fun t k => XS.iload X25.here hx rfl (hb hby at_212) rfl k) ?_
    refine own_st (fun t k => XS.iconst X25.here hx rfl (hb hby at_214) k) ?_
    refine own_st (fun t k => XS.icmpYes X25.here hx rfl (pc0 := 215) (pc' := 231) rfl (hb hby at_215) rfl (flt (by decide : ¬ ((1 : Int32) < (0 : Int32)))).2.2.2 (by decide) (by decide) k) ?_
    show own_Go _ _ _ _ T25 (mkF m 231 #[.val (.int p0), .val (.int p1), .val (.int p2), .val (.int p3), .val (.int p4), .val (.int (0 : Int32)), .val (.int c0), .val (.int c1), .val (.int c2), .val (.ref b1), .val (.ref b3), .val (.int (own_kf ck c0)), .val (.int (own_kf ck c1)), .val (.int (own_kf ck c2)), .val (.ref b25), .val (.int (0 : Int32)), .unset, .unset, .unset] [])
    refine own_st (fun t k => XS.iload X25.here hx rfl (hb hby at_231) rfl k) ?_
    refine own_st (fun t k => XS.iconst X25.here hx rfl (hb hby at_233) k) ?_
    refine own_st (fun t k => XS.icmpYes X25.here hx rfl (pc0 := 234) (pc' := 250) rfl (hb hby at_234) rfl (flt (by decide : ¬ ((2 : Int32) < (0 : Int32)))).2.2.2 (by decide) (by decide) k) ?_
    show own_Go _ _ _ _ T25 (mkF m 250 #[.val (.int p0), .val (.int p1), .val (.int p2), .val (.int p3), .val (.int p4), .val (.int (0 : Int32)), .val (.int c0), .val (.int c1), .val (.int c2), .val (.ref b1), .val (.ref b3), .val (.int (own_kf ck c0)), .val (.int (own_kf ck c1)), .val (.int (own_kf ck c2)), .val (.ref b25), .val (.int (0 : Int32)), .unset, .unset, .unset] [])
    have hfl28 : ([] : List Int32) = (own_flat (own_kf ck) []) := rfl
    have Vx : own_X Z h25 b25 k25 9 (own_flat (own_kf ck) []) := hfl28 ▸ V25
    show own_Go _ _ _ _ T25 (mkF m 250 #[.val (.int p0), .val (.int p1), .val (.int p2), .val (.int p3), .val (.int p4), .val (.int (0 : Int32)), .val (.int c0), .val (.int c1), .val (.int c2), .val (.ref b1), .val (.ref b3), .val (.int (own_kf ck c0)), .val (.int (own_kf ck c1)), .val (.int (own_kf ck c2)), .val (.ref b25), .val (.int (Int32.ofNat (own_flat (own_kf ck) []).length)), .unset, .unset, .unset] [])
    obtain ⟨mm, hmm⟩ : ∃ z, z = Int32.ofNat (own_flat (own_kf ck) []).length := ⟨_, rfl⟩
    rw [← hmm]
    obtain ⟨d0, hd0⟩ : ∃ z, z = own_kf ck c0 := ⟨_, rfl⟩
    rw [← hd0]
    obtain ⟨d1, hd1⟩ : ∃ z, z = own_kf ck c1 := ⟨_, rfl⟩
    rw [← hd1]
    obtain ⟨d2, hd2⟩ : ∃ z, z = own_kf ck c2 := ⟨_, rfl⟩
    rw [← hd2]
    show own_Go _ _ _ _ T25 (mkF m 250 #[.val (.int p0), .val (.int p1), .val (.int p2), .val (.int p3), .val (.int p4), .val (.int (0 : Int32)), .val (.int c0), .val (.int c1), .val (.int c2), .val (.ref b1), .val (.ref b3), .val (.int d0), .val (.int d1), .val (.int d2), .val (.ref b25), .val (.int mm), .unset, .unset, .unset] [])
    refine own_st (fun t k => XS.iload X25.here hx rfl (hb hby at_250) rfl k) ?_
    refine own_st (fun t k => XS.iload X25.here hx rfl (hb hby at_252) rfl k) ?_
    by_cases c254_29 : mm = (0 : Int32)
    ·
      refine own_st (fun t k => XS.icmpNo X25.here hx rfl (hb hby at_254) rfl (teq c254_29).2 k) ?_
      show own_Go _ _ _ _ T25 (mkF m 257 #[.val (.int p0), .val (.int p1), .val (.int p2), .val (.int p3), .val (.int p4), .val (.int (0 : Int32)), .val (.int c0), .val (.int c1), .val (.int c2), .val (.ref b1), .val (.ref b3), .val (.int d0), .val (.int d1), .val (.int d2), .val (.ref b25), .val (.int mm), .unset, .unset, .unset] [])
      refine own_st (fun t k => XS.iconst X25.here hx rfl (hb hby at_257) k) ?_
      refine own_st (fun t k => XS.goto X25.here hx rfl (pc0 := 258) (pc' := 262) rfl (hb hby at_258) (by decide) (by decide) k) ?_
      show own_Go _ _ _ _ T25 (mkF m 262 #[.val (.int p0), .val (.int p1), .val (.int p2), .val (.int p3), .val (.int p4), .val (.int (0 : Int32)), .val (.int c0), .val (.int c1), .val (.int c2), .val (.ref b1), .val (.ref b3), .val (.int d0), .val (.int d1), .val (.int d2), .val (.ref b25), .val (.int mm), .unset, .unset, .unset] [(.int (1 : Int32))])
      refine own_st (fun t k => XS.istore X25.here hx rfl (hb hby at_262) rfl (l' := #[.val (.int p0), .val (.int p1), .val (.int p2), .val (.int p3), .val (.int p4), .val (.int (0 : Int32)), .val (.int c0), .val (.int c1), .val (.int c2), .val (.ref b1), .val (.ref b3), .val (.int d0), .val (.int d1), .val (.int d2), .val (.ref b25), .val (.int mm), .val (.int (1 : Int32)), .unset, .unset]) rfl k) ?_
      show own_Go _ _ _ _ T25 (mkF m 264 #[.val (.int p0), .val (.int p1), .val (.int p2), .val (.int p3), .val (.int p4), .val (.int (0 : Int32)), .val (.int c0), .val (.int c1), .val (.int c2), .val (.ref b1), .val (.ref b3), .val (.int d0), .val (.int d1), .val (.int d2), .val (.ref b25), .val (.int mm), .val (.int (1 : Int32)), .unset, .unset] [])
      refine own_st (fun t k => XS.aload X25.here hx rfl (hb hby at_264) rfl rfl k) ?_
      refine own_st (fun t k => XS.aload X25.here hx rfl (hb hby at_266) rfl rfl k) ?_
      show own_Go _ _ _ _ T25 (mkF m 268 #[.val (.int p0), .val (.int p1), .val (.int p2), .val (.int p3), .val (.int p4), .val (.int (0 : Int32)), .val (.int c0), .val (.int c1), .val (.int c2), .val (.ref b1), .val (.ref b3), .val (.int d0), .val (.int d1), .val (.int d2), .val (.ref b25), .val (.int mm), .val (.int (1 : Int32)), .unset, .unset] [(.ref b3), (.ref b1)])
      have V1_30 := (V1_27.ext E25)
      have Ark_31 := (Tk.1.ext E25)
      have Sh_32 := (((((((S_H.ext E1).ext E3).wr W8).wr W12).wr W16).wr W20).ext E25)
      have Arh_33 := (Arh_26.ext E25)
      have K0_35 := (K0_24.ext E25)
      obtain ⟨_, _, ⟨T34, L34, k34, n34⟩, -, X34, ⟨Lc34, hQ34, l34, y34, z34⟩, st34⟩ := Jvm.LawKit.callS X25 hx (y := (⟨"shelfmark/IriPattern", "percentEncoded", "([B[Z)[B"⟩ : MethodName)) hown (mvT hZ (hw _ (List.mem_of_getElem? (i := 9) rfl))) (mvT hZ (hw _ (List.mem_of_getElem? (i := 10) rfl))) (mvT hZ (hw _ (List.mem_of_getElem? (i := 11) rfl))) (mvT hZ (hw _ (List.mem_of_getElem? (i := 12) rfl))) (by decide) (backOf (W := 0) (rm3 l Z a0 hw [] b1 b3 k1 [] ck ra ch  h25 n0 (Nat.le_trans Z0 K0_35.1) V1_30 (Nat.le_of_ble_eq_true rfl) (fun b hb => nomatch hb) ⟨Ark_31, Tk.2⟩ Sh_32 Arh_33 hH) hZ (hw _ (List.mem_of_getElem? (i := 12) rfl)) (hw _ (List.mem_of_getElem? (i := 11) rfl)) (by decide) (by decide)) (g := (mkF m 268 #[.val (.int p0), .val (.int p1), .val (.int p2), .val (.int p3), .val (.int p4), .val (.int (0 : Int32)), .val (.int c0), .val (.int c1), .val (.int c2), .val (.ref b1), .val (.ref b3), .val (.int d0), .val (.int d1), .val (.int d2), .val (.ref b25), .val (.int mm), .val (.int (1 : Int32)), .unset, .unset] [(.ref b3), (.ref b1)])) rfl (by rw [hml]; rfl) (argsL := [(.ref b1), (.ref b3)]) (rest := []) (lenOf pd__28_5bB_5bZ_29_5bB rfl) rfl (by show 2 * 0 + _ ≤ _; exact Nat.le_of_eq rfl) (hb hby at_268) (fun _ _ => ⟨rfl, e25, (by decide : 3 + 1 ≤ _), (by decide : 265 + 9 ≤ _)⟩)
      dsimp only [Pt.U, Pt.locs, Pt.cells, Pt.slots] at X34 l34 y34 z34 st34 hQ34
      subst l34 y34 z34
      obtain ⟨b34, k34, rfl, N34q, K34, hbu, V34⟩ := hQ34
      obtain ⟨_, X34, N34⟩ := own_hide X34 (Fr.app N20 N34q)
      refine own_st st34 ?_
      show own_Go _ _ _ _ T34 (mkF m 271 #[.val (.int p0), .val (.int p1), .val (.int p2), .val (.int p3), .val (.int p4), .val (.int (0 : Int32)), .val (.int c0), .val (.int c1), .val (.int c2), .val (.ref b1), .val (.ref b3), .val (.int d0), .val (.int d1), .val (.int d2), .val (.ref b25), .val (.int mm), .val (.int (1 : Int32)), .unset, .unset] [(.ref b34)])
      refine own_st (fun t k => XS.astore X34.here hx rfl (hb hby at_271) rfl rfl (l' := #[.val (.int p0), .val (.int p1), .val (.int p2), .val (.int p3), .val (.int p4), .val (.int (0 : Int32)), .val (.int c0), .val (.int c1), .val (.int c2), .val (.ref b1), .val (.ref b3), .val (.int d0), .val (.int d1), .val (.int d2), .val (.ref b25), .val (.int mm), .val (.int (1 : Int32)), .val (.ref b34), .unset]) rfl k) ?_
      show own_Go _ _ _ _ T34 (mkF m 273 #[.val (.int p0), .val (.int p1), .val (.int p2), .val (.int p3), .val (.int p4), .val (.int (0 : Int32)), .val (.int c0), .val (.int c1), .val (.int c2), .val (.ref b1), .val (.ref b3), .val (.int d0), .val (.int d1), .val (.int d2), .val (.ref b25), .val (.int mm), .val (.int (1 : Int32)), .val (.ref b34), .unset] [])
      refine own_st (fun t k => XS.aload X34.here hx rfl (hb hby at_273) rfl rfl k) ?_
      show own_Go _ _ _ _ T34 (mkF m 275 #[.val (.int p0), .val (.int p1), .val (.int p2), .val (.int p3), .val (.int p4), .val (.int (0 : Int32)), .val (.int c0), .val (.int c1), .val (.int c2), .val (.ref b1), .val (.ref b3), .val (.int d0), .val (.int d1), .val (.int d2), .val (.ref b25), .val (.int mm), .val (.int (1 : Int32)), .val (.ref b34), .unset] [(.ref b34)])
      refine own_st (fun t k => XS.ifnullNo X34.here hx rfl (hb hby at_275) rfl k) ?_
      show own_Go _ _ _ _ T34 (mkF m 278 #[.val (.int p0), .val (.int p1), .val (.int p2), .val (.int p3), .val (.int p4), .val (.int (0 : Int32)), .val (.int c0), .val (.int c1), .val (.int c2), .val (.ref b1), .val (.ref b3), .val (.int d0), .val (.int d1), .val (.int d2), .val (.ref b25), .val (.int mm), .val (.int (1 : Int32)), .val (.ref b34), .unset] [])
      refine own_st (fun t k => XS.aload X34.here hx rfl (hb hby at_278) rfl rfl k) ?_
      show own_Go _ _ _ _ T34 (mkF m 280 #[.val (.int p0), .val (.int p1), .val (.int p2), .val (.int p3), .val (.int p4), .val (.int (0 : Int32)), .val (.int c0), .val (.int c1), .val (.int c2), .val (.ref b1), .val (.ref b3), .val (.int d0), .val (.int d1), .val (.int d2), .val (.ref b25), .val (.int mm), .val (.int (1 : Int32)), .val (.ref b34), .unset] [(.ref b34)])
      obtain ⟨cl36, Ar36, qk36, Sz36, Nn36, Hs36, Gf36⟩ := id V34
      refine own_st (X34.arraylength hx (id Ar36.1) (State.isArrayOf_alike hZ.alike Ar36.2.1) (g := (mkF m 280 #[.val (.int p0), .val (.int p1), .val (.int p2), .val (.int p3), .val (.int p4), .val (.int (0 : Int32)), .val (.int c0), .val (.int c1), .val (.int c2), .val (.ref b1), .val (.ref b3), .val (.int d0), .val (.int d1), .val (.int d2), .val (.ref b25), .val (.int mm), .val (.int (1 : Int32)), .val (.ref b34), .unset] [(.ref b34)])) rfl rfl (hb hby at_280)) ?_
      rw [len_of Sz36 Nn36]
      show own_Go _ _ _ _ T34 (mkF m 281 #[.val (.int p0), .val (.int p1), .val (.int p2), .val (.int p3), .val (.int p4), .val (.int (0 : Int32)), .val (.int c0), .val (.int c1), .val (.int c2), .val (.ref b1), .val (.ref b3), .val (.int d0), .val (.int d1), .val (.int d2), .val (.ref b25), .val (.int mm), .val (.int (1 : Int32)), .val (.ref b34), .unset] [(.int (Int32.ofNat (own_flat (own_kf ck) []).length))])
      refine own_st (fun t k => XS.iload X34.here hx rfl (hb hby at_281) rfl k) ?_
      refine own_st (fun t k => XS.icmpYes X34.here hx rfl (pc0 := 283) (pc' := 288) rfl (hb hby at_283) rfl (teq hmm.symm).1 (by decide) (by decide) k) ?_
      show own_Go _ _ _ _ T34 (mkF m 288 #[.val (.int p0), .val (.int p1), .val (.int p2), .val (.int p3), .val (.int p4), .val (.int (0 : Int32)), .val (.int c0), .val (.int c1), .val (.int c2), .val (.ref b1), .val (.ref b3), .val (.int d0), .val (.int d1), .val (.int d2), .val (.ref b25), .val (.int mm), .val (.int (1 : Int32)), .val (.ref b34), .unset] [])
      refine own_st (fun t k => XS.iload X34.here hx rfl (hb hby at_288) rfl k) ?_
      refine own_st (fun t k => XS.ifNo X34.here hx rfl (hb hby at_290) rfl ((if0 _ _).trans (feq (by decide : ¬ ((1 : Int32) = (0 : Int32)))).1) k) ?_
      show own_Go _ _ _ _ T34 (mkF m 293 #[.val (.int p0), .val (.int p1), .val (.int p2), .val (.int p3), .val (.int p4), .val (.int (0 : Int32)), .val (.int c0), .val (.int c1), .val (.int c2), .val (.ref b1), .val (.ref b3), .val (.int d0), .val (.int d1), .val (.int d2), .val (.ref b25), .val (.int mm), .val (.int (1 : Int32)), .val (.ref b34), .unset] [])
      refine own_st (fun t k => XS.aload X34.here hx rfl (hb hby at_293) rfl rfl k) ?_
      refine own_st (fun t k => XS.aload X34.here hx rfl (hb hby at_295) rfl rfl k) ?_
      show own_Go _ _ _ _ T34 (mkF m 297 #[.val (.int p0), .val (.int p1), .val (.int p2), .val (.int p3), .val (.int p4), .val (.int (0 : Int32)), .val (.int c0), .val (.int c1), .val (.int c2), .val (.ref b1), .val (.ref b3), .val (.int d0), .val (.int d1), .val (.int d2), .val (.ref b25), .val (.int mm), .val (.int (1 : Int32)), .val (.ref b34), .unset] [(.ref b1), (.ref b34)])
      refine own_st (fun t k => Jvm.RoadKit.acmp (g := (mkF m 297 #[.val (.int p0), .val (.int p1), .val (.int p2), .val (.int p3), .val (.int p4), .val (.int (0 : Int32)), .val (.int c0), .val (.int c1), .val (.int c2), .val (.ref b1), .val (.ref b3), .val (.int d0), .val (.int d1), .val (.int d2), .val (.ref b25), .val (.int mm), .val (.int (1 : Int32)), .val (.ref b34), .unset] [(.ref b1), (.ref b34)])) X34 hx rfl rfl rfl (pc0 := 297) (pc' := 302) (same := true) rfl (hb hby at_297) rfl (decide_eq_true (congrArg Value.ref ((hbu (own_cnt0 (own_kf ck) [] (Nat.le_of_ble_eq_true rfl) (hmm.symm.trans c254_29))) : b34 = b1))) (by decide) (by decide) k) ?_
      show own_Go _ _ _ _ T34 (mkF m 302 #[.val (.int p0), .val (.int p1), .val (.int p2), .val (.int p3), .val (.int p4), .val (.int (0 : Int32)), .val (.int c0), .val (.int c1), .val (.int c2), .val (.ref b1), .val (.ref b3), .val (.int d0), .val (.int d1), .val (.int d2), .val (.ref b25), .val (.int mm), .val (.int (1 : Int32)), .val (.ref b34), .unset] [])
      refine own_st (fun t k => XS.iload X34.here hx rfl (hb hby at_302) rfl k) ?_
      refine own_st (fun t k => XS.iconst X34.here hx rfl (hb hby at_304) k) ?_
      refine own_st (fun t k => XS.icmpYes X34.here hx rfl (pc0 := 305) (pc' := 317) rfl (hb hby at_305) rfl (tlt (by decide : (0 : Int32) < (1 : Int32))).1 (by decide) (by decide) k) ?_
      show own_Go _ _ _ _ T34 (mkF m 317 #[.val (.int p0), .val (.int p1), .val (.int p2), .val (.int p3), .val (.int p4), .val (.int (0 : Int32)), .val (.int c0), .val (.int c1), .val (.int c2), .val (.ref b1), .val (.ref b3), .val (.int d0), .val (.int d1), .val (.int d2), .val (.ref b25), .val (.int mm), .val (.int (1 : Int32)), .val (.ref b34), .unset] [])
      refine own_st (fun t k => XS.iload X34.here hx rfl (hb hby at_317) rfl k) ?_
      refine own_st (fun t k => XS.iconst X34.here hx rfl (hb hby at_319) k) ?_
      refine own_st (fun t k => XS.icmpYes X34.here hx rfl (pc0 := 320) (pc' := 332) rfl (hb hby at_320) rfl (tlt (by decide : (0 : Int32) < (2 : Int32))).1 (by decide) (by decide) k) ?_
      show own_Go _ _ _ _ T34 (mkF m 332 #[.val (.int p0), .val (.int p1), .val (.int p2), .val (.int p3), .val (.int p4), .val (.int (0 : Int32)), .val (.int c0), .val (.int c1), .val (.int c2), .val (.ref b1), .val (.ref b3), .val (.int d0), .val (.int d1), .val (.int d2), .val (.ref b25), .val (.int mm), .val (.int (1 : Int32)), .val (.ref b34), .unset] [])
      refine own_st (fun t k => XS.iload X34.here hx rfl (hb hby at_332) rfl k) ?_
      refine own_st (fun t k => XS.iconst X34.here hx rfl (hb hby at_334) k) ?_
      refine own_st (fun t k => XS.icmpYes X34.here hx rfl (pc0 := 335) (pc' := 347) rfl (hb hby at_335) rfl (tlt (by decide : (0 : Int32) < (3 : Int32))).1 (by decide) (by decide) k) ?_
      show own_Go _ _ _ _ T34 (mkF m 347 #[.val (.int p0), .val (.int p1), .val (.int p2), .val (.int p3), .val (.int p4), .val (.int (0 : Int32)), .val (.int c0), .val (.int c1), .val (.int c2), .val (.ref b1), .val (.ref b3), .val (.int d0), .val (.int d1), .val (.int d2), .val (.ref b25), .val (.int mm), .val (.int (1 : Int32)), .val (.ref b34), .unset] [])
      refine own_st (fun t k => XS.iconst X34.here hx rfl (hb hby at_347) k) ?_
      refine own_st (fun t k => XS.goto X34.here hx rfl (pc0 := 348) (pc' := 352) rfl (hb hby at_348) (by decide) (by decide) k) ?_
      show own_Go _ _ _ _ T34 (mkF m 352 #[.val (.int p0), .val (.int p1), .val (.int p2), .val (.int p3), .val (.int p4), .val (.int (0 : Int32)), .val (.int c0), .val (.int c1), .val (.int c2), .val (.ref b1), .val (.ref b3), .val (.int d0), .val (.int d1), .val (.int d2), .val (.ref b25), .val (.int mm), .val (.int (1 : Int32)), .val (.ref b34), .unset] [(.int (1 : Int32))])
      refine own_st (fun t k => XS.istore X34.here hx rfl (hb hby at_352) rfl (l' := #[.val (.int p0), .val (.int p1), .val (.int p2), .val (.int p3), .val (.int p4), .val (.int (0 : Int32)), .val (.int c0), .val (.int c1), .val (.int c2), .val (.ref b1), .val (.ref b3), .val (.int d0), .val (.int d1), .val (.int d2), .val (.ref b25), .val (.int mm), .val (.int (1 : Int32)), .val (.ref b34), .val (.int (1 : Int32))]) rfl k) ?_
      show own_Go _ _ _ _ T34 (mkF m 354 #[.val (.int p0), .val (.int p1), .val (.int p2), .val (.int p3), .val (.int p4), .val (.int (0 : Int32)), .val (.int c0), .val (.int c1), .val (.int c2), .val (.ref b1), .val (.ref b3), .val (.int d0), .val (.int d1), .val (.int d2), .val (.ref b25), .val (.int mm), .val (.int (1 : Int32)), .val (.ref b34), .val (.int (1 : Int32))] [])
      obtain ⟨cr, Arr_r, -, Szr, -, Hsr, -⟩ := id V34
      have Vx_37 := (Vx.keep K34 nin0)
      obtain ⟨ce, Arr_e, -, Sze, -, Hse, -⟩ := id Vx_37
      have h9 := own_flat9 (own_kf ck) (bs := []) (Nat.le_of_ble_eq_true rfl)
      refine own_st (fun t k => XS.iload X34.here hx rfl (hb hby at_354) rfl k) ?_
      refine own_st (fun t k => XS.ifNo X34.here hx rfl (hb hby at_356) rfl ((if0 _ _).trans (feq (by decide : ¬ ((1 : Int32) = (0 : Int32)))).1) k) ?_
      show own_Go _ _ _ _ T34 (mkF m 359 #[.val (.int p0), .val (.int p1), .val (.int p2), .val (.int p3), .val (.int p4), .val (.int (0 : Int32)), .val (.int c0), .val (.int c1), .val (.int c2), .val (.ref b1), .val (.ref b3), .val (.int d0), .val (.int d1), .val (.int d2), .val (.ref b25), .val (.int mm), .val (.int (1 : Int32)), .val (.ref b34), .val (.int (1 : Int32))] [])
      refine own_st (fun t k => XS.aload X34.here hx rfl (hb hby at_359) rfl rfl k) ?_
      refine own_st (fun t k => XS.aload X34.here hx rfl (hb hby at_361) rfl rfl k) ?_
      refine own_st (fun t k => XS.iconst X34.here hx rfl (hb hby at_363) k) ?_
      refine own_st (fun t k => XS.iload X34.here hx rfl (hb hby at_364) rfl k) ?_
      show own_Go _ _ _ _ T34 (mkF m 366 #[.val (.int p0), .val (.int p1), .val (.int p2), .val (.int p3), .val (.int p4), .val (.int (0 : Int32)), .val (.int c0), .val (.int c1), .val (.int c2), .val (.ref b1), .val (.ref b3), .val (.int d0), .val (.int d1), .val (.int d2), .val (.ref b25), .val (.int mm), .val (.int (1 : Int32)), .val (.ref b34), .val (.int (1 : Int32))] [(.int mm), (.int (0 : Int32)), (.ref b25), (.ref b34)])
      have K0_39 := (K0_35.trans K34 (all0))
      obtain ⟨_, _, ⟨T38, L38, k38, n38⟩, -, X38, ⟨Lc38, hQ38, l38, y38, z38⟩, st38⟩ := Jvm.LawKit.callS X34 hx (y := (⟨"shelfmark/IriPatternPercentEncodedPinLaw", "same", "([B[BII)Z"⟩ : MethodName)) hown (mvT hZ (hw _ (List.mem_of_getElem? (i := 15) rfl))) (mvT hZ (hw _ (List.mem_of_getElem? (i := 16) rfl))) (mvT hZ (hw _ (List.mem_of_getElem? (i := 4) rfl))) (mvT hZ (hw _ (List.mem_of_getElem? (i := 17) rfl))) (by decide) (backOf (W := 0) (rm4 l Z a0 hw [] b34 b25 (0 : Int32) mm cr ce  T34.heap n0 (Nat.le_trans Z0 K0_39.1) Arr_r Arr_e (by rw [hmm]; exact own_hs h9 Szr Hsr Sze Hse 0 (by decide))) hZ (hw _ (List.mem_of_getElem? (i := 17) rfl)) (hw _ (List.mem_of_getElem? (i := 4) rfl)) (by decide) (by decide)) (g := (mkF m 366 #[.val (.int p0), .val (.int p1), .val (.int p2), .val (.int p3), .val (.int p4), .val (.int (0 : Int32)), .val (.int c0), .val (.int c1), .val (.int c2), .val (.ref b1), .val (.ref b3), .val (.int d0), .val (.int d1), .val (.int d2), .val (.ref b25), .val (.int mm), .val (.int (1 : Int32)), .val (.ref b34), .val (.int (1 : Int32))] [(.int mm), (.int (0 : Int32)), (.ref b25), (.ref b34)])) rfl (by rw [hml]; rfl) (argsL := [(.ref b34), (.ref b25), (.int (0 : Int32)), (.int mm)]) (rest := []) (lenOf pd__28_5bB_5bBII_29Z rfl) rfl (by show 2 * 0 + _ ≤ _; exact Nat.le_of_eq rfl) (hb hby at_366) (fun _ _ => ⟨rfl, rfl, (by decide : 4 + 0 ≤ _), (by decide : 274 + 0 ≤ _)⟩)
      dsimp only [Pt.U, Pt.locs, Pt.cells, Pt.slots] at X38 l38 y38 z38 st38 hQ38
      subst l38 y38 z38
      obtain ⟨rfl, N38q, e38⟩ := hQ38
      obtain ⟨_, X38, N38⟩ := own_hide X38 (Fr.app N34 N38q)
      refine own_st st38 ?_
      show own_Go _ _ _ _ T38 (mkF m 369 #[.val (.int p0), .val (.int p1), .val (.int p2), .val (.int p3), .val (.int p4), .val (.int (0 : Int32)), .val (.int c0), .val (.int c1), .val (.int c2), .val (.ref b1), .val (.ref b3), .val (.int d0), .val (.int d1), .val (.int d2), .val (.ref b25), .val (.int mm), .val (.int (1 : Int32)), .val (.ref b34), .val (.int (1 : Int32))] [(.int (1 : Int32))])
      refine own_st (fun t k => XS.ifNo X38.here hx rfl (hb hby at_369) rfl ((if0 _ _).trans (feq (by decide : ¬ ((1 : Int32) = (0 : Int32)))).1) k) ?_
      show own_Go _ _ _ _ T38 (mkF m 372 #[.val (.int p0), .val (.int p1), .val (.int p2), .val (.int p3), .val (.int p4), .val (.int (0 : Int32)), .val (.int c0), .val (.int c1), .val (.int c2), .val (.ref b1), .val (.ref b3), .val (.int d0), .val (.int d1), .val (.int d2), .val (.ref b25), .val (.int mm), .val (.int (1 : Int32)), .val (.ref b34), .val (.int (1 : Int32))] [])
      refine own_st (fun t k => XS.aload X38.here hx rfl (hb hby at_372) rfl rfl k) ?_
      refine own_st (fun t k => XS.aload X38.here hx rfl (hb hby at_374) rfl rfl k) ?_
      refine own_st (fun t k => XS.iconst X38.here hx rfl (hb hby at_376) k) ?_
      refine own_st (fun t k => XS.iload X38.here hx rfl (hb hby at_377) rfl k) ?_
      show own_Go _ _ _ _ T38 (mkF m 379 #[.val (.int p0), .val (.int p1), .val (.int p2), .val (.int p3), .val (.int p4), .val (.int (0 : Int32)), .val (.int c0), .val (.int c1), .val (.int c2), .val (.ref b1), .val (.ref b3), .val (.int d0), .val (.int d1), .val (.int d2), .val (.ref b25), .val (.int mm), .val (.int (1 : Int32)), .val (.ref b34), .val (.int (1 : Int32))] [(.int mm), (.int (1 : Int32)), (.ref b25), (.ref b34)])
      obtain ⟨_, _, ⟨T40, L40, k40, n40⟩, -, X40, ⟨Lc40, hQ40, l40, y40, z40⟩, st40⟩ := Jvm.LawKit.callS X38 hx (y := (⟨"shelfmark/IriPatternPercentEncodedPinLaw", "same", "([B[BII)Z"⟩ : MethodName)) hown (mvT hZ (hw _ (List.mem_of_getElem? (i := 15) rfl))) (mvT hZ (hw _ (List.mem_of_getElem? (i := 16) rfl))) (mvT hZ (hw _ (List.mem_of_getElem? (i := 4) rfl))) (mvT hZ (hw _ (List.mem_of_getElem? (i := 17) rfl))) (by decide) (backOf (W := 0) (rm4 l Z a0 hw [] b34 b25 (1 : Int32) mm cr ce  T34.heap n0 (Nat.le_trans Z0 K0_39.1) Arr_r Arr_e (by rw [hmm]; exact own_hs h9 Szr Hsr Sze Hse 1 (by decide))) hZ (hw _ (List.mem_of_getElem? (i := 17) rfl)) (hw _ (List.mem_of_getElem? (i := 4) rfl)) (by decide) (by decide)) (g := (mkF m 379 #[.val (.int p0), .val (.int p1), .val (.int p2), .val (.int p3), .val (.int p4), .val (.int (0 : Int32)), .val (.int c0), .val (.int c1), .val (.int c2), .val (.ref b1), .val (.ref b3), .val (.int d0), .val (.int d1), .val (.int d2), .val (.ref b25), .val (.int mm), .val (.int (1 : Int32)), .val (.ref b34), .val (.int (1 : Int32))] [(.int mm), (.int (1 : Int32)), (.ref b25), (.ref b34)])) rfl (by rw [hml]; rfl) (argsL := [(.ref b34), (.ref b25), (.int (1 : Int32)), (.int mm)]) (rest := []) (lenOf pd__28_5bB_5bBII_29Z rfl) rfl (by show 2 * 0 + _ ≤ _; exact Nat.le_of_eq rfl) (hb hby at_379) (fun _ _ => ⟨rfl, e38, (by decide : 4 + 0 ≤ _), (by decide : 274 + 0 ≤ _)⟩)
      dsimp only [Pt.U, Pt.locs, Pt.cells, Pt.slots] at X40 l40 y40 z40 st40 hQ40
      subst l40 y40 z40
      obtain ⟨rfl, N40q, e40⟩ := hQ40
      obtain ⟨_, X40, N40⟩ := own_hide X40 (Fr.app N38 N40q)
      refine own_st st40 ?_
      show own_Go _ _ _ _ T40 (mkF m 382 #[.val (.int p0), .val (.int p1), .val (.int p2), .val (.int p3), .val (.int p4), .val (.int (0 : Int32)), .val (.int c0), .val (.int c1), .val (.int c2), .val (.ref b1), .val (.ref b3), .val (.int d0), .val (.int d1), .val (.int d2), .val (.ref b25), .val (.int mm), .val (.int (1 : Int32)), .val (.ref b34), .val (.int (1 : Int32))] [(.int (1 : Int32))])
      refine own_st (fun t k => XS.ifNo X40.here hx rfl (hb hby at_382) rfl ((if0 _ _).trans (feq (by decide : ¬ ((1 : Int32) = (0 : Int32)))).1) k) ?_
      show own_Go _ _ _ _ T40 (mkF m 385 #[.val (.int p0), .val (.int p1), .val (.int p2), .val (.int p3), .val (.int p4), .val (.int (0 : Int32)), .val (.int c0), .val (.int c1), .val (.int c2), .val (.ref b1), .val (.ref b3), .val (.int d0), .val (.int d1), .val (.int d2), .val (.ref b25), .val (.int mm), .val (.int (1 : Int32)), .val (.ref b34), .val (.int (1 : Int32))] [])
      refine own_st (fun t k => XS.aload X40.here hx rfl (hb hby at_385) rfl rfl k) ?_
      refine own_st (fun t k => XS.aload X40.here hx rfl (hb hby at_387) rfl rfl k) ?_
      refine own_st (fun t k => XS.iconst X40.here hx rfl (hb hby at_389) k) ?_
      refine own_st (fun t k => XS.iload X40.here hx rfl (hb hby at_390) rfl k) ?_
      show own_Go _ _ _ _ T40 (mkF m 392 #[.val (.int p0), .val (.int p1), .val (.int p2), .val (.int p3), .val (.int p4), .val (.int (0 : Int32)), .val (.int c0), .val (.int c1), .val (.int c2), .val (.ref b1), .val (.ref b3), .val (.int d0), .val (.int d1), .val (.int d2), .val (.ref b25), .val (.int mm), .val (.int (1 : Int32)), .val (.ref b34), .val (.int (1 : Int32))] [(.int mm), (.int (2 : Int32)), (.ref b25), (.ref b34)])
      obtain ⟨_, _, ⟨T41, L41, k41, n41⟩, -, X41, ⟨Lc41, hQ41, l41, y41, z41⟩, st41⟩ := Jvm.LawKit.callS X40 hx (y := (⟨"shelfmark/IriPatternPercentEncodedPinLaw", "same", "([B[BII)Z"⟩ : MethodName)) hown (mvT hZ (hw _ (List.mem_of_getElem? (i := 15) rfl))) (mvT hZ (hw _ (List.mem_of_getElem? (i := 16) rfl))) (mvT hZ (hw _ (List.mem_of_getElem? (i := 4) rfl))) (mvT hZ (hw _ (List.mem_of_getElem? (i := 17) rfl))) (by decide) (backOf (W := 0) (rm4 l Z a0 hw [] b34 b25 (2 : Int32) mm cr ce  T34.heap n0 (Nat.le_trans Z0 K0_39.1) Arr_r Arr_e (by rw [hmm]; exact own_hs h9 Szr Hsr Sze Hse 2 (by decide))) hZ (hw _ (List.mem_of_getElem? (i := 17) rfl)) (hw _ (List.mem_of_getElem? (i := 4) rfl)) (by decide) (by decide)) (g := (mkF m 392 #[.val (.int p0), .val (.int p1), .val (.int p2), .val (.int p3), .val (.int p4), .val (.int (0 : Int32)), .val (.int c0), .val (.int c1), .val (.int c2), .val (.ref b1), .val (.ref b3), .val (.int d0), .val (.int d1), .val (.int d2), .val (.ref b25), .val (.int mm), .val (.int (1 : Int32)), .val (.ref b34), .val (.int (1 : Int32))] [(.int mm), (.int (2 : Int32)), (.ref b25), (.ref b34)])) rfl (by rw [hml]; rfl) (argsL := [(.ref b34), (.ref b25), (.int (2 : Int32)), (.int mm)]) (rest := []) (lenOf pd__28_5bB_5bBII_29Z rfl) rfl (by show 2 * 0 + _ ≤ _; exact Nat.le_of_eq rfl) (hb hby at_392) (fun _ _ => ⟨rfl, e40, (by decide : 4 + 0 ≤ _), (by decide : 274 + 0 ≤ _)⟩)
      dsimp only [Pt.U, Pt.locs, Pt.cells, Pt.slots] at X41 l41 y41 z41 st41 hQ41
      subst l41 y41 z41
      obtain ⟨rfl, N41q, e41⟩ := hQ41
      obtain ⟨_, X41, N41⟩ := own_hide X41 (Fr.app N40 N41q)
      refine own_st st41 ?_
      show own_Go _ _ _ _ T41 (mkF m 395 #[.val (.int p0), .val (.int p1), .val (.int p2), .val (.int p3), .val (.int p4), .val (.int (0 : Int32)), .val (.int c0), .val (.int c1), .val (.int c2), .val (.ref b1), .val (.ref b3), .val (.int d0), .val (.int d1), .val (.int d2), .val (.ref b25), .val (.int mm), .val (.int (1 : Int32)), .val (.ref b34), .val (.int (1 : Int32))] [(.int (1 : Int32))])
      refine own_st (fun t k => XS.ifNo X41.here hx rfl (hb hby at_395) rfl ((if0 _ _).trans (feq (by decide : ¬ ((1 : Int32) = (0 : Int32)))).1) k) ?_
      show own_Go _ _ _ _ T41 (mkF m 398 #[.val (.int p0), .val (.int p1), .val (.int p2), .val (.int p3), .val (.int p4), .val (.int (0 : Int32)), .val (.int c0), .val (.int c1), .val (.int c2), .val (.ref b1), .val (.ref b3), .val (.int d0), .val (.int d1), .val (.int d2), .val (.ref b25), .val (.int mm), .val (.int (1 : Int32)), .val (.ref b34), .val (.int (1 : Int32))] [])
      refine own_st (fun t k => XS.aload X41.here hx rfl (hb hby at_398) rfl rfl k) ?_
      refine own_st (fun t k => XS.aload X41.here hx rfl (hb hby at_400) rfl rfl k) ?_
      refine own_st (fun t k => XS.iconst X41.here hx rfl (hb hby at_402) k) ?_
      refine own_st (fun t k => XS.iload X41.here hx rfl (hb hby at_403) rfl k) ?_
      show own_Go _ _ _ _ T41 (mkF m 405 #[.val (.int p0), .val (.int p1), .val (.int p2), .val (.int p3), .val (.int p4), .val (.int (0 : Int32)), .val (.int c0), .val (.int c1), .val (.int c2), .val (.ref b1), .val (.ref b3), .val (.int d0), .val (.int d1), .val (.int d2), .val (.ref b25), .val (.int mm), .val (.int (1 : Int32)), .val (.ref b34), .val (.int (1 : Int32))] [(.int mm), (.int (3 : Int32)), (.ref b25), (.ref b34)])
      obtain ⟨_, _, ⟨T42, L42, k42, n42⟩, -, X42, ⟨Lc42, hQ42, l42, y42, z42⟩, st42⟩ := Jvm.LawKit.callS X41 hx (y := (⟨"shelfmark/IriPatternPercentEncodedPinLaw", "same", "([B[BII)Z"⟩ : MethodName)) hown (mvT hZ (hw _ (List.mem_of_getElem? (i := 15) rfl))) (mvT hZ (hw _ (List.mem_of_getElem? (i := 16) rfl))) (mvT hZ (hw _ (List.mem_of_getElem? (i := 4) rfl))) (mvT hZ (hw _ (List.mem_of_getElem? (i := 17) rfl))) (by decide) (backOf (W := 0) (rm4 l Z a0 hw [] b34 b25 (3 : Int32) mm cr ce  T34.heap n0 (Nat.le_trans Z0 K0_39.1) Arr_r Arr_e (by rw [hmm]; exact own_hs h9 Szr Hsr Sze Hse 3 (by decide))) hZ (hw _ (List.mem_of_getElem? (i := 17) rfl)) (hw _ (List.mem_of_getElem? (i := 4) rfl)) (by decide) (by decide)) (g := (mkF m 405 #[.val (.int p0), .val (.int p1), .val (.int p2), .val (.int p3), .val (.int p4), .val (.int (0 : Int32)), .val (.int c0), .val (.int c1), .val (.int c2), .val (.ref b1), .val (.ref b3), .val (.int d0), .val (.int d1), .val (.int d2), .val (.ref b25), .val (.int mm), .val (.int (1 : Int32)), .val (.ref b34), .val (.int (1 : Int32))] [(.int mm), (.int (3 : Int32)), (.ref b25), (.ref b34)])) rfl (by rw [hml]; rfl) (argsL := [(.ref b34), (.ref b25), (.int (3 : Int32)), (.int mm)]) (rest := []) (lenOf pd__28_5bB_5bBII_29Z rfl) rfl (by show 2 * 0 + _ ≤ _; exact Nat.le_of_eq rfl) (hb hby at_405) (fun _ _ => ⟨rfl, e41, (by decide : 4 + 0 ≤ _), (by decide : 274 + 0 ≤ _)⟩)
      dsimp only [Pt.U, Pt.locs, Pt.cells, Pt.slots] at X42 l42 y42 z42 st42 hQ42
      subst l42 y42 z42
      obtain ⟨rfl, N42q, e42⟩ := hQ42
      obtain ⟨_, X42, N42⟩ := own_hide X42 (Fr.app N41 N42q)
      refine own_st st42 ?_
      show own_Go _ _ _ _ T42 (mkF m 408 #[.val (.int p0), .val (.int p1), .val (.int p2), .val (.int p3), .val (.int p4), .val (.int (0 : Int32)), .val (.int c0), .val (.int c1), .val (.int c2), .val (.ref b1), .val (.ref b3), .val (.int d0), .val (.int d1), .val (.int d2), .val (.ref b25), .val (.int mm), .val (.int (1 : Int32)), .val (.ref b34), .val (.int (1 : Int32))] [(.int (1 : Int32))])
      refine own_st (fun t k => XS.ifNo X42.here hx rfl (hb hby at_408) rfl ((if0 _ _).trans (feq (by decide : ¬ ((1 : Int32) = (0 : Int32)))).1) k) ?_
      show own_Go _ _ _ _ T42 (mkF m 411 #[.val (.int p0), .val (.int p1), .val (.int p2), .val (.int p3), .val (.int p4), .val (.int (0 : Int32)), .val (.int c0), .val (.int c1), .val (.int c2), .val (.ref b1), .val (.ref b3), .val (.int d0), .val (.int d1), .val (.int d2), .val (.ref b25), .val (.int mm), .val (.int (1 : Int32)), .val (.ref b34), .val (.int (1 : Int32))] [])
      refine own_st (fun t k => XS.aload X42.here hx rfl (hb hby at_411) rfl rfl k) ?_
      refine own_st (fun t k => XS.aload X42.here hx rfl (hb hby at_413) rfl rfl k) ?_
      refine own_st (fun t k => XS.iconst X42.here hx rfl (hb hby at_415) k) ?_
      refine own_st (fun t k => XS.iload X42.here hx rfl (hb hby at_416) rfl k) ?_
      show own_Go _ _ _ _ T42 (mkF m 418 #[.val (.int p0), .val (.int p1), .val (.int p2), .val (.int p3), .val (.int p4), .val (.int (0 : Int32)), .val (.int c0), .val (.int c1), .val (.int c2), .val (.ref b1), .val (.ref b3), .val (.int d0), .val (.int d1), .val (.int d2), .val (.ref b25), .val (.int mm), .val (.int (1 : Int32)), .val (.ref b34), .val (.int (1 : Int32))] [(.int mm), (.int (4 : Int32)), (.ref b25), (.ref b34)])
      obtain ⟨_, _, ⟨T43, L43, k43, n43⟩, -, X43, ⟨Lc43, hQ43, l43, y43, z43⟩, st43⟩ := Jvm.LawKit.callS X42 hx (y := (⟨"shelfmark/IriPatternPercentEncodedPinLaw", "same", "([B[BII)Z"⟩ : MethodName)) hown (mvT hZ (hw _ (List.mem_of_getElem? (i := 15) rfl))) (mvT hZ (hw _ (List.mem_of_getElem? (i := 16) rfl))) (mvT hZ (hw _ (List.mem_of_getElem? (i := 4) rfl))) (mvT hZ (hw _ (List.mem_of_getElem? (i := 17) rfl))) (by decide) (backOf (W := 0) (rm4 l Z a0 hw [] b34 b25 (4 : Int32) mm cr ce  T34.heap n0 (Nat.le_trans Z0 K0_39.1) Arr_r Arr_e (by rw [hmm]; exact own_hs h9 Szr Hsr Sze Hse 4 (by decide))) hZ (hw _ (List.mem_of_getElem? (i := 17) rfl)) (hw _ (List.mem_of_getElem? (i := 4) rfl)) (by decide) (by decide)) (g := (mkF m 418 #[.val (.int p0), .val (.int p1), .val (.int p2), .val (.int p3), .val (.int p4), .val (.int (0 : Int32)), .val (.int c0), .val (.int c1), .val (.int c2), .val (.ref b1), .val (.ref b3), .val (.int d0), .val (.int d1), .val (.int d2), .val (.ref b25), .val (.int mm), .val (.int (1 : Int32)), .val (.ref b34), .val (.int (1 : Int32))] [(.int mm), (.int (4 : Int32)), (.ref b25), (.ref b34)])) rfl (by rw [hml]; rfl) (argsL := [(.ref b34), (.ref b25), (.int (4 : Int32)), (.int mm)]) (rest := []) (lenOf pd__28_5bB_5bBII_29Z rfl) rfl (by show 2 * 0 + _ ≤ _; exact Nat.le_of_eq rfl) (hb hby at_418) (fun _ _ => ⟨rfl, e42, (by decide : 4 + 0 ≤ _), (by decide : 274 + 0 ≤ _)⟩)
      dsimp only [Pt.U, Pt.locs, Pt.cells, Pt.slots] at X43 l43 y43 z43 st43 hQ43
      subst l43 y43 z43
      obtain ⟨rfl, N43q, e43⟩ := hQ43
      obtain ⟨_, X43, N43⟩ := own_hide X43 (Fr.app N42 N43q)
      refine own_st st43 ?_
      show own_Go _ _ _ _ T43 (mkF m 421 #[.val (.int p0), .val (.int p1), .val (.int p2), .val (.int p3), .val (.int p4), .val (.int (0 : Int32)), .val (.int c0), .val (.int c1), .val (.int c2), .val (.ref b1), .val (.ref b3), .val (.int d0), .val (.int d1), .val (.int d2), .val (.ref b25), .val (.int mm), .val (.int (1 : Int32)), .val (.ref b34), .val (.int (1 : Int32))] [(.int (1 : Int32))])
      refine own_st (fun t k => XS.ifNo X43.here hx rfl (hb hby at_421) rfl ((if0 _ _).trans (feq (by decide : ¬ ((1 : Int32) = (0 : Int32)))).1) k) ?_
      show own_Go _ _ _ _ T43 (mkF m 424 #[.val (.int p0), .val (.int p1), .val (.int p2), .val (.int p3), .val (.int p4), .val (.int (0 : Int32)), .val (.int c0), .val (.int c1), .val (.int c2), .val (.ref b1), .val (.ref b3), .val (.int d0), .val (.int d1), .val (.int d2), .val (.ref b25), .val (.int mm), .val (.int (1 : Int32)), .val (.ref b34), .val (.int (1 : Int32))] [])
      refine own_st (fun t k => XS.aload X43.here hx rfl (hb hby at_424) rfl rfl k) ?_
      refine own_st (fun t k => XS.aload X43.here hx rfl (hb hby at_426) rfl rfl k) ?_
      refine own_st (fun t k => XS.iconst X43.here hx rfl (hb hby at_428) k) ?_
      refine own_st (fun t k => XS.iload X43.here hx rfl (hb hby at_429) rfl k) ?_
      show own_Go _ _ _ _ T43 (mkF m 431 #[.val (.int p0), .val (.int p1), .val (.int p2), .val (.int p3), .val (.int p4), .val (.int (0 : Int32)), .val (.int c0), .val (.int c1), .val (.int c2), .val (.ref b1), .val (.ref b3), .val (.int d0), .val (.int d1), .val (.int d2), .val (.ref b25), .val (.int mm), .val (.int (1 : Int32)), .val (.ref b34), .val (.int (1 : Int32))] [(.int mm), (.int (5 : Int32)), (.ref b25), (.ref b34)])
      obtain ⟨_, _, ⟨T44, L44, k44, n44⟩, -, X44, ⟨Lc44, hQ44, l44, y44, z44⟩, st44⟩ := Jvm.LawKit.callS X43 hx (y := (⟨"shelfmark/IriPatternPercentEncodedPinLaw", "same", "([B[BII)Z"⟩ : MethodName)) hown (mvT hZ (hw _ (List.mem_of_getElem? (i := 15) rfl))) (mvT hZ (hw _ (List.mem_of_getElem? (i := 16) rfl))) (mvT hZ (hw _ (List.mem_of_getElem? (i := 4) rfl))) (mvT hZ (hw _ (List.mem_of_getElem? (i := 17) rfl))) (by decide) (backOf (W := 0) (rm4 l Z a0 hw [] b34 b25 (5 : Int32) mm cr ce  T34.heap n0 (Nat.le_trans Z0 K0_39.1) Arr_r Arr_e (by rw [hmm]; exact own_hs h9 Szr Hsr Sze Hse 5 (by decide))) hZ (hw _ (List.mem_of_getElem? (i := 17) rfl)) (hw _ (List.mem_of_getElem? (i := 4) rfl)) (by decide) (by decide)) (g := (mkF m 431 #[.val (.int p0), .val (.int p1), .val (.int p2), .val (.int p3), .val (.int p4), .val (.int (0 : Int32)), .val (.int c0), .val (.int c1), .val (.int c2), .val (.ref b1), .val (.ref b3), .val (.int d0), .val (.int d1), .val (.int d2), .val (.ref b25), .val (.int mm), .val (.int (1 : Int32)), .val (.ref b34), .val (.int (1 : Int32))] [(.int mm), (.int (5 : Int32)), (.ref b25), (.ref b34)])) rfl (by rw [hml]; rfl) (argsL := [(.ref b34), (.ref b25), (.int (5 : Int32)), (.int mm)]) (rest := []) (lenOf pd__28_5bB_5bBII_29Z rfl) rfl (by show 2 * 0 + _ ≤ _; exact Nat.le_of_eq rfl) (hb hby at_431) (fun _ _ => ⟨rfl, e43, (by decide : 4 + 0 ≤ _), (by decide : 274 + 0 ≤ _)⟩)
      dsimp only [Pt.U, Pt.locs, Pt.cells, Pt.slots] at X44 l44 y44 z44 st44 hQ44
      subst l44 y44 z44
      obtain ⟨rfl, N44q, e44⟩ := hQ44
      obtain ⟨_, X44, N44⟩ := own_hide X44 (Fr.app N43 N44q)
      refine own_st st44 ?_
      show own_Go _ _ _ _ T44 (mkF m 434 #[.val (.int p0), .val (.int p1), .val (.int p2), .val (.int p3), .val (.int p4), .val (.int (0 : Int32)), .val (.int c0), .val (.int c1), .val (.int c2), .val (.ref b1), .val (.ref b3), .val (.int d0), .val (.int d1), .val (.int d2), .val (.ref b25), .val (.int mm), .val (.int (1 : Int32)), .val (.ref b34), .val (.int (1 : Int32))] [(.int (1 : Int32))])
      refine own_st (fun t k => XS.ifNo X44.here hx rfl (hb hby at_434) rfl ((if0 _ _).trans (feq (by decide : ¬ ((1 : Int32) = (0 : Int32)))).1) k) ?_
      show own_Go _ _ _ _ T44 (mkF m 437 #[.val (.int p0), .val (.int p1), .val (.int p2), .val (.int p3), .val (.int p4), .val (.int (0 : Int32)), .val (.int c0), .val (.int c1), .val (.int c2), .val (.ref b1), .val (.ref b3), .val (.int d0), .val (.int d1), .val (.int d2), .val (.ref b25), .val (.int mm), .val (.int (1 : Int32)), .val (.ref b34), .val (.int (1 : Int32))] [])
      refine own_st (fun t k => XS.aload X44.here hx rfl (hb hby at_437) rfl rfl k) ?_
      refine own_st (fun t k => XS.aload X44.here hx rfl (hb hby at_439) rfl rfl k) ?_
      refine own_st (fun t k => XS.bipush X44.here hx rfl (hb hby at_441) k) ?_
      refine own_st (fun t k => XS.iload X44.here hx rfl (hb hby at_443) rfl k) ?_
      show own_Go _ _ _ _ T44 (mkF m 445 #[.val (.int p0), .val (.int p1), .val (.int p2), .val (.int p3), .val (.int p4), .val (.int (0 : Int32)), .val (.int c0), .val (.int c1), .val (.int c2), .val (.ref b1), .val (.ref b3), .val (.int d0), .val (.int d1), .val (.int d2), .val (.ref b25), .val (.int mm), .val (.int (1 : Int32)), .val (.ref b34), .val (.int (1 : Int32))] [(.int mm), (.int (6 : Int32)), (.ref b25), (.ref b34)])
      obtain ⟨_, _, ⟨T45, L45, k45, n45⟩, -, X45, ⟨Lc45, hQ45, l45, y45, z45⟩, st45⟩ := Jvm.LawKit.callS X44 hx (y := (⟨"shelfmark/IriPatternPercentEncodedPinLaw", "same", "([B[BII)Z"⟩ : MethodName)) hown (mvT hZ (hw _ (List.mem_of_getElem? (i := 15) rfl))) (mvT hZ (hw _ (List.mem_of_getElem? (i := 16) rfl))) (mvT hZ (hw _ (List.mem_of_getElem? (i := 4) rfl))) (mvT hZ (hw _ (List.mem_of_getElem? (i := 17) rfl))) (by decide) (backOf (W := 0) (rm4 l Z a0 hw [] b34 b25 (6 : Int32) mm cr ce  T34.heap n0 (Nat.le_trans Z0 K0_39.1) Arr_r Arr_e (by rw [hmm]; exact own_hs h9 Szr Hsr Sze Hse 6 (by decide))) hZ (hw _ (List.mem_of_getElem? (i := 17) rfl)) (hw _ (List.mem_of_getElem? (i := 4) rfl)) (by decide) (by decide)) (g := (mkF m 445 #[.val (.int p0), .val (.int p1), .val (.int p2), .val (.int p3), .val (.int p4), .val (.int (0 : Int32)), .val (.int c0), .val (.int c1), .val (.int c2), .val (.ref b1), .val (.ref b3), .val (.int d0), .val (.int d1), .val (.int d2), .val (.ref b25), .val (.int mm), .val (.int (1 : Int32)), .val (.ref b34), .val (.int (1 : Int32))] [(.int mm), (.int (6 : Int32)), (.ref b25), (.ref b34)])) rfl (by rw [hml]; rfl) (argsL := [(.ref b34), (.ref b25), (.int (6 : Int32)), (.int mm)]) (rest := []) (lenOf pd__28_5bB_5bBII_29Z rfl) rfl (by show 2 * 0 + _ ≤ _; exact Nat.le_of_eq rfl) (hb hby at_445) (fun _ _ => ⟨rfl, e44, (by decide : 4 + 0 ≤ _), (by decide : 274 + 0 ≤ _)⟩)
      dsimp only [Pt.U, Pt.locs, Pt.cells, Pt.slots] at X45 l45 y45 z45 st45 hQ45
      subst l45 y45 z45
      obtain ⟨rfl, N45q, e45⟩ := hQ45
      obtain ⟨_, X45, N45⟩ := own_hide X45 (Fr.app N44 N45q)
      refine own_st st45 ?_
      show own_Go _ _ _ _ T45 (mkF m 448 #[.val (.int p0), .val (.int p1), .val (.int p2), .val (.int p3), .val (.int p4), .val (.int (0 : Int32)), .val (.int c0), .val (.int c1), .val (.int c2), .val (.ref b1), .val (.ref b3), .val (.int d0), .val (.int d1), .val (.int d2), .val (.ref b25), .val (.int mm), .val (.int (1 : Int32)), .val (.ref b34), .val (.int (1 : Int32))] [(.int (1 : Int32))])
      refine own_st (fun t k => XS.ifNo X45.here hx rfl (hb hby at_448) rfl ((if0 _ _).trans (feq (by decide : ¬ ((1 : Int32) = (0 : Int32)))).1) k) ?_
      show own_Go _ _ _ _ T45 (mkF m 451 #[.val (.int p0), .val (.int p1), .val (.int p2), .val (.int p3), .val (.int p4), .val (.int (0 : Int32)), .val (.int c0), .val (.int c1), .val (.int c2), .val (.ref b1), .val (.ref b3), .val (.int d0), .val (.int d1), .val (.int d2), .val (.ref b25), .val (.int mm), .val (.int (1 : Int32)), .val (.ref b34), .val (.int (1 : Int32))] [])
      refine own_st (fun t k => XS.aload X45.here hx rfl (hb hby at_451) rfl rfl k) ?_
      refine own_st (fun t k => XS.aload X45.here hx rfl (hb hby at_453) rfl rfl k) ?_
      refine own_st (fun t k => XS.bipush X45.here hx rfl (hb hby at_455) k) ?_
      refine own_st (fun t k => XS.iload X45.here hx rfl (hb hby at_457) rfl k) ?_
      show own_Go _ _ _ _ T45 (mkF m 459 #[.val (.int p0), .val (.int p1), .val (.int p2), .val (.int p3), .val (.int p4), .val (.int (0 : Int32)), .val (.int c0), .val (.int c1), .val (.int c2), .val (.ref b1), .val (.ref b3), .val (.int d0), .val (.int d1), .val (.int d2), .val (.ref b25), .val (.int mm), .val (.int (1 : Int32)), .val (.ref b34), .val (.int (1 : Int32))] [(.int mm), (.int (7 : Int32)), (.ref b25), (.ref b34)])
      obtain ⟨_, _, ⟨T46, L46, k46, n46⟩, -, X46, ⟨Lc46, hQ46, l46, y46, z46⟩, st46⟩ := Jvm.LawKit.callS X45 hx (y := (⟨"shelfmark/IriPatternPercentEncodedPinLaw", "same", "([B[BII)Z"⟩ : MethodName)) hown (mvT hZ (hw _ (List.mem_of_getElem? (i := 15) rfl))) (mvT hZ (hw _ (List.mem_of_getElem? (i := 16) rfl))) (mvT hZ (hw _ (List.mem_of_getElem? (i := 4) rfl))) (mvT hZ (hw _ (List.mem_of_getElem? (i := 17) rfl))) (by decide) (backOf (W := 0) (rm4 l Z a0 hw [] b34 b25 (7 : Int32) mm cr ce  T34.heap n0 (Nat.le_trans Z0 K0_39.1) Arr_r Arr_e (by rw [hmm]; exact own_hs h9 Szr Hsr Sze Hse 7 (by decide))) hZ (hw _ (List.mem_of_getElem? (i := 17) rfl)) (hw _ (List.mem_of_getElem? (i := 4) rfl)) (by decide) (by decide)) (g := (mkF m 459 #[.val (.int p0), .val (.int p1), .val (.int p2), .val (.int p3), .val (.int p4), .val (.int (0 : Int32)), .val (.int c0), .val (.int c1), .val (.int c2), .val (.ref b1), .val (.ref b3), .val (.int d0), .val (.int d1), .val (.int d2), .val (.ref b25), .val (.int mm), .val (.int (1 : Int32)), .val (.ref b34), .val (.int (1 : Int32))] [(.int mm), (.int (7 : Int32)), (.ref b25), (.ref b34)])) rfl (by rw [hml]; rfl) (argsL := [(.ref b34), (.ref b25), (.int (7 : Int32)), (.int mm)]) (rest := []) (lenOf pd__28_5bB_5bBII_29Z rfl) rfl (by show 2 * 0 + _ ≤ _; exact Nat.le_of_eq rfl) (hb hby at_459) (fun _ _ => ⟨rfl, e45, (by decide : 4 + 0 ≤ _), (by decide : 274 + 0 ≤ _)⟩)
      dsimp only [Pt.U, Pt.locs, Pt.cells, Pt.slots] at X46 l46 y46 z46 st46 hQ46
      subst l46 y46 z46
      obtain ⟨rfl, N46q, e46⟩ := hQ46
      obtain ⟨_, X46, N46⟩ := own_hide X46 (Fr.app N45 N46q)
      refine own_st st46 ?_
      show own_Go _ _ _ _ T46 (mkF m 462 #[.val (.int p0), .val (.int p1), .val (.int p2), .val (.int p3), .val (.int p4), .val (.int (0 : Int32)), .val (.int c0), .val (.int c1), .val (.int c2), .val (.ref b1), .val (.ref b3), .val (.int d0), .val (.int d1), .val (.int d2), .val (.ref b25), .val (.int mm), .val (.int (1 : Int32)), .val (.ref b34), .val (.int (1 : Int32))] [(.int (1 : Int32))])
      refine own_st (fun t k => XS.ifNo X46.here hx rfl (hb hby at_462) rfl ((if0 _ _).trans (feq (by decide : ¬ ((1 : Int32) = (0 : Int32)))).1) k) ?_
      show own_Go _ _ _ _ T46 (mkF m 465 #[.val (.int p0), .val (.int p1), .val (.int p2), .val (.int p3), .val (.int p4), .val (.int (0 : Int32)), .val (.int c0), .val (.int c1), .val (.int c2), .val (.ref b1), .val (.ref b3), .val (.int d0), .val (.int d1), .val (.int d2), .val (.ref b25), .val (.int mm), .val (.int (1 : Int32)), .val (.ref b34), .val (.int (1 : Int32))] [])
      refine own_st (fun t k => XS.aload X46.here hx rfl (hb hby at_465) rfl rfl k) ?_
      refine own_st (fun t k => XS.aload X46.here hx rfl (hb hby at_467) rfl rfl k) ?_
      refine own_st (fun t k => XS.bipush X46.here hx rfl (hb hby at_469) k) ?_
      refine own_st (fun t k => XS.iload X46.here hx rfl (hb hby at_471) rfl k) ?_
      show own_Go _ _ _ _ T46 (mkF m 473 #[.val (.int p0), .val (.int p1), .val (.int p2), .val (.int p3), .val (.int p4), .val (.int (0 : Int32)), .val (.int c0), .val (.int c1), .val (.int c2), .val (.ref b1), .val (.ref b3), .val (.int d0), .val (.int d1), .val (.int d2), .val (.ref b25), .val (.int mm), .val (.int (1 : Int32)), .val (.ref b34), .val (.int (1 : Int32))] [(.int mm), (.int (8 : Int32)), (.ref b25), (.ref b34)])
      obtain ⟨_, _, ⟨T47, L47, k47, n47⟩, -, X47, ⟨Lc47, hQ47, l47, y47, z47⟩, st47⟩ := Jvm.LawKit.callS X46 hx (y := (⟨"shelfmark/IriPatternPercentEncodedPinLaw", "same", "([B[BII)Z"⟩ : MethodName)) hown (mvT hZ (hw _ (List.mem_of_getElem? (i := 15) rfl))) (mvT hZ (hw _ (List.mem_of_getElem? (i := 16) rfl))) (mvT hZ (hw _ (List.mem_of_getElem? (i := 4) rfl))) (mvT hZ (hw _ (List.mem_of_getElem? (i := 17) rfl))) (by decide) (backOf (W := 0) (rm4 l Z a0 hw [] b34 b25 (8 : Int32) mm cr ce  T34.heap n0 (Nat.le_trans Z0 K0_39.1) Arr_r Arr_e (by rw [hmm]; exact own_hs h9 Szr Hsr Sze Hse 8 (by decide))) hZ (hw _ (List.mem_of_getElem? (i := 17) rfl)) (hw _ (List.mem_of_getElem? (i := 4) rfl)) (by decide) (by decide)) (g := (mkF m 473 #[.val (.int p0), .val (.int p1), .val (.int p2), .val (.int p3), .val (.int p4), .val (.int (0 : Int32)), .val (.int c0), .val (.int c1), .val (.int c2), .val (.ref b1), .val (.ref b3), .val (.int d0), .val (.int d1), .val (.int d2), .val (.ref b25), .val (.int mm), .val (.int (1 : Int32)), .val (.ref b34), .val (.int (1 : Int32))] [(.int mm), (.int (8 : Int32)), (.ref b25), (.ref b34)])) rfl (by rw [hml]; rfl) (argsL := [(.ref b34), (.ref b25), (.int (8 : Int32)), (.int mm)]) (rest := []) (lenOf pd__28_5bB_5bBII_29Z rfl) rfl (by show 2 * 0 + _ ≤ _; exact Nat.le_of_eq rfl) (hb hby at_473) (fun _ _ => ⟨rfl, e46, (by decide : 4 + 0 ≤ _), (by decide : 274 + 0 ≤ _)⟩)
      dsimp only [Pt.U, Pt.locs, Pt.cells, Pt.slots] at X47 l47 y47 z47 st47 hQ47
      subst l47 y47 z47
      obtain ⟨rfl, N47q, e47⟩ := hQ47
      obtain ⟨_, X47, N47⟩ := own_hide X47 (Fr.app N46 N47q)
      refine own_st st47 ?_
      show own_Go _ _ _ _ T47 (mkF m 476 #[.val (.int p0), .val (.int p1), .val (.int p2), .val (.int p3), .val (.int p4), .val (.int (0 : Int32)), .val (.int c0), .val (.int c1), .val (.int c2), .val (.ref b1), .val (.ref b3), .val (.int d0), .val (.int d1), .val (.int d2), .val (.ref b25), .val (.int mm), .val (.int (1 : Int32)), .val (.ref b34), .val (.int (1 : Int32))] [(.int (1 : Int32))])
      refine own_st (fun t k => XS.ifNo X47.here hx rfl (hb hby at_476) rfl ((if0 _ _).trans (feq (by decide : ¬ ((1 : Int32) = (0 : Int32)))).1) k) ?_
      show own_Go _ _ _ _ T47 (mkF m 479 #[.val (.int p0), .val (.int p1), .val (.int p2), .val (.int p3), .val (.int p4), .val (.int (0 : Int32)), .val (.int c0), .val (.int c1), .val (.int c2), .val (.ref b1), .val (.ref b3), .val (.int d0), .val (.int d1), .val (.int d2), .val (.ref b25), .val (.int mm), .val (.int (1 : Int32)), .val (.ref b34), .val (.int (1 : Int32))] [])
      refine own_st (fun t k => XS.iconst X47.here hx rfl (hb hby at_479) k) ?_
      refine own_st (fun t k => XS.goto X47.here hx rfl (pc0 := 480) (pc' := 484) rfl (hb hby at_480) (by decide) (by decide) k) ?_
      show own_Go _ _ _ _ T47 (mkF m 484 #[.val (.int p0), .val (.int p1), .val (.int p2), .val (.int p3), .val (.int p4), .val (.int (0 : Int32)), .val (.int c0), .val (.int c1), .val (.int c2), .val (.ref b1), .val (.ref b3), .val (.int d0), .val (.int d1), .val (.int d2), .val (.ref b25), .val (.int mm), .val (.int (1 : Int32)), .val (.ref b34), .val (.int (1 : Int32))] [(.int (1 : Int32))])
      exact own_retN X47 hx hlk (t := .boolean) hrt (by simp) (hb hby at_484) ⟨rfl, N47⟩ (by decide) (by decide)
    ·
      refine own_st (fun t k => XS.icmpYes X25.here hx rfl (pc0 := 254) (pc' := 261) rfl (hb hby at_254) rfl (feq c254_29).2 (by decide) (by decide) k) ?_
      show own_Go _ _ _ _ T25 (mkF m 261 #[.val (.int p0), .val (.int p1), .val (.int p2), .val (.int p3), .val (.int p4), .val (.int (0 : Int32)), .val (.int c0), .val (.int c1), .val (.int c2), .val (.ref b1), .val (.ref b3), .val (.int d0), .val (.int d1), .val (.int d2), .val (.ref b25), .val (.int mm), .unset, .unset, .unset] [])
      refine own_st (fun t k => XS.iconst X25.here hx rfl (hb hby at_261) k) ?_
      refine own_st (fun t k => XS.istore X25.here hx rfl (hb hby at_262) rfl (l' := #[.val (.int p0), .val (.int p1), .val (.int p2), .val (.int p3), .val (.int p4), .val (.int (0 : Int32)), .val (.int c0), .val (.int c1), .val (.int c2), .val (.ref b1), .val (.ref b3), .val (.int d0), .val (.int d1), .val (.int d2), .val (.ref b25), .val (.int mm), .val (.int (0 : Int32)), .unset, .unset]) rfl k) ?_
      show own_Go _ _ _ _ T25 (mkF m 264 #[.val (.int p0), .val (.int p1), .val (.int p2), .val (.int p3), .val (.int p4), .val (.int (0 : Int32)), .val (.int c0), .val (.int c1), .val (.int c2), .val (.ref b1), .val (.ref b3), .val (.int d0), .val (.int d1), .val (.int d2), .val (.ref b25), .val (.int mm), .val (.int (0 : Int32)), .unset, .unset] [])
      refine own_st (fun t k => XS.aload X25.here hx rfl (hb hby at_264) rfl rfl k) ?_
      refine own_st (fun t k => XS.aload X25.here hx rfl (hb hby at_266) rfl rfl k) ?_
      show own_Go _ _ _ _ T25 (mkF m 268 #[.val (.int p0), .val (.int p1), .val (.int p2), .val (.int p3), .val (.int p4), .val (.int (0 : Int32)), .val (.int c0), .val (.int c1), .val (.int c2), .val (.ref b1), .val (.ref b3), .val (.int d0), .val (.int d1), .val (.int d2), .val (.ref b25), .val (.int mm), .val (.int (0 : Int32)), .unset, .unset] [(.ref b3), (.ref b1)])
      have V1_48 := (V1_27.ext E25)
      have Ark_49 := (Tk.1.ext E25)
      have Sh_50 := (((((((S_H.ext E1).ext E3).wr W8).wr W12).wr W16).wr W20).ext E25)
      have Arh_51 := (Arh_26.ext E25)
      have K0_53 := (K0_24.ext E25)
      obtain ⟨_, _, ⟨T52, L52, k52, n52⟩, -, X52, ⟨Lc52, hQ52, l52, y52, z52⟩, st52⟩ := Jvm.LawKit.callS X25 hx (y := (⟨"shelfmark/IriPattern", "percentEncoded", "([B[Z)[B"⟩ : MethodName)) hown (mvT hZ (hw _ (List.mem_of_getElem? (i := 9) rfl))) (mvT hZ (hw _ (List.mem_of_getElem? (i := 10) rfl))) (mvT hZ (hw _ (List.mem_of_getElem? (i := 11) rfl))) (mvT hZ (hw _ (List.mem_of_getElem? (i := 12) rfl))) (by decide) (backOf (W := 0) (rm3 l Z a0 hw [] b1 b3 k1 [] ck ra ch  h25 n0 (Nat.le_trans Z0 K0_53.1) V1_48 (Nat.le_of_ble_eq_true rfl) (fun b hb => nomatch hb) ⟨Ark_49, Tk.2⟩ Sh_50 Arh_51 hH) hZ (hw _ (List.mem_of_getElem? (i := 12) rfl)) (hw _ (List.mem_of_getElem? (i := 11) rfl)) (by decide) (by decide)) (g := (mkF m 268 #[.val (.int p0), .val (.int p1), .val (.int p2), .val (.int p3), .val (.int p4), .val (.int (0 : Int32)), .val (.int c0), .val (.int c1), .val (.int c2), .val (.ref b1), .val (.ref b3), .val (.int d0), .val (.int d1), .val (.int d2), .val (.ref b25), .val (.int mm), .val (.int (0 : Int32)), .unset, .unset] [(.ref b3), (.ref b1)])) rfl (by rw [hml]; rfl) (argsL := [(.ref b1), (.ref b3)]) (rest := []) (lenOf pd__28_5bB_5bZ_29_5bB rfl) rfl (by show 2 * 0 + _ ≤ _; exact Nat.le_of_eq rfl) (hb hby at_268) (fun _ _ => ⟨rfl, e25, (by decide : 3 + 1 ≤ _), (by decide : 265 + 9 ≤ _)⟩)
      dsimp only [Pt.U, Pt.locs, Pt.cells, Pt.slots] at X52 l52 y52 z52 st52 hQ52
      subst l52 y52 z52
      obtain ⟨b52, k52, rfl, N52q, K52, hbu, V52⟩ := hQ52
      obtain ⟨_, X52, N52⟩ := own_hide X52 (Fr.app N20 N52q)
      refine own_st st52 ?_
      show own_Go _ _ _ _ T52 (mkF m 271 #[.val (.int p0), .val (.int p1), .val (.int p2), .val (.int p3), .val (.int p4), .val (.int (0 : Int32)), .val (.int c0), .val (.int c1), .val (.int c2), .val (.ref b1), .val (.ref b3), .val (.int d0), .val (.int d1), .val (.int d2), .val (.ref b25), .val (.int mm), .val (.int (0 : Int32)), .unset, .unset] [(.ref b52)])
      refine own_st (fun t k => XS.astore X52.here hx rfl (hb hby at_271) rfl rfl (l' := #[.val (.int p0), .val (.int p1), .val (.int p2), .val (.int p3), .val (.int p4), .val (.int (0 : Int32)), .val (.int c0), .val (.int c1), .val (.int c2), .val (.ref b1), .val (.ref b3), .val (.int d0), .val (.int d1), .val (.int d2), .val (.ref b25), .val (.int mm), .val (.int (0 : Int32)), .val (.ref b52), .unset]) rfl k) ?_
      show own_Go _ _ _ _ T52 (mkF m 273 #[.val (.int p0), .val (.int p1), .val (.int p2), .val (.int p3), .val (.int p4), .val (.int (0 : Int32)), .val (.int c0), .val (.int c1), .val (.int c2), .val (.ref b1), .val (.ref b3), .val (.int d0), .val (.int d1), .val (.int d2), .val (.ref b25), .val (.int mm), .val (.int (0 : Int32)), .val (.ref b52), .unset] [])
      refine own_st (fun t k => XS.aload X52.here hx rfl (hb hby at_273) rfl rfl k) ?_
      show own_Go _ _ _ _ T52 (mkF m 275 #[.val (.int p0), .val (.int p1), .val (.int p2), .val (.int p3), .val (.int p4), .val (.int (0 : Int32)), .val (.int c0), .val (.int c1), .val (.int c2), .val (.ref b1), .val (.ref b3), .val (.int d0), .val (.int d1), .val (.int d2), .val (.ref b25), .val (.int mm), .val (.int (0 : Int32)), .val (.ref b52), .unset] [(.ref b52)])
      refine own_st (fun t k => XS.ifnullNo X52.here hx rfl (hb hby at_275) rfl k) ?_
      show own_Go _ _ _ _ T52 (mkF m 278 #[.val (.int p0), .val (.int p1), .val (.int p2), .val (.int p3), .val (.int p4), .val (.int (0 : Int32)), .val (.int c0), .val (.int c1), .val (.int c2), .val (.ref b1), .val (.ref b3), .val (.int d0), .val (.int d1), .val (.int d2), .val (.ref b25), .val (.int mm), .val (.int (0 : Int32)), .val (.ref b52), .unset] [])
      refine own_st (fun t k => XS.aload X52.here hx rfl (hb hby at_278) rfl rfl k) ?_
      show own_Go _ _ _ _ T52 (mkF m 280 #[.val (.int p0), .val (.int p1), .val (.int p2), .val (.int p3), .val (.int p4), .val (.int (0 : Int32)), .val (.int c0), .val (.int c1), .val (.int c2), .val (.ref b1), .val (.ref b3), .val (.int d0), .val (.int d1), .val (.int d2), .val (.ref b25), .val (.int mm), .val (.int (0 : Int32)), .val (.ref b52), .unset] [(.ref b52)])
      obtain ⟨cl54, Ar54, qk54, Sz54, Nn54, Hs54, Gf54⟩ := id V52
      refine own_st (X52.arraylength hx (id Ar54.1) (State.isArrayOf_alike hZ.alike Ar54.2.1) (g := (mkF m 280 #[.val (.int p0), .val (.int p1), .val (.int p2), .val (.int p3), .val (.int p4), .val (.int (0 : Int32)), .val (.int c0), .val (.int c1), .val (.int c2), .val (.ref b1), .val (.ref b3), .val (.int d0), .val (.int d1), .val (.int d2), .val (.ref b25), .val (.int mm), .val (.int (0 : Int32)), .val (.ref b52), .unset] [(.ref b52)])) rfl rfl (hb hby at_280)) ?_
      rw [len_of Sz54 Nn54]
      show own_Go _ _ _ _ T52 (mkF m 281 #[.val (.int p0), .val (.int p1), .val (.int p2), .val (.int p3), .val (.int p4), .val (.int (0 : Int32)), .val (.int c0), .val (.int c1), .val (.int c2), .val (.ref b1), .val (.ref b3), .val (.int d0), .val (.int d1), .val (.int d2), .val (.ref b25), .val (.int mm), .val (.int (0 : Int32)), .val (.ref b52), .unset] [(.int (Int32.ofNat (own_flat (own_kf ck) []).length))])
      refine own_st (fun t k => XS.iload X52.here hx rfl (hb hby at_281) rfl k) ?_
      refine own_st (fun t k => XS.icmpYes X52.here hx rfl (pc0 := 283) (pc' := 288) rfl (hb hby at_283) rfl (teq hmm.symm).1 (by decide) (by decide) k) ?_
      show own_Go _ _ _ _ T52 (mkF m 288 #[.val (.int p0), .val (.int p1), .val (.int p2), .val (.int p3), .val (.int p4), .val (.int (0 : Int32)), .val (.int c0), .val (.int c1), .val (.int c2), .val (.ref b1), .val (.ref b3), .val (.int d0), .val (.int d1), .val (.int d2), .val (.ref b25), .val (.int mm), .val (.int (0 : Int32)), .val (.ref b52), .unset] [])
      refine own_st (fun t k => XS.iload X52.here hx rfl (hb hby at_288) rfl k) ?_
      refine own_st (fun t k => XS.ifYes X52.here hx rfl (pc0 := 290) (pc' := 302) rfl (hb hby at_290) rfl ((if0 _ _).trans (teq (by decide : (0 : Int32) = (0 : Int32))).1) (by decide) (by decide) k) ?_
      show own_Go _ _ _ _ T52 (mkF m 302 #[.val (.int p0), .val (.int p1), .val (.int p2), .val (.int p3), .val (.int p4), .val (.int (0 : Int32)), .val (.int c0), .val (.int c1), .val (.int c2), .val (.ref b1), .val (.ref b3), .val (.int d0), .val (.int d1), .val (.int d2), .val (.ref b25), .val (.int mm), .val (.int (0 : Int32)), .val (.ref b52), .unset] [])
      refine own_st (fun t k => XS.iload X52.here hx rfl (hb hby at_302) rfl k) ?_
      refine own_st (fun t k => XS.iconst X52.here hx rfl (hb hby at_304) k) ?_
      refine own_st (fun t k => XS.icmpYes X52.here hx rfl (pc0 := 305) (pc' := 317) rfl (hb hby at_305) rfl (tlt (by decide : (0 : Int32) < (1 : Int32))).1 (by decide) (by decide) k) ?_
      show own_Go _ _ _ _ T52 (mkF m 317 #[.val (.int p0), .val (.int p1), .val (.int p2), .val (.int p3), .val (.int p4), .val (.int (0 : Int32)), .val (.int c0), .val (.int c1), .val (.int c2), .val (.ref b1), .val (.ref b3), .val (.int d0), .val (.int d1), .val (.int d2), .val (.ref b25), .val (.int mm), .val (.int (0 : Int32)), .val (.ref b52), .unset] [])
      refine own_st (fun t k => XS.iload X52.here hx rfl (hb hby at_317) rfl k) ?_
      refine own_st (fun t k => XS.iconst X52.here hx rfl (hb hby at_319) k) ?_
      refine own_st (fun t k => XS.icmpYes X52.here hx rfl (pc0 := 320) (pc' := 332) rfl (hb hby at_320) rfl (tlt (by decide : (0 : Int32) < (2 : Int32))).1 (by decide) (by decide) k) ?_
      show own_Go _ _ _ _ T52 (mkF m 332 #[.val (.int p0), .val (.int p1), .val (.int p2), .val (.int p3), .val (.int p4), .val (.int (0 : Int32)), .val (.int c0), .val (.int c1), .val (.int c2), .val (.ref b1), .val (.ref b3), .val (.int d0), .val (.int d1), .val (.int d2), .val (.ref b25), .val (.int mm), .val (.int (0 : Int32)), .val (.ref b52), .unset] [])
      refine own_st (fun t k => XS.iload X52.here hx rfl (hb hby at_332) rfl k) ?_
      refine own_st (fun t k => XS.iconst X52.here hx rfl (hb hby at_334) k) ?_
      refine own_st (fun t k => XS.icmpYes X52.here hx rfl (pc0 := 335) (pc' := 347) rfl (hb hby at_335) rfl (tlt (by decide : (0 : Int32) < (3 : Int32))).1 (by decide) (by decide) k) ?_
      show own_Go _ _ _ _ T52 (mkF m 347 #[.val (.int p0), .val (.int p1), .val (.int p2), .val (.int p3), .val (.int p4), .val (.int (0 : Int32)), .val (.int c0), .val (.int c1), .val (.int c2), .val (.ref b1), .val (.ref b3), .val (.int d0), .val (.int d1), .val (.int d2), .val (.ref b25), .val (.int mm), .val (.int (0 : Int32)), .val (.ref b52), .unset] [])
      refine own_st (fun t k => XS.iconst X52.here hx rfl (hb hby at_347) k) ?_
      refine own_st (fun t k => XS.goto X52.here hx rfl (pc0 := 348) (pc' := 352) rfl (hb hby at_348) (by decide) (by decide) k) ?_
      show own_Go _ _ _ _ T52 (mkF m 352 #[.val (.int p0), .val (.int p1), .val (.int p2), .val (.int p3), .val (.int p4), .val (.int (0 : Int32)), .val (.int c0), .val (.int c1), .val (.int c2), .val (.ref b1), .val (.ref b3), .val (.int d0), .val (.int d1), .val (.int d2), .val (.ref b25), .val (.int mm), .val (.int (0 : Int32)), .val (.ref b52), .unset] [(.int (1 : Int32))])
      refine own_st (fun t k => XS.istore X52.here hx rfl (hb hby at_352) rfl (l' := #[.val (.int p0), .val (.int p1), .val (.int p2), .val (.int p3), .val (.int p4), .val (.int (0 : Int32)), .val (.int c0), .val (.int c1), .val (.int c2), .val (.ref b1), .val (.ref b3), .val (.int d0), .val (.int d1), .val (.int d2), .val (.ref b25), .val (.int mm), .val (.int (0 : Int32)), .val (.ref b52), .val (.int (1 : Int32))]) rfl k) ?_
      show own_Go _ _ _ _ T52 (mkF m 354 #[.val (.int p0), .val (.int p1), .val (.int p2), .val (.int p3), .val (.int p4), .val (.int (0 : Int32)), .val (.int c0), .val (.int c1), .val (.int c2), .val (.ref b1), .val (.ref b3), .val (.int d0), .val (.int d1), .val (.int d2), .val (.ref b25), .val (.int mm), .val (.int (0 : Int32)), .val (.ref b52), .val (.int (1 : Int32))] [])
      obtain ⟨cr, Arr_r, -, Szr, -, Hsr, -⟩ := id V52
      have Vx_55 := (Vx.keep K52 nin0)
      obtain ⟨ce, Arr_e, -, Sze, -, Hse, -⟩ := id Vx_55
      have h9 := own_flat9 (own_kf ck) (bs := []) (Nat.le_of_ble_eq_true rfl)
      refine own_st (fun t k => XS.iload X52.here hx rfl (hb hby at_354) rfl k) ?_
      refine own_st (fun t k => XS.ifNo X52.here hx rfl (hb hby at_356) rfl ((if0 _ _).trans (feq (by decide : ¬ ((1 : Int32) = (0 : Int32)))).1) k) ?_
      show own_Go _ _ _ _ T52 (mkF m 359 #[.val (.int p0), .val (.int p1), .val (.int p2), .val (.int p3), .val (.int p4), .val (.int (0 : Int32)), .val (.int c0), .val (.int c1), .val (.int c2), .val (.ref b1), .val (.ref b3), .val (.int d0), .val (.int d1), .val (.int d2), .val (.ref b25), .val (.int mm), .val (.int (0 : Int32)), .val (.ref b52), .val (.int (1 : Int32))] [])
      refine own_st (fun t k => XS.aload X52.here hx rfl (hb hby at_359) rfl rfl k) ?_
      refine own_st (fun t k => XS.aload X52.here hx rfl (hb hby at_361) rfl rfl k) ?_
      refine own_st (fun t k => XS.iconst X52.here hx rfl (hb hby at_363) k) ?_
      refine own_st (fun t k => XS.iload X52.here hx rfl (hb hby at_364) rfl k) ?_
      show own_Go _ _ _ _ T52 (mkF m 366 #[.val (.int p0), .val (.int p1), .val (.int p2), .val (.int p3), .val (.int p4), .val (.int (0 : Int32)), .val (.int c0), .val (.int c1), .val (.int c2), .val (.ref b1), .val (.ref b3), .val (.int d0), .val (.int d1), .val (.int d2), .val (.ref b25), .val (.int mm), .val (.int (0 : Int32)), .val (.ref b52), .val (.int (1 : Int32))] [(.int mm), (.int (0 : Int32)), (.ref b25), (.ref b52)])
      have K0_57 := (K0_53.trans K52 (all0))
      obtain ⟨_, _, ⟨T56, L56, k56, n56⟩, -, X56, ⟨Lc56, hQ56, l56, y56, z56⟩, st56⟩ := Jvm.LawKit.callS X52 hx (y := (⟨"shelfmark/IriPatternPercentEncodedPinLaw", "same", "([B[BII)Z"⟩ : MethodName)) hown (mvT hZ (hw _ (List.mem_of_getElem? (i := 15) rfl))) (mvT hZ (hw _ (List.mem_of_getElem? (i := 16) rfl))) (mvT hZ (hw _ (List.mem_of_getElem? (i := 4) rfl))) (mvT hZ (hw _ (List.mem_of_getElem? (i := 17) rfl))) (by decide) (backOf (W := 0) (rm4 l Z a0 hw [] b52 b25 (0 : Int32) mm cr ce  T52.heap n0 (Nat.le_trans Z0 K0_57.1) Arr_r Arr_e (by rw [hmm]; exact own_hs h9 Szr Hsr Sze Hse 0 (by decide))) hZ (hw _ (List.mem_of_getElem? (i := 17) rfl)) (hw _ (List.mem_of_getElem? (i := 4) rfl)) (by decide) (by decide)) (g := (mkF m 366 #[.val (.int p0), .val (.int p1), .val (.int p2), .val (.int p3), .val (.int p4), .val (.int (0 : Int32)), .val (.int c0), .val (.int c1), .val (.int c2), .val (.ref b1), .val (.ref b3), .val (.int d0), .val (.int d1), .val (.int d2), .val (.ref b25), .val (.int mm), .val (.int (0 : Int32)), .val (.ref b52), .val (.int (1 : Int32))] [(.int mm), (.int (0 : Int32)), (.ref b25), (.ref b52)])) rfl (by rw [hml]; rfl) (argsL := [(.ref b52), (.ref b25), (.int (0 : Int32)), (.int mm)]) (rest := []) (lenOf pd__28_5bB_5bBII_29Z rfl) rfl (by show 2 * 0 + _ ≤ _; exact Nat.le_of_eq rfl) (hb hby at_366) (fun _ _ => ⟨rfl, rfl, (by decide : 4 + 0 ≤ _), (by decide : 274 + 0 ≤ _)⟩)
      dsimp only [Pt.U, Pt.locs, Pt.cells, Pt.slots] at X56 l56 y56 z56 st56 hQ56
      subst l56 y56 z56
      obtain ⟨rfl, N56q, e56⟩ := hQ56
      obtain ⟨_, X56, N56⟩ := own_hide X56 (Fr.app N52 N56q)
      refine own_st st56 ?_
      show own_Go _ _ _ _ T56 (mkF m 369 #[.val (.int p0), .val (.int p1), .val (.int p2), .val (.int p3), .val (.int p4), .val (.int (0 : Int32)), .val (.int c0), .val (.int c1), .val (.int c2), .val (.ref b1), .val (.ref b3), .val (.int d0), .val (.int d1), .val (.int d2), .val (.ref b25), .val (.int mm), .val (.int (0 : Int32)), .val (.ref b52), .val (.int (1 : Int32))] [(.int (1 : Int32))])
      refine own_st (fun t k => XS.ifNo X56.here hx rfl (hb hby at_369) rfl ((if0 _ _).trans (feq (by decide : ¬ ((1 : Int32) = (0 : Int32)))).1) k) ?_
      show own_Go _ _ _ _ T56 (mkF m 372 #[.val (.int p0), .val (.int p1), .val (.int p2), .val (.int p3), .val (.int p4), .val (.int (0 : Int32)), .val (.int c0), .val (.int c1), .val (.int c2), .val (.ref b1), .val (.ref b3), .val (.int d0), .val (.int d1), .val (.int d2), .val (.ref b25), .val (.int mm), .val (.int (0 : Int32)), .val (.ref b52), .val (.int (1 : Int32))] [])
      refine own_st (fun t k => XS.aload X56.here hx rfl (hb hby at_372) rfl rfl k) ?_
      refine own_st (fun t k => XS.aload X56.here hx rfl (hb hby at_374) rfl rfl k) ?_
      refine own_st (fun t k => XS.iconst X56.here hx rfl (hb hby at_376) k) ?_
      refine own_st (fun t k => XS.iload X56.here hx rfl (hb hby at_377) rfl k) ?_
      show own_Go _ _ _ _ T56 (mkF m 379 #[.val (.int p0), .val (.int p1), .val (.int p2), .val (.int p3), .val (.int p4), .val (.int (0 : Int32)), .val (.int c0), .val (.int c1), .val (.int c2), .val (.ref b1), .val (.ref b3), .val (.int d0), .val (.int d1), .val (.int d2), .val (.ref b25), .val (.int mm), .val (.int (0 : Int32)), .val (.ref b52), .val (.int (1 : Int32))] [(.int mm), (.int (1 : Int32)), (.ref b25), (.ref b52)])
      obtain ⟨_, _, ⟨T58, L58, k58, n58⟩, -, X58, ⟨Lc58, hQ58, l58, y58, z58⟩, st58⟩ := Jvm.LawKit.callS X56 hx (y := (⟨"shelfmark/IriPatternPercentEncodedPinLaw", "same", "([B[BII)Z"⟩ : MethodName)) hown (mvT hZ (hw _ (List.mem_of_getElem? (i := 15) rfl))) (mvT hZ (hw _ (List.mem_of_getElem? (i := 16) rfl))) (mvT hZ (hw _ (List.mem_of_getElem? (i := 4) rfl))) (mvT hZ (hw _ (List.mem_of_getElem? (i := 17) rfl))) (by decide) (backOf (W := 0) (rm4 l Z a0 hw [] b52 b25 (1 : Int32) mm cr ce  T52.heap n0 (Nat.le_trans Z0 K0_57.1) Arr_r Arr_e (by rw [hmm]; exact own_hs h9 Szr Hsr Sze Hse 1 (by decide))) hZ (hw _ (List.mem_of_getElem? (i := 17) rfl)) (hw _ (List.mem_of_getElem? (i := 4) rfl)) (by decide) (by decide)) (g := (mkF m 379 #[.val (.int p0), .val (.int p1), .val (.int p2), .val (.int p3), .val (.int p4), .val (.int (0 : Int32)), .val (.int c0), .val (.int c1), .val (.int c2), .val (.ref b1), .val (.ref b3), .val (.int d0), .val (.int d1), .val (.int d2), .val (.ref b25), .val (.int mm), .val (.int (0 : Int32)), .val (.ref b52), .val (.int (1 : Int32))] [(.int mm), (.int (1 : Int32)), (.ref b25), (.ref b52)])) rfl (by rw [hml]; rfl) (argsL := [(.ref b52), (.ref b25), (.int (1 : Int32)), (.int mm)]) (rest := []) (lenOf pd__28_5bB_5bBII_29Z rfl) rfl (by show 2 * 0 + _ ≤ _; exact Nat.le_of_eq rfl) (hb hby at_379) (fun _ _ => ⟨rfl, e56, (by decide : 4 + 0 ≤ _), (by decide : 274 + 0 ≤ _)⟩)
      dsimp only [Pt.U, Pt.locs, Pt.cells, Pt.slots] at X58 l58 y58 z58 st58 hQ58
      subst l58 y58 z58
      obtain ⟨rfl, N58q, e58⟩ := hQ58
      obtain ⟨_, X58, N58⟩ := own_hide X58 (Fr.app N56 N58q)
      refine own_st st58 ?_
      show own_Go _ _ _ _ T58 (mkF m 382 #[.val (.int p0), .val (.int p1), .val (.int p2), .val (.int p3), .val (.int p4), .val (.int (0 : Int32)), .val (.int c0), .val (.int c1), .val (.int c2), .val (.ref b1), .val (.ref b3), .val (.int d0), .val (.int d1), .val (.int d2), .val (.ref b25), .val (.int mm), .val (.int (0 : Int32)), .val (.ref b52), .val (.int (1 : Int32))] [(.int (1 : Int32))])
      refine own_st (fun t k => XS.ifNo X58.here hx rfl (hb hby at_382) rfl ((if0 _ _).trans (feq (by decide : ¬ ((1 : Int32) = (0 : Int32)))).1) k) ?_
      show own_Go _ _ _ _ T58 (mkF m 385 #[.val (.int p0), .val (.int p1), .val (.int p2), .val (.int p3), .val (.int p4), .val (.int (0 : Int32)), .val (.int c0), .val (.int c1), .val (.int c2), .val (.ref b1), .val (.ref b3), .val (.int d0), .val (.int d1), .val (.int d2), .val (.ref b25), .val (.int mm), .val (.int (0 : Int32)), .val (.ref b52), .val (.int (1 : Int32))] [])
      refine own_st (fun t k => XS.aload X58.here hx rfl (hb hby at_385) rfl rfl k) ?_
      refine own_st (fun t k => XS.aload X58.here hx rfl (hb hby at_387) rfl rfl k) ?_
      refine own_st (fun t k => XS.iconst X58.here hx rfl (hb hby at_389) k) ?_
      refine own_st (fun t k => XS.iload X58.here hx rfl (hb hby at_390) rfl k) ?_
      show own_Go _ _ _ _ T58 (mkF m 392 #[.val (.int p0), .val (.int p1), .val (.int p2), .val (.int p3), .val (.int p4), .val (.int (0 : Int32)), .val (.int c0), .val (.int c1), .val (.int c2), .val (.ref b1), .val (.ref b3), .val (.int d0), .val (.int d1), .val (.int d2), .val (.ref b25), .val (.int mm), .val (.int (0 : Int32)), .val (.ref b52), .val (.int (1 : Int32))] [(.int mm), (.int (2 : Int32)), (.ref b25), (.ref b52)])
      obtain ⟨_, _, ⟨T59, L59, k59, n59⟩, -, X59, ⟨Lc59, hQ59, l59, y59, z59⟩, st59⟩ := Jvm.LawKit.callS X58 hx (y := (⟨"shelfmark/IriPatternPercentEncodedPinLaw", "same", "([B[BII)Z"⟩ : MethodName)) hown (mvT hZ (hw _ (List.mem_of_getElem? (i := 15) rfl))) (mvT hZ (hw _ (List.mem_of_getElem? (i := 16) rfl))) (mvT hZ (hw _ (List.mem_of_getElem? (i := 4) rfl))) (mvT hZ (hw _ (List.mem_of_getElem? (i := 17) rfl))) (by decide) (backOf (W := 0) (rm4 l Z a0 hw [] b52 b25 (2 : Int32) mm cr ce  T52.heap n0 (Nat.le_trans Z0 K0_57.1) Arr_r Arr_e (by rw [hmm]; exact own_hs h9 Szr Hsr Sze Hse 2 (by decide))) hZ (hw _ (List.mem_of_getElem? (i := 17) rfl)) (hw _ (List.mem_of_getElem? (i := 4) rfl)) (by decide) (by decide)) (g := (mkF m 392 #[.val (.int p0), .val (.int p1), .val (.int p2), .val (.int p3), .val (.int p4), .val (.int (0 : Int32)), .val (.int c0), .val (.int c1), .val (.int c2), .val (.ref b1), .val (.ref b3), .val (.int d0), .val (.int d1), .val (.int d2), .val (.ref b25), .val (.int mm), .val (.int (0 : Int32)), .val (.ref b52), .val (.int (1 : Int32))] [(.int mm), (.int (2 : Int32)), (.ref b25), (.ref b52)])) rfl (by rw [hml]; rfl) (argsL := [(.ref b52), (.ref b25), (.int (2 : Int32)), (.int mm)]) (rest := []) (lenOf pd__28_5bB_5bBII_29Z rfl) rfl (by show 2 * 0 + _ ≤ _; exact Nat.le_of_eq rfl) (hb hby at_392) (fun _ _ => ⟨rfl, e58, (by decide : 4 + 0 ≤ _), (by decide : 274 + 0 ≤ _)⟩)
      dsimp only [Pt.U, Pt.locs, Pt.cells, Pt.slots] at X59 l59 y59 z59 st59 hQ59
      subst l59 y59 z59
      obtain ⟨rfl, N59q, e59⟩ := hQ59
      obtain ⟨_, X59, N59⟩ := own_hide X59 (Fr.app N58 N59q)
      refine own_st st59 ?_
      show own_Go _ _ _ _ T59 (mkF m 395 #[.val (.int p0), .val (.int p1), .val (.int p2), .val (.int p3), .val (.int p4), .val (.int (0 : Int32)), .val (.int c0), .val (.int c1), .val (.int c2), .val (.ref b1), .val (.ref b3), .val (.int d0), .val (.int d1), .val (.int d2), .val (.ref b25), .val (.int mm), .val (.int (0 : Int32)), .val (.ref b52), .val (.int (1 : Int32))] [(.int (1 : Int32))])
      refine own_st (fun t k => XS.ifNo X59.here hx rfl (hb hby at_395) rfl ((if0 _ _).trans (feq (by decide : ¬ ((1 : Int32) = (0 : Int32)))).1) k) ?_
      show own_Go _ _ _ _ T59 (mkF m 398 #[.val (.int p0), .val (.int p1), .val (.int p2), .val (.int p3), .val (.int p4), .val (.int (0 : Int32)), .val (.int c0), .val (.int c1), .val (.int c2), .val (.ref b1), .val (.ref b3), .val (.int d0), .val (.int d1), .val (.int d2), .val (.ref b25), .val (.int mm), .val (.int (0 : Int32)), .val (.ref b52), .val (.int (1 : Int32))] [])
      refine own_st (fun t k => XS.aload X59.here hx rfl (hb hby at_398) rfl rfl k) ?_
      refine own_st (fun t k => XS.aload X59.here hx rfl (hb hby at_400) rfl rfl k) ?_
      refine own_st (fun t k => XS.iconst X59.here hx rfl (hb hby at_402) k) ?_
      refine own_st (fun t k => XS.iload X59.here hx rfl (hb hby at_403) rfl k) ?_
      show own_Go _ _ _ _ T59 (mkF m 405 #[.val (.int p0), .val (.int p1), .val (.int p2), .val (.int p3), .val (.int p4), .val (.int (0 : Int32)), .val (.int c0), .val (.int c1), .val (.int c2), .val (.ref b1), .val (.ref b3), .val (.int d0), .val (.int d1), .val (.int d2), .val (.ref b25), .val (.int mm), .val (.int (0 : Int32)), .val (.ref b52), .val (.int (1 : Int32))] [(.int mm), (.int (3 : Int32)), (.ref b25), (.ref b52)])
      obtain ⟨_, _, ⟨T60, L60, k60, n60⟩, -, X60, ⟨Lc60, hQ60, l60, y60, z60⟩, st60⟩ := Jvm.LawKit.callS X59 hx (y := (⟨"shelfmark/IriPatternPercentEncodedPinLaw", "same", "([B[BII)Z"⟩ : MethodName)) hown (mvT hZ (hw _ (List.mem_of_getElem? (i := 15) rfl))) (mvT hZ (hw _ (List.mem_of_getElem? (i := 16) rfl))) (mvT hZ (hw _ (List.mem_of_getElem? (i := 4) rfl))) (mvT hZ (hw _ (List.mem_of_getElem? (i := 17) rfl))) (by decide) (backOf (W := 0) (rm4 l Z a0 hw [] b52 b25 (3 : Int32) mm cr ce  T52.heap n0 (Nat.le_trans Z0 K0_57.1) Arr_r Arr_e (by rw [hmm]; exact own_hs h9 Szr Hsr Sze Hse 3 (by decide))) hZ (hw _ (List.mem_of_getElem? (i := 17) rfl)) (hw _ (List.mem_of_getElem? (i := 4) rfl)) (by decide) (by decide)) (g := (mkF m 405 #[.val (.int p0), .val (.int p1), .val (.int p2), .val (.int p3), .val (.int p4), .val (.int (0 : Int32)), .val (.int c0), .val (.int c1), .val (.int c2), .val (.ref b1), .val (.ref b3), .val (.int d0), .val (.int d1), .val (.int d2), .val (.ref b25), .val (.int mm), .val (.int (0 : Int32)), .val (.ref b52), .val (.int (1 : Int32))] [(.int mm), (.int (3 : Int32)), (.ref b25), (.ref b52)])) rfl (by rw [hml]; rfl) (argsL := [(.ref b52), (.ref b25), (.int (3 : Int32)), (.int mm)]) (rest := []) (lenOf pd__28_5bB_5bBII_29Z rfl) rfl (by show 2 * 0 + _ ≤ _; exact Nat.le_of_eq rfl) (hb hby at_405) (fun _ _ => ⟨rfl, e59, (by decide : 4 + 0 ≤ _), (by decide : 274 + 0 ≤ _)⟩)
      dsimp only [Pt.U, Pt.locs, Pt.cells, Pt.slots] at X60 l60 y60 z60 st60 hQ60
      subst l60 y60 z60
      obtain ⟨rfl, N60q, e60⟩ := hQ60
      obtain ⟨_, X60, N60⟩ := own_hide X60 (Fr.app N59 N60q)
      refine own_st st60 ?_
      show own_Go _ _ _ _ T60 (mkF m 408 #[.val (.int p0), .val (.int p1), .val (.int p2), .val (.int p3), .val (.int p4), .val (.int (0 : Int32)), .val (.int c0), .val (.int c1), .val (.int c2), .val (.ref b1), .val (.ref b3), .val (.int d0), .val (.int d1), .val (.int d2), .val (.ref b25), .val (.int mm), .val (.int (0 : Int32)), .val (.ref b52), .val (.int (1 : Int32))] [(.int (1 : Int32))])
      refine own_st (fun t k => XS.ifNo X60.here hx rfl (hb hby at_408) rfl ((if0 _ _).trans (feq (by decide : ¬ ((1 : Int32) = (0 : Int32)))).1) k) ?_
      show own_Go _ _ _ _ T60 (mkF m 411 #[.val (.int p0), .val (.int p1), .val (.int p2), .val (.int p3), .val (.int p4), .val (.int (0 : Int32)), .val (.int c0), .val (.int c1), .val (.int c2), .val (.ref b1), .val (.ref b3), .val (.int d0), .val (.int d1), .val (.int d2), .val (.ref b25), .val (.int mm), .val (.int (0 : Int32)), .val (.ref b52), .val (.int (1 : Int32))] [])
      refine own_st (fun t k => XS.aload X60.here hx rfl (hb hby at_411) rfl rfl k) ?_
      refine own_st (fun t k => XS.aload X60.here hx rfl (hb hby at_413) rfl rfl k) ?_
      refine own_st (fun t k => XS.iconst X60.here hx rfl (hb hby at_415) k) ?_
      refine own_st (fun t k => XS.iload X60.here hx rfl (hb hby at_416) rfl k) ?_
      show own_Go _ _ _ _ T60 (mkF m 418 #[.val (.int p0), .val (.int p1), .val (.int p2), .val (.int p3), .val (.int p4), .val (.int (0 : Int32)), .val (.int c0), .val (.int c1), .val (.int c2), .val (.ref b1), .val (.ref b3), .val (.int d0), .val (.int d1), .val (.int d2), .val (.ref b25), .val (.int mm), .val (.int (0 : Int32)), .val (.ref b52), .val (.int (1 : Int32))] [(.int mm), (.int (4 : Int32)), (.ref b25), (.ref b52)])
      obtain ⟨_, _, ⟨T61, L61, k61, n61⟩, -, X61, ⟨Lc61, hQ61, l61, y61, z61⟩, st61⟩ := Jvm.LawKit.callS X60 hx (y := (⟨"shelfmark/IriPatternPercentEncodedPinLaw", "same", "([B[BII)Z"⟩ : MethodName)) hown (mvT hZ (hw _ (List.mem_of_getElem? (i := 15) rfl))) (mvT hZ (hw _ (List.mem_of_getElem? (i := 16) rfl))) (mvT hZ (hw _ (List.mem_of_getElem? (i := 4) rfl))) (mvT hZ (hw _ (List.mem_of_getElem? (i := 17) rfl))) (by decide) (backOf (W := 0) (rm4 l Z a0 hw [] b52 b25 (4 : Int32) mm cr ce  T52.heap n0 (Nat.le_trans Z0 K0_57.1) Arr_r Arr_e (by rw [hmm]; exact own_hs h9 Szr Hsr Sze Hse 4 (by decide))) hZ (hw _ (List.mem_of_getElem? (i := 17) rfl)) (hw _ (List.mem_of_getElem? (i := 4) rfl)) (by decide) (by decide)) (g := (mkF m 418 #[.val (.int p0), .val (.int p1), .val (.int p2), .val (.int p3), .val (.int p4), .val (.int (0 : Int32)), .val (.int c0), .val (.int c1), .val (.int c2), .val (.ref b1), .val (.ref b3), .val (.int d0), .val (.int d1), .val (.int d2), .val (.ref b25), .val (.int mm), .val (.int (0 : Int32)), .val (.ref b52), .val (.int (1 : Int32))] [(.int mm), (.int (4 : Int32)), (.ref b25), (.ref b52)])) rfl (by rw [hml]; rfl) (argsL := [(.ref b52), (.ref b25), (.int (4 : Int32)), (.int mm)]) (rest := []) (lenOf pd__28_5bB_5bBII_29Z rfl) rfl (by show 2 * 0 + _ ≤ _; exact Nat.le_of_eq rfl) (hb hby at_418) (fun _ _ => ⟨rfl, e60, (by decide : 4 + 0 ≤ _), (by decide : 274 + 0 ≤ _)⟩)
      dsimp only [Pt.U, Pt.locs, Pt.cells, Pt.slots] at X61 l61 y61 z61 st61 hQ61
      subst l61 y61 z61
      obtain ⟨rfl, N61q, e61⟩ := hQ61
      obtain ⟨_, X61, N61⟩ := own_hide X61 (Fr.app N60 N61q)
      refine own_st st61 ?_
      show own_Go _ _ _ _ T61 (mkF m 421 #[.val (.int p0), .val (.int p1), .val (.int p2), .val (.int p3), .val (.int p4), .val (.int (0 : Int32)), .val (.int c0), .val (.int c1), .val (.int c2), .val (.ref b1), .val (.ref b3), .val (.int d0), .val (.int d1), .val (.int d2), .val (.ref b25), .val (.int mm), .val (.int (0 : Int32)), .val (.ref b52), .val (.int (1 : Int32))] [(.int (1 : Int32))])
      refine own_st (fun t k => XS.ifNo X61.here hx rfl (hb hby at_421) rfl ((if0 _ _).trans (feq (by decide : ¬ ((1 : Int32) = (0 : Int32)))).1) k) ?_
      show own_Go _ _ _ _ T61 (mkF m 424 #[.val (.int p0), .val (.int p1), .val (.int p2), .val (.int p3), .val (.int p4), .val (.int (0 : Int32)), .val (.int c0), .val (.int c1), .val (.int c2), .val (.ref b1), .val (.ref b3), .val (.int d0), .val (.int d1), .val (.int d2), .val (.ref b25), .val (.int mm), .val (.int (0 : Int32)), .val (.ref b52), .val (.int (1 : Int32))] [])
      refine own_st (fun t k => XS.aload X61.here hx rfl (hb hby at_424) rfl rfl k) ?_
      refine own_st (fun t k => XS.aload X61.here hx rfl (hb hby at_426) rfl rfl k) ?_
      refine own_st (fun t k => XS.iconst X61.here hx rfl (hb hby at_428) k) ?_
      refine own_st (fun t k => XS.iload X61.here hx rfl (hb hby at_429) rfl k) ?_
      show own_Go _ _ _ _ T61 (mkF m 431 #[.val (.int p0), .val (.int p1), .val (.int p2), .val (.int p3), .val (.int p4), .val (.int (0 : Int32)), .val (.int c0), .val (.int c1), .val (.int c2), .val (.ref b1), .val (.ref b3), .val (.int d0), .val (.int d1), .val (.int d2), .val (.ref b25), .val (.int mm), .val (.int (0 : Int32)), .val (.ref b52), .val (.int (1 : Int32))] [(.int mm), (.int (5 : Int32)), (.ref b25), (.ref b52)])
      obtain ⟨_, _, ⟨T62, L62, k62, n62⟩, -, X62, ⟨Lc62, hQ62, l62, y62, z62⟩, st62⟩ := Jvm.LawKit.callS X61 hx (y := (⟨"shelfmark/IriPatternPercentEncodedPinLaw", "same", "([B[BII)Z"⟩ : MethodName)) hown (mvT hZ (hw _ (List.mem_of_getElem? (i := 15) rfl))) (mvT hZ (hw _ (List.mem_of_getElem? (i := 16) rfl))) (mvT hZ (hw _ (List.mem_of_getElem? (i := 4) rfl))) (mvT hZ (hw _ (List.mem_of_getElem? (i := 17) rfl))) (by decide) (backOf (W := 0) (rm4 l Z a0 hw [] b52 b25 (5 : Int32) mm cr ce  T52.heap n0 (Nat.le_trans Z0 K0_57.1) Arr_r Arr_e (by rw [hmm]; exact own_hs h9 Szr Hsr Sze Hse 5 (by decide))) hZ (hw _ (List.mem_of_getElem? (i := 17) rfl)) (hw _ (List.mem_of_getElem? (i := 4) rfl)) (by decide) (by decide)) (g := (mkF m 431 #[.val (.int p0), .val (.int p1), .val (.int p2), .val (.int p3), .val (.int p4), .val (.int (0 : Int32)), .val (.int c0), .val (.int c1), .val (.int c2), .val (.ref b1), .val (.ref b3), .val (.int d0), .val (.int d1), .val (.int d2), .val (.ref b25), .val (.int mm), .val (.int (0 : Int32)), .val (.ref b52), .val (.int (1 : Int32))] [(.int mm), (.int (5 : Int32)), (.ref b25), (.ref b52)])) rfl (by rw [hml]; rfl) (argsL := [(.ref b52), (.ref b25), (.int (5 : Int32)), (.int mm)]) (rest := []) (lenOf pd__28_5bB_5bBII_29Z rfl) rfl (by show 2 * 0 + _ ≤ _; exact Nat.le_of_eq rfl) (hb hby at_431) (fun _ _ => ⟨rfl, e61, (by decide : 4 + 0 ≤ _), (by decide : 274 + 0 ≤ _)⟩)
      dsimp only [Pt.U, Pt.locs, Pt.cells, Pt.slots] at X62 l62 y62 z62 st62 hQ62
      subst l62 y62 z62
      obtain ⟨rfl, N62q, e62⟩ := hQ62
      obtain ⟨_, X62, N62⟩ := own_hide X62 (Fr.app N61 N62q)
      refine own_st st62 ?_
      show own_Go _ _ _ _ T62 (mkF m 434 #[.val (.int p0), .val (.int p1), .val (.int p2), .val (.int p3), .val (.int p4), .val (.int (0 : Int32)), .val (.int c0), .val (.int c1), .val (.int c2), .val (.ref b1), .val (.ref b3), .val (.int d0), .val (.int d1), .val (.int d2), .val (.ref b25), .val (.int mm), .val (.int (0 : Int32)), .val (.ref b52), .val (.int (1 : Int32))] [(.int (1 : Int32))])
      refine own_st (fun t k => XS.ifNo X62.here hx rfl (hb hby at_434) rfl ((if0 _ _).trans (feq (by decide : ¬ ((1 : Int32) = (0 : Int32)))).1) k) ?_
      show own_Go _ _ _ _ T62 (mkF m 437 #[.val (.int p0), .val (.int p1), .val (.int p2), .val (.int p3), .val (.int p4), .val (.int (0 : Int32)), .val (.int c0), .val (.int c1), .val (.int c2), .val (.ref b1), .val (.ref b3), .val (.int d0), .val (.int d1), .val (.int d2), .val (.ref b25), .val (.int mm), .val (.int (0 : Int32)), .val (.ref b52), .val (.int (1 : Int32))] [])
      refine own_st (fun t k => XS.aload X62.here hx rfl (hb hby at_437) rfl rfl k) ?_
      refine own_st (fun t k => XS.aload X62.here hx rfl (hb hby at_439) rfl rfl k) ?_
      refine own_st (fun t k => XS.bipush X62.here hx rfl (hb hby at_441) k) ?_
      refine own_st (fun t k => XS.iload X62.here hx rfl (hb hby at_443) rfl k) ?_
      show own_Go _ _ _ _ T62 (mkF m 445 #[.val (.int p0), .val (.int p1), .val (.int p2), .val (.int p3), .val (.int p4), .val (.int (0 : Int32)), .val (.int c0), .val (.int c1), .val (.int c2), .val (.ref b1), .val (.ref b3), .val (.int d0), .val (.int d1), .val (.int d2), .val (.ref b25), .val (.int mm), .val (.int (0 : Int32)), .val (.ref b52), .val (.int (1 : Int32))] [(.int mm), (.int (6 : Int32)), (.ref b25), (.ref b52)])
      obtain ⟨_, _, ⟨T63, L63, k63, n63⟩, -, X63, ⟨Lc63, hQ63, l63, y63, z63⟩, st63⟩ := Jvm.LawKit.callS X62 hx (y := (⟨"shelfmark/IriPatternPercentEncodedPinLaw", "same", "([B[BII)Z"⟩ : MethodName)) hown (mvT hZ (hw _ (List.mem_of_getElem? (i := 15) rfl))) (mvT hZ (hw _ (List.mem_of_getElem? (i := 16) rfl))) (mvT hZ (hw _ (List.mem_of_getElem? (i := 4) rfl))) (mvT hZ (hw _ (List.mem_of_getElem? (i := 17) rfl))) (by decide) (backOf (W := 0) (rm4 l Z a0 hw [] b52 b25 (6 : Int32) mm cr ce  T52.heap n0 (Nat.le_trans Z0 K0_57.1) Arr_r Arr_e (by rw [hmm]; exact own_hs h9 Szr Hsr Sze Hse 6 (by decide))) hZ (hw _ (List.mem_of_getElem? (i := 17) rfl)) (hw _ (List.mem_of_getElem? (i := 4) rfl)) (by decide) (by decide)) (g := (mkF m 445 #[.val (.int p0), .val (.int p1), .val (.int p2), .val (.int p3), .val (.int p4), .val (.int (0 : Int32)), .val (.int c0), .val (.int c1), .val (.int c2), .val (.ref b1), .val (.ref b3), .val (.int d0), .val (.int d1), .val (.int d2), .val (.ref b25), .val (.int mm), .val (.int (0 : Int32)), .val (.ref b52), .val (.int (1 : Int32))] [(.int mm), (.int (6 : Int32)), (.ref b25), (.ref b52)])) rfl (by rw [hml]; rfl) (argsL := [(.ref b52), (.ref b25), (.int (6 : Int32)), (.int mm)]) (rest := []) (lenOf pd__28_5bB_5bBII_29Z rfl) rfl (by show 2 * 0 + _ ≤ _; exact Nat.le_of_eq rfl) (hb hby at_445) (fun _ _ => ⟨rfl, e62, (by decide : 4 + 0 ≤ _), (by decide : 274 + 0 ≤ _)⟩)
      dsimp only [Pt.U, Pt.locs, Pt.cells, Pt.slots] at X63 l63 y63 z63 st63 hQ63
      subst l63 y63 z63
      obtain ⟨rfl, N63q, e63⟩ := hQ63
      obtain ⟨_, X63, N63⟩ := own_hide X63 (Fr.app N62 N63q)
      refine own_st st63 ?_
      show own_Go _ _ _ _ T63 (mkF m 448 #[.val (.int p0), .val (.int p1), .val (.int p2), .val (.int p3), .val (.int p4), .val (.int (0 : Int32)), .val (.int c0), .val (.int c1), .val (.int c2), .val (.ref b1), .val (.ref b3), .val (.int d0), .val (.int d1), .val (.int d2), .val (.ref b25), .val (.int mm), .val (.int (0 : Int32)), .val (.ref b52), .val (.int (1 : Int32))] [(.int (1 : Int32))])
      refine own_st (fun t k => XS.ifNo X63.here hx rfl (hb hby at_448) rfl ((if0 _ _).trans (feq (by decide : ¬ ((1 : Int32) = (0 : Int32)))).1) k) ?_
      show own_Go _ _ _ _ T63 (mkF m 451 #[.val (.int p0), .val (.int p1), .val (.int p2), .val (.int p3), .val (.int p4), .val (.int (0 : Int32)), .val (.int c0), .val (.int c1), .val (.int c2), .val (.ref b1), .val (.ref b3), .val (.int d0), .val (.int d1), .val (.int d2), .val (.ref b25), .val (.int mm), .val (.int (0 : Int32)), .val (.ref b52), .val (.int (1 : Int32))] [])
      refine own_st (fun t k => XS.aload X63.here hx rfl (hb hby at_451) rfl rfl k) ?_
      refine own_st (fun t k => XS.aload X63.here hx rfl (hb hby at_453) rfl rfl k) ?_
      refine own_st (fun t k => XS.bipush X63.here hx rfl (hb hby at_455) k) ?_
      refine own_st (fun t k => XS.iload X63.here hx rfl (hb hby at_457) rfl k) ?_
      show own_Go _ _ _ _ T63 (mkF m 459 #[.val (.int p0), .val (.int p1), .val (.int p2), .val (.int p3), .val (.int p4), .val (.int (0 : Int32)), .val (.int c0), .val (.int c1), .val (.int c2), .val (.ref b1), .val (.ref b3), .val (.int d0), .val (.int d1), .val (.int d2), .val (.ref b25), .val (.int mm), .val (.int (0 : Int32)), .val (.ref b52), .val (.int (1 : Int32))] [(.int mm), (.int (7 : Int32)), (.ref b25), (.ref b52)])
      obtain ⟨_, _, ⟨T64, L64, k64, n64⟩, -, X64, ⟨Lc64, hQ64, l64, y64, z64⟩, st64⟩ := Jvm.LawKit.callS X63 hx (y := (⟨"shelfmark/IriPatternPercentEncodedPinLaw", "same", "([B[BII)Z"⟩ : MethodName)) hown (mvT hZ (hw _ (List.mem_of_getElem? (i := 15) rfl))) (mvT hZ (hw _ (List.mem_of_getElem? (i := 16) rfl))) (mvT hZ (hw _ (List.mem_of_getElem? (i := 4) rfl))) (mvT hZ (hw _ (List.mem_of_getElem? (i := 17) rfl))) (by decide) (backOf (W := 0) (rm4 l Z a0 hw [] b52 b25 (7 : Int32) mm cr ce  T52.heap n0 (Nat.le_trans Z0 K0_57.1) Arr_r Arr_e (by rw [hmm]; exact own_hs h9 Szr Hsr Sze Hse 7 (by decide))) hZ (hw _ (List.mem_of_getElem? (i := 17) rfl)) (hw _ (List.mem_of_getElem? (i := 4) rfl)) (by decide) (by decide)) (g := (mkF m 459 #[.val (.int p0), .val (.int p1), .val (.int p2), .val (.int p3), .val (.int p4), .val (.int (0 : Int32)), .val (.int c0), .val (.int c1), .val (.int c2), .val (.ref b1), .val (.ref b3), .val (.int d0), .val (.int d1), .val (.int d2), .val (.ref b25), .val (.int mm), .val (.int (0 : Int32)), .val (.ref b52), .val (.int (1 : Int32))] [(.int mm), (.int (7 : Int32)), (.ref b25), (.ref b52)])) rfl (by rw [hml]; rfl) (argsL := [(.ref b52), (.ref b25), (.int (7 : Int32)), (.int mm)]) (rest := []) (lenOf pd__28_5bB_5bBII_29Z rfl) rfl (by show 2 * 0 + _ ≤ _; exact Nat.le_of_eq rfl) (hb hby at_459) (fun _ _ => ⟨rfl, e63, (by decide : 4 + 0 ≤ _), (by decide : 274 + 0 ≤ _)⟩)
      dsimp only [Pt.U, Pt.locs, Pt.cells, Pt.slots] at X64 l64 y64 z64 st64 hQ64
      subst l64 y64 z64
      obtain ⟨rfl, N64q, e64⟩ := hQ64
      obtain ⟨_, X64, N64⟩ := own_hide X64 (Fr.app N63 N64q)
      refine own_st st64 ?_
      show own_Go _ _ _ _ T64 (mkF m 462 #[.val (.int p0), .val (.int p1), .val (.int p2), .val (.int p3), .val (.int p4), .val (.int (0 : Int32)), .val (.int c0), .val (.int c1), .val (.int c2), .val (.ref b1), .val (.ref b3), .val (.int d0), .val (.int d1), .val (.int d2), .val (.ref b25), .val (.int mm), .val (.int (0 : Int32)), .val (.ref b52), .val (.int (1 : Int32))] [(.int (1 : Int32))])
      refine own_st (fun t k => XS.ifNo X64.here hx rfl (hb hby at_462) rfl ((if0 _ _).trans (feq (by decide : ¬ ((1 : Int32) = (0 : Int32)))).1) k) ?_
      show own_Go _ _ _ _ T64 (mkF m 465 #[.val (.int p0), .val (.int p1), .val (.int p2), .val (.int p3), .val (.int p4), .val (.int (0 : Int32)), .val (.int c0), .val (.int c1), .val (.int c2), .val (.ref b1), .val (.ref b3), .val (.int d0), .val (.int d1), .val (.int d2), .val (.ref b25), .val (.int mm), .val (.int (0 : Int32)), .val (.ref b52), .val (.int (1 : Int32))] [])
      refine own_st (fun t k => XS.aload X64.here hx rfl (hb hby at_465) rfl rfl k) ?_
      refine own_st (fun t k => XS.aload X64.here hx rfl (hb hby at_467) rfl rfl k) ?_
      refine own_st (fun t k => XS.bipush X64.here hx rfl (hb hby at_469) k) ?_
      refine own_st (fun t k => XS.iload X64.here hx rfl (hb hby at_471) rfl k) ?_
      show own_Go _ _ _ _ T64 (mkF m 473 #[.val (.int p0), .val (.int p1), .val (.int p2), .val (.int p3), .val (.int p4), .val (.int (0 : Int32)), .val (.int c0), .val (.int c1), .val (.int c2), .val (.ref b1), .val (.ref b3), .val (.int d0), .val (.int d1), .val (.int d2), .val (.ref b25), .val (.int mm), .val (.int (0 : Int32)), .val (.ref b52), .val (.int (1 : Int32))] [(.int mm), (.int (8 : Int32)), (.ref b25), (.ref b52)])
      obtain ⟨_, _, ⟨T65, L65, k65, n65⟩, -, X65, ⟨Lc65, hQ65, l65, y65, z65⟩, st65⟩ := Jvm.LawKit.callS X64 hx (y := (⟨"shelfmark/IriPatternPercentEncodedPinLaw", "same", "([B[BII)Z"⟩ : MethodName)) hown (mvT hZ (hw _ (List.mem_of_getElem? (i := 15) rfl))) (mvT hZ (hw _ (List.mem_of_getElem? (i := 16) rfl))) (mvT hZ (hw _ (List.mem_of_getElem? (i := 4) rfl))) (mvT hZ (hw _ (List.mem_of_getElem? (i := 17) rfl))) (by decide) (backOf (W := 0) (rm4 l Z a0 hw [] b52 b25 (8 : Int32) mm cr ce  T52.heap n0 (Nat.le_trans Z0 K0_57.1) Arr_r Arr_e (by rw [hmm]; exact own_hs h9 Szr Hsr Sze Hse 8 (by decide))) hZ (hw _ (List.mem_of_getElem? (i := 17) rfl)) (hw _ (List.mem_of_getElem? (i := 4) rfl)) (by decide) (by decide)) (g := (mkF m 473 #[.val (.int p0), .val (.int p1), .val (.int p2), .val (.int p3), .val (.int p4), .val (.int (0 : Int32)), .val (.int c0), .val (.int c1), .val (.int c2), .val (.ref b1), .val (.ref b3), .val (.int d0), .val (.int d1), .val (.int d2), .val (.ref b25), .val (.int mm), .val (.int (0 : Int32)), .val (.ref b52), .val (.int (1 : Int32))] [(.int mm), (.int (8 : Int32)), (.ref b25), (.ref b52)])) rfl (by rw [hml]; rfl) (argsL := [(.ref b52), (.ref b25), (.int (8 : Int32)), (.int mm)]) (rest := []) (lenOf pd__28_5bB_5bBII_29Z rfl) rfl (by show 2 * 0 + _ ≤ _; exact Nat.le_of_eq rfl) (hb hby at_473) (fun _ _ => ⟨rfl, e64, (by decide : 4 + 0 ≤ _), (by decide : 274 + 0 ≤ _)⟩)
      dsimp only [Pt.U, Pt.locs, Pt.cells, Pt.slots] at X65 l65 y65 z65 st65 hQ65
      subst l65 y65 z65
      obtain ⟨rfl, N65q, e65⟩ := hQ65
      obtain ⟨_, X65, N65⟩ := own_hide X65 (Fr.app N64 N65q)
      refine own_st st65 ?_
      show own_Go _ _ _ _ T65 (mkF m 476 #[.val (.int p0), .val (.int p1), .val (.int p2), .val (.int p3), .val (.int p4), .val (.int (0 : Int32)), .val (.int c0), .val (.int c1), .val (.int c2), .val (.ref b1), .val (.ref b3), .val (.int d0), .val (.int d1), .val (.int d2), .val (.ref b25), .val (.int mm), .val (.int (0 : Int32)), .val (.ref b52), .val (.int (1 : Int32))] [(.int (1 : Int32))])
      refine own_st (fun t k => XS.ifNo X65.here hx rfl (hb hby at_476) rfl ((if0 _ _).trans (feq (by decide : ¬ ((1 : Int32) = (0 : Int32)))).1) k) ?_
      show own_Go _ _ _ _ T65 (mkF m 479 #[.val (.int p0), .val (.int p1), .val (.int p2), .val (.int p3), .val (.int p4), .val (.int (0 : Int32)), .val (.int c0), .val (.int c1), .val (.int c2), .val (.ref b1), .val (.ref b3), .val (.int d0), .val (.int d1), .val (.int d2), .val (.ref b25), .val (.int mm), .val (.int (0 : Int32)), .val (.ref b52), .val (.int (1 : Int32))] [])
      refine own_st (fun t k => XS.iconst X65.here hx rfl (hb hby at_479) k) ?_
      refine own_st (fun t k => XS.goto X65.here hx rfl (pc0 := 480) (pc' := 484) rfl (hb hby at_480) (by decide) (by decide) k) ?_
      show own_Go _ _ _ _ T65 (mkF m 484 #[.val (.int p0), .val (.int p1), .val (.int p2), .val (.int p3), .val (.int p4), .val (.int (0 : Int32)), .val (.int c0), .val (.int c1), .val (.int c2), .val (.ref b1), .val (.ref b3), .val (.int d0), .val (.int d1), .val (.int d2), .val (.ref b25), .val (.int mm), .val (.int (0 : Int32)), .val (.ref b52), .val (.int (1 : Int32))] [(.int (1 : Int32))])
      exact own_retN X65 hx hlk (t := .boolean) hrt (by simp) (hb hby at_484) ⟨rfl, N65⟩ (by decide) (by decide)
  ·
    rw [hn]
    show own_Go _ _ _ _ s₁ (mkF m 17 #[.val (.int p0), .val (.int p1), .val (.int p2), .val (.int p3), .val (.int p4), .val (.int (1 : Int32)), .val (.int c0), .val (.int c1), .val (.int c2), .unset, .unset, .unset, .unset, .unset, .unset, .unset, .unset, .unset, .unset] [])
    refine own_st (fun t k => XS.iload X0.here hx rfl (hb hby at_17) rfl k) ?_
    show own_Go _ _ _ _ s₁ (mkF m 19 #[.val (.int p0), .val (.int p1), .val (.int p2), .val (.int p3), .val (.int p4), .val (.int (1 : Int32)), .val (.int c0), .val (.int c1), .val (.int c2), .unset, .unset, .unset, .unset, .unset, .unset, .unset, .unset, .unset, .unset] [(.int (1 : Int32))])
    obtain ⟨T66, h66, k66, X66, e66, E66, A66, st66⟩ := newP X0 hx hZ (hw _ (List.mem_of_getElem? (i := 0) rfl)) e0 (g := (mkF m 19 #[.val (.int p0), .val (.int p1), .val (.int p2), .val (.int p3), .val (.int p4), .val (.int (1 : Int32)), .val (.int c0), .val (.int c1), .val (.int c2), .unset, .unset, .unset, .unset, .unset, .unset, .unset, .unset, .unset, .unset] [(.int (1 : Int32))])) rfl (hb hby at_19) rfl (by decide) (cap := 1) (by decide) (by decide) (by decide) (by decide)
    obtain ⟨b66, g66⟩ : ∃ z, z = h0.size := ⟨_, rfl⟩
    rw [← g66] at A66 st66
    have sz_b66 : h0.size ≤ b66 := Nat.le_trans K0.1 (Nat.le_of_eq g66.symm)
    have g_b66 : n0 ≤ b66 := Nat.le_trans Z0 sz_b66
    have ne_ra_b66 : ra ≠ b66 := Nat.ne_of_lt (Nat.lt_of_lt_of_le A_H.lt (Nat.le_of_eq g66.symm))
    have V66 : Arv Z h66 b66 k66 .byte (1 : Int32) [(.int (0 : Int32))] (.int (0 : Int32)) := (Arv.new A66 (by decide)).pad (pad_rep [] (.int (0 : Int32)) 1)
    refine own_st st66 ?_
    show own_Go _ _ _ _ T66 (mkF m 21 #[.val (.int p0), .val (.int p1), .val (.int p2), .val (.int p3), .val (.int p4), .val (.int (1 : Int32)), .val (.int c0), .val (.int c1), .val (.int c2), .unset, .unset, .unset, .unset, .unset, .unset, .unset, .unset, .unset, .unset] [(.ref b66)])
    refine own_st (fun t k => XS.astore X66.here hx rfl (hb hby at_21) rfl rfl (l' := #[.val (.int p0), .val (.int p1), .val (.int p2), .val (.int p3), .val (.int p4), .val (.int (1 : Int32)), .val (.int c0), .val (.int c1), .val (.int c2), .val (.ref b66), .unset, .unset, .unset, .unset, .unset, .unset, .unset, .unset, .unset]) rfl k) ?_
    show own_Go _ _ _ _ T66 (mkF m 23 #[.val (.int p0), .val (.int p1), .val (.int p2), .val (.int p3), .val (.int p4), .val (.int (1 : Int32)), .val (.int c0), .val (.int c1), .val (.int c2), .val (.ref b66), .unset, .unset, .unset, .unset, .unset, .unset, .unset, .unset, .unset] [])
    refine own_st (fun t k => XS.iload X66.here hx rfl (hb hby at_23) rfl k) ?_
    refine own_st (fun t k => XS.ifNo X66.here hx rfl (hb hby at_25) rfl ((if0 _ _).trans (tlt (by decide : (0 : Int32) < (1 : Int32))).2.2.2) k) ?_
    show own_Go _ _ _ _ T66 (mkF m 28 #[.val (.int p0), .val (.int p1), .val (.int p2), .val (.int p3), .val (.int p4), .val (.int (1 : Int32)), .val (.int c0), .val (.int c1), .val (.int c2), .val (.ref b66), .unset, .unset, .unset, .unset, .unset, .unset, .unset, .unset, .unset] [])
    refine own_st (fun t k => XS.aload X66.here hx rfl (hb hby at_28) rfl rfl k) ?_
    refine own_st (fun t k => XS.iconst X66.here hx rfl (hb hby at_30) k) ?_
    refine own_st (fun t k => XS.iload X66.here hx rfl (hb hby at_31) rfl k) ?_
    show own_Go _ _ _ _ T66 (mkF m 33 #[.val (.int p0), .val (.int p1), .val (.int p2), .val (.int p3), .val (.int p4), .val (.int (1 : Int32)), .val (.int c0), .val (.int c1), .val (.int c2), .val (.ref b66), .unset, .unset, .unset, .unset, .unset, .unset, .unset, .unset, .unset] [(.int c0), (.int (0 : Int32)), (.ref b66)])
    have K0_67 := (K0.ext E66)
    obtain ⟨cl68, Ar68, qk68, Sz68, Nn68, Hs68, Gf68⟩ := id V66
    have hin68 : ¬ ((0 : Int32) < 0 ∨ cl68.slots.size ≤ ((0 : Int32)).toNatClampNeg) := inb_of Sz68 ⟨by decide, by decide⟩
    obtain ⟨T69, h69, X69, e69, W69, st69⟩ := stB X66 hx hZ e66 Ar68 (j := (0 : Int32)) hin68 (g := (mkF m 33 #[.val (.int p0), .val (.int p1), .val (.int p2), .val (.int p3), .val (.int p4), .val (.int (1 : Int32)), .val (.int c0), .val (.int c1), .val (.int c2), .val (.ref b66), .unset, .unset, .unset, .unset, .unset, .unset, .unset, .unset, .unset] [(.int c0), (.int (0 : Int32)), (.ref b66)])) rfl rfl (hb hby at_33)
    have V69 : Arv Z h69 b66 k66 .byte (1 : Int32) [(.int (nar .byte c0))] (.int (0 : Int32)) := Arv.set Ar68 qk68 Sz68 Nn68 Hs68 Gf68 (fits_nar_byte _) W69 0 rfl (Nat.le_of_ble_eq_true rfl)
    rw [hb0] at V69
    obtain ⟨_, X69, N69⟩ := own_hide X69 (Fr.snoc X69 N0 g_b66)
    refine own_st st69 ?_
    show own_Go _ _ _ _ T69 (mkF m 34 #[.val (.int p0), .val (.int p1), .val (.int p2), .val (.int p3), .val (.int p4), .val (.int (1 : Int32)), .val (.int c0), .val (.int c1), .val (.int c2), .val (.ref b66), .unset, .unset, .unset, .unset, .unset, .unset, .unset, .unset, .unset] [])
    refine own_st (fun t k => XS.iload X69.here hx rfl (hb hby at_34) rfl k) ?_
    refine own_st (fun t k => XS.iconst X69.here hx rfl (hb hby at_36) k) ?_
    refine own_st (fun t k => XS.icmpYes X69.here hx rfl (pc0 := 37) (pc' := 46) rfl (hb hby at_37) rfl (flt (by decide : ¬ ((1 : Int32) < (1 : Int32)))).2.2.2 (by decide) (by decide) k) ?_
    show own_Go _ _ _ _ T69 (mkF m 46 #[.val (.int p0), .val (.int p1), .val (.int p2), .val (.int p3), .val (.int p4), .val (.int (1 : Int32)), .val (.int c0), .val (.int c1), .val (.int c2), .val (.ref b66), .unset, .unset, .unset, .unset, .unset, .unset, .unset, .unset, .unset] [])
    refine own_st (fun t k => XS.iload X69.here hx rfl (hb hby at_46) rfl k) ?_
    refine own_st (fun t k => XS.iconst X69.here hx rfl (hb hby at_48) k) ?_
    refine own_st (fun t k => XS.icmpYes X69.here hx rfl (pc0 := 49) (pc' := 58) rfl (hb hby at_49) rfl (flt (by decide : ¬ ((2 : Int32) < (1 : Int32)))).2.2.2 (by decide) (by decide) k) ?_
    show own_Go _ _ _ _ T69 (mkF m 58 #[.val (.int p0), .val (.int p1), .val (.int p2), .val (.int p3), .val (.int p4), .val (.int (1 : Int32)), .val (.int c0), .val (.int c1), .val (.int c2), .val (.ref b66), .unset, .unset, .unset, .unset, .unset, .unset, .unset, .unset, .unset] [])
    refine own_st (fun t k => XS.sipush X69.here hx rfl (hb hby at_58) k) ?_
    show own_Go _ _ _ _ T69 (mkF m 61 #[.val (.int p0), .val (.int p1), .val (.int p2), .val (.int p3), .val (.int p4), .val (.int (1 : Int32)), .val (.int c0), .val (.int c1), .val (.int c2), .val (.ref b66), .unset, .unset, .unset, .unset, .unset, .unset, .unset, .unset, .unset] [(.int (256 : Int32))])
    have K0_70 := (K0_67.wr W69 (Or.inr sz_b66))
    obtain ⟨T71, h71, k71, X71, e71, E71, A71, st71⟩ := newP X69 hx hZ (hw _ (List.mem_of_getElem? (i := 1) rfl)) e69 (g := (mkF m 61 #[.val (.int p0), .val (.int p1), .val (.int p2), .val (.int p3), .val (.int p4), .val (.int (1 : Int32)), .val (.int c0), .val (.int c1), .val (.int c2), .val (.ref b66), .unset, .unset, .unset, .unset, .unset, .unset, .unset, .unset, .unset] [(.int (256 : Int32))])) rfl (hb hby at_61) rfl (by decide) (cap := 256) (by decide) (by decide) (by decide) (by decide)
    obtain ⟨b71, g71⟩ : ∃ z, z = h69.size := ⟨_, rfl⟩
    rw [← g71] at A71 st71
    have sz_b71 : h0.size ≤ b71 := Nat.le_trans K0_70.1 (Nat.le_of_eq g71.symm)
    have g_b71 : n0 ≤ b71 := Nat.le_trans Z0 sz_b71
    have Arh_72 := ((A_H.ext E66).other W69 ne_ra_b66)
    have ne_ra_b71 : ra ≠ b71 := Nat.ne_of_lt (Nat.lt_of_lt_of_le Arh_72.lt (Nat.le_of_eq g71.symm))
    have ne_b66_b71 : b66 ≠ b71 := Nat.ne_of_lt (Nat.lt_of_lt_of_le V69.lt (Nat.le_of_eq g71.symm))
    have B71 := own_B_new A71
    refine own_st st71 ?_
    show own_Go _ _ _ _ T71 (mkF m 63 #[.val (.int p0), .val (.int p1), .val (.int p2), .val (.int p3), .val (.int p4), .val (.int (1 : Int32)), .val (.int c0), .val (.int c1), .val (.int c2), .val (.ref b66), .unset, .unset, .unset, .unset, .unset, .unset, .unset, .unset, .unset] [(.ref b71)])
    refine own_st (fun t k => XS.astore X71.here hx rfl (hb hby at_63) rfl rfl (l' := #[.val (.int p0), .val (.int p1), .val (.int p2), .val (.int p3), .val (.int p4), .val (.int (1 : Int32)), .val (.int c0), .val (.int c1), .val (.int c2), .val (.ref b66), .val (.ref b71), .unset, .unset, .unset, .unset, .unset, .unset, .unset, .unset]) rfl k) ?_
    show own_Go _ _ _ _ T71 (mkF m 65 #[.val (.int p0), .val (.int p1), .val (.int p2), .val (.int p3), .val (.int p4), .val (.int (1 : Int32)), .val (.int c0), .val (.int c1), .val (.int c2), .val (.ref b66), .val (.ref b71), .unset, .unset, .unset, .unset, .unset, .unset, .unset, .unset] [])
    refine own_st (fun t k => XS.aload X71.here hx rfl (hb hby at_65) rfl rfl k) ?_
    refine own_st (fun t k => XS.iload X71.here hx rfl (hb hby at_67) rfl k) ?_
    refine own_st (fun t k => XS.iconst X71.here hx rfl (hb hby at_69) k) ?_
    refine own_st (fun t k => XS.iadd X71.here hx rfl (hb hby at_70) rfl k) ?_
    show own_Go _ _ _ _ T71 (mkF m 71 #[.val (.int p0), .val (.int p1), .val (.int p2), .val (.int p3), .val (.int p4), .val (.int (1 : Int32)), .val (.int c0), .val (.int c1), .val (.int c2), .val (.ref b66), .val (.ref b71), .unset, .unset, .unset, .unset, .unset, .unset, .unset, .unset] [(.int (c0 + (1 : Int32))), (.ref b71)])
    refine own_st (fun t k => XS.sipush X71.here hx rfl (hb hby at_71) k) ?_
    refine own_st (fun t k => XS.iand X71.here hx rfl (hb hby at_74) rfl k) ?_
    show own_Go _ _ _ _ T71 (mkF m 75 #[.val (.int p0), .val (.int p1), .val (.int p2), .val (.int p3), .val (.int p4), .val (.int (1 : Int32)), .val (.int c0), .val (.int c1), .val (.int c2), .val (.ref b66), .val (.ref b71), .unset, .unset, .unset, .unset, .unset, .unset, .unset, .unset] [(.int ((c0 + (1 : Int32)) &&& (255 : Int32))), (.ref b71)])
    refine own_st (fun t k => XS.iload X71.here hx rfl (hb hby at_75) rfl k) ?_
    refine own_st (fun t k => XS.bipush X71.here hx rfl (hb hby at_77) k) ?_
    refine own_st (fun t k => XS.iand X71.here hx rfl (hb hby at_79) rfl k) ?_
    show own_Go _ _ _ _ T71 (mkF m 80 #[.val (.int p0), .val (.int p1), .val (.int p2), .val (.int p3), .val (.int p4), .val (.int (1 : Int32)), .val (.int c0), .val (.int c1), .val (.int c2), .val (.ref b66), .val (.ref b71), .unset, .unset, .unset, .unset, .unset, .unset, .unset, .unset] [(.int (p4 &&& (8 : Int32))), (.int ((c0 + (1 : Int32)) &&& (255 : Int32))), (.ref b71)])
    suffices hj73 : own_Go p.tables e below (own_Fin below s (Q0 Z p0 p1 p2 p3 p4 ra ch h0 n0) 4 277) T71 (mkF m 88 #[.val (.int p0), .val (.int p1), .val (.int p2), .val (.int p3), .val (.int p4), .val (.int (1 : Int32)), .val (.int c0), .val (.int c1), .val (.int c2), .val (.ref b66), .val (.ref b71), .unset, .unset, .unset, .unset, .unset, .unset, .unset, .unset] [(.int (if (p4 &&& (8 : Int32)) = (0 : Int32) then (0 : Int32) else (1 : Int32))), (.int ((c0 + (1 : Int32)) &&& (255 : Int32))), (.ref b71)]) by
      by_cases c80_73 : (p4 &&& (8 : Int32)) = (0 : Int32)
      · rw [if_pos c80_73] at hj73
        refine own_st (fun t k => XS.ifYes X71.here hx rfl (pc0 := 80) (pc' := 87) rfl (hb hby at_80) rfl ((if0 _ _).trans (teq c80_73).1) (by decide) (by decide) k) ?_
        show own_Go _ _ _ _ T71 (mkF m 87 #[.val (.int p0), .val (.int p1), .val (.int p2), .val (.int p3), .val (.int p4), .val (.int (1 : Int32)), .val (.int c0), .val (.int c1), .val (.int c2), .val (.ref b66), .val (.ref b71), .unset, .unset, .unset, .unset, .unset, .unset, .unset, .unset] [(.int ((c0 + (1 : Int32)) &&& (255 : Int32))), (.ref b71)])
        refine own_st (fun t k => XS.iconst X71.here hx rfl (hb hby at_87) k) ?_
        show own_Go _ _ _ _ T71 (mkF m 88 #[.val (.int p0), .val (.int p1), .val (.int p2), .val (.int p3), .val (.int p4), .val (.int (1 : Int32)), .val (.int c0), .val (.int c1), .val (.int c2), .val (.ref b66), .val (.ref b71), .unset, .unset, .unset, .unset, .unset, .unset, .unset, .unset] [(.int (0 : Int32)), (.int ((c0 + (1 : Int32)) &&& (255 : Int32))), (.ref b71)])
        exact hj73
      · rw [if_neg c80_73] at hj73
        refine own_st (fun t k => XS.ifNo X71.here hx rfl (hb hby at_80) rfl ((if0 _ _).trans (feq c80_73).1) k) ?_
        show own_Go _ _ _ _ T71 (mkF m 83 #[.val (.int p0), .val (.int p1), .val (.int p2), .val (.int p3), .val (.int p4), .val (.int (1 : Int32)), .val (.int c0), .val (.int c1), .val (.int c2), .val (.ref b66), .val (.ref b71), .unset, .unset, .unset, .unset, .unset, .unset, .unset, .unset] [(.int ((c0 + (1 : Int32)) &&& (255 : Int32))), (.ref b71)])
        refine own_st (fun t k => XS.iconst X71.here hx rfl (hb hby at_83) k) ?_
        show own_Go _ _ _ _ T71 (mkF m 84 #[.val (.int p0), .val (.int p1), .val (.int p2), .val (.int p3), .val (.int p4), .val (.int (1 : Int32)), .val (.int c0), .val (.int c1), .val (.int c2), .val (.ref b66), .val (.ref b71), .unset, .unset, .unset, .unset, .unset, .unset, .unset, .unset] [(.int (1 : Int32)), (.int ((c0 + (1 : Int32)) &&& (255 : Int32))), (.ref b71)])
        refine own_st (fun t k => XS.goto X71.here hx rfl (pc0 := 84) (pc' := 88) rfl (hb hby at_84) (by decide) (by decide) k) ?_
        show own_Go _ _ _ _ T71 (mkF m 88 #[.val (.int p0), .val (.int p1), .val (.int p2), .val (.int p3), .val (.int p4), .val (.int (1 : Int32)), .val (.int c0), .val (.int c1), .val (.int c2), .val (.ref b66), .val (.ref b71), .unset, .unset, .unset, .unset, .unset, .unset, .unset, .unset] [(.int (1 : Int32)), (.int ((c0 + (1 : Int32)) &&& (255 : Int32))), (.ref b71)])
        exact hj73
    show own_Go _ _ _ _ T71 (mkF m 88 #[.val (.int p0), .val (.int p1), .val (.int p2), .val (.int p3), .val (.int p4), .val (.int (1 : Int32)), .val (.int c0), .val (.int c1), .val (.int c2), .val (.ref b66), .val (.ref b71), .unset, .unset, .unset, .unset, .unset, .unset, .unset, .unset] [(.int (if (p4 &&& (8 : Int32)) = (0 : Int32) then (0 : Int32) else (1 : Int32))), (.int ((c0 + (1 : Int32)) &&& (255 : Int32))), (.ref b71)])
    have K0_74 := (K0_70.ext E71)
    obtain ⟨cl75, Ar75, Sz75, al75⟩ := B71
    have hin75 : ¬ (((c0 + (1 : Int32)) &&& (255 : Int32)) < 0 ∨ cl75.slots.size ≤ (((c0 + (1 : Int32)) &&& (255 : Int32))).toNatClampNeg) := inb_of Sz75 (own_b255 _)
    obtain ⟨T76, h76, X76, e76, W76, st76⟩ := stZ X71 hx hZ e71 Ar75 (j := ((c0 + (1 : Int32)) &&& (255 : Int32))) hin75 (g := (mkF m 88 #[.val (.int p0), .val (.int p1), .val (.int p2), .val (.int p3), .val (.int p4), .val (.int (1 : Int32)), .val (.int c0), .val (.int c1), .val (.int c2), .val (.ref b66), .val (.ref b71), .unset, .unset, .unset, .unset, .unset, .unset, .unset, .unset] [(.int (if (p4 &&& (8 : Int32)) = (0 : Int32) then (0 : Int32) else (1 : Int32))), (.int ((c0 + (1 : Int32)) &&& (255 : Int32))), (.ref b71)])) rfl rfl (hb hby at_88)
    have B76 := own_B_set Ar75 Sz75 al75 W76
    obtain ⟨_, X76, N76⟩ := own_hide X76 (Fr.snoc X76 N69 g_b71)
    refine own_st st76 ?_
    show own_Go _ _ _ _ T76 (mkF m 89 #[.val (.int p0), .val (.int p1), .val (.int p2), .val (.int p3), .val (.int p4), .val (.int (1 : Int32)), .val (.int c0), .val (.int c1), .val (.int c2), .val (.ref b66), .val (.ref b71), .unset, .unset, .unset, .unset, .unset, .unset, .unset, .unset] [])
    refine own_st (fun t k => XS.aload X76.here hx rfl (hb hby at_89) rfl rfl k) ?_
    refine own_st (fun t k => XS.iload X76.here hx rfl (hb hby at_91) rfl k) ?_
    refine own_st (fun t k => XS.sipush X76.here hx rfl (hb hby at_93) k) ?_
    refine own_st (fun t k => XS.iand X76.here hx rfl (hb hby at_96) rfl k) ?_
    show own_Go _ _ _ _ T76 (mkF m 97 #[.val (.int p0), .val (.int p1), .val (.int p2), .val (.int p3), .val (.int p4), .val (.int (1 : Int32)), .val (.int c0), .val (.int c1), .val (.int c2), .val (.ref b66), .val (.ref b71), .unset, .unset, .unset, .unset, .unset, .unset, .unset, .unset] [(.int (c0 &&& (255 : Int32))), (.ref b71)])
    refine own_st (fun t k => XS.iload X76.here hx rfl (hb hby at_97) rfl k) ?_
    refine own_st (fun t k => XS.iconst X76.here hx rfl (hb hby at_99) k) ?_
    refine own_st (fun t k => XS.iand X76.here hx rfl (hb hby at_100) rfl k) ?_
    show own_Go _ _ _ _ T76 (mkF m 101 #[.val (.int p0), .val (.int p1), .val (.int p2), .val (.int p3), .val (.int p4), .val (.int (1 : Int32)), .val (.int c0), .val (.int c1), .val (.int c2), .val (.ref b66), .val (.ref b71), .unset, .unset, .unset, .unset, .unset, .unset, .unset, .unset] [(.int (p4 &&& (1 : Int32))), (.int (c0 &&& (255 : Int32))), (.ref b71)])
    suffices hj77 : own_Go p.tables e below (own_Fin below s (Q0 Z p0 p1 p2 p3 p4 ra ch h0 n0) 4 277) T76 (mkF m 109 #[.val (.int p0), .val (.int p1), .val (.int p2), .val (.int p3), .val (.int p4), .val (.int (1 : Int32)), .val (.int c0), .val (.int c1), .val (.int c2), .val (.ref b66), .val (.ref b71), .unset, .unset, .unset, .unset, .unset, .unset, .unset, .unset] [(.int (if (p4 &&& (1 : Int32)) = (0 : Int32) then (0 : Int32) else (1 : Int32))), (.int (c0 &&& (255 : Int32))), (.ref b71)]) by
      by_cases c101_77 : (p4 &&& (1 : Int32)) = (0 : Int32)
      · rw [if_pos c101_77] at hj77
        refine own_st (fun t k => XS.ifYes X76.here hx rfl (pc0 := 101) (pc' := 108) rfl (hb hby at_101) rfl ((if0 _ _).trans (teq c101_77).1) (by decide) (by decide) k) ?_
        show own_Go _ _ _ _ T76 (mkF m 108 #[.val (.int p0), .val (.int p1), .val (.int p2), .val (.int p3), .val (.int p4), .val (.int (1 : Int32)), .val (.int c0), .val (.int c1), .val (.int c2), .val (.ref b66), .val (.ref b71), .unset, .unset, .unset, .unset, .unset, .unset, .unset, .unset] [(.int (c0 &&& (255 : Int32))), (.ref b71)])
        refine own_st (fun t k => XS.iconst X76.here hx rfl (hb hby at_108) k) ?_
        show own_Go _ _ _ _ T76 (mkF m 109 #[.val (.int p0), .val (.int p1), .val (.int p2), .val (.int p3), .val (.int p4), .val (.int (1 : Int32)), .val (.int c0), .val (.int c1), .val (.int c2), .val (.ref b66), .val (.ref b71), .unset, .unset, .unset, .unset, .unset, .unset, .unset, .unset] [(.int (0 : Int32)), (.int (c0 &&& (255 : Int32))), (.ref b71)])
        exact hj77
      · rw [if_neg c101_77] at hj77
        refine own_st (fun t k => XS.ifNo X76.here hx rfl (hb hby at_101) rfl ((if0 _ _).trans (feq c101_77).1) k) ?_
        show own_Go _ _ _ _ T76 (mkF m 104 #[.val (.int p0), .val (.int p1), .val (.int p2), .val (.int p3), .val (.int p4), .val (.int (1 : Int32)), .val (.int c0), .val (.int c1), .val (.int c2), .val (.ref b66), .val (.ref b71), .unset, .unset, .unset, .unset, .unset, .unset, .unset, .unset] [(.int (c0 &&& (255 : Int32))), (.ref b71)])
        refine own_st (fun t k => XS.iconst X76.here hx rfl (hb hby at_104) k) ?_
        show own_Go _ _ _ _ T76 (mkF m 105 #[.val (.int p0), .val (.int p1), .val (.int p2), .val (.int p3), .val (.int p4), .val (.int (1 : Int32)), .val (.int c0), .val (.int c1), .val (.int c2), .val (.ref b66), .val (.ref b71), .unset, .unset, .unset, .unset, .unset, .unset, .unset, .unset] [(.int (1 : Int32)), (.int (c0 &&& (255 : Int32))), (.ref b71)])
        refine own_st (fun t k => XS.goto X76.here hx rfl (pc0 := 105) (pc' := 109) rfl (hb hby at_105) (by decide) (by decide) k) ?_
        show own_Go _ _ _ _ T76 (mkF m 109 #[.val (.int p0), .val (.int p1), .val (.int p2), .val (.int p3), .val (.int p4), .val (.int (1 : Int32)), .val (.int c0), .val (.int c1), .val (.int c2), .val (.ref b66), .val (.ref b71), .unset, .unset, .unset, .unset, .unset, .unset, .unset, .unset] [(.int (1 : Int32)), (.int (c0 &&& (255 : Int32))), (.ref b71)])
        exact hj77
    show own_Go _ _ _ _ T76 (mkF m 109 #[.val (.int p0), .val (.int p1), .val (.int p2), .val (.int p3), .val (.int p4), .val (.int (1 : Int32)), .val (.int c0), .val (.int c1), .val (.int c2), .val (.ref b66), .val (.ref b71), .unset, .unset, .unset, .unset, .unset, .unset, .unset, .unset] [(.int (if (p4 &&& (1 : Int32)) = (0 : Int32) then (0 : Int32) else (1 : Int32))), (.int (c0 &&& (255 : Int32))), (.ref b71)])
    have K0_78 := (K0_74.wr W76 (Or.inr sz_b71))
    obtain ⟨cl79, Ar79, Sz79, al79⟩ := B76
    have hin79 : ¬ ((c0 &&& (255 : Int32)) < 0 ∨ cl79.slots.size ≤ ((c0 &&& (255 : Int32))).toNatClampNeg) := inb_of Sz79 (own_b255 _)
    obtain ⟨T80, h80, X80, e80, W80, st80⟩ := stZ X76 hx hZ e76 Ar79 (j := (c0 &&& (255 : Int32))) hin79 (g := (mkF m 109 #[.val (.int p0), .val (.int p1), .val (.int p2), .val (.int p3), .val (.int p4), .val (.int (1 : Int32)), .val (.int c0), .val (.int c1), .val (.int c2), .val (.ref b66), .val (.ref b71), .unset, .unset, .unset, .unset, .unset, .unset, .unset, .unset] [(.int (if (p4 &&& (1 : Int32)) = (0 : Int32) then (0 : Int32) else (1 : Int32))), (.int (c0 &&& (255 : Int32))), (.ref b71)])) rfl rfl (hb hby at_109)
    have B80 := own_B_set Ar79 Sz79 al79 W80
    obtain ⟨_, X80, N80⟩ := own_hide X80 (Fr.snoc X80 N76 g_b71)
    refine own_st st80 ?_
    show own_Go _ _ _ _ T80 (mkF m 110 #[.val (.int p0), .val (.int p1), .val (.int p2), .val (.int p3), .val (.int p4), .val (.int (1 : Int32)), .val (.int c0), .val (.int c1), .val (.int c2), .val (.ref b66), .val (.ref b71), .unset, .unset, .unset, .unset, .unset, .unset, .unset, .unset] [])
    refine own_st (fun t k => XS.aload X80.here hx rfl (hb hby at_110) rfl rfl k) ?_
    refine own_st (fun t k => XS.iload X80.here hx rfl (hb hby at_112) rfl k) ?_
    refine own_st (fun t k => XS.sipush X80.here hx rfl (hb hby at_114) k) ?_
    refine own_st (fun t k => XS.iand X80.here hx rfl (hb hby at_117) rfl k) ?_
    show own_Go _ _ _ _ T80 (mkF m 118 #[.val (.int p0), .val (.int p1), .val (.int p2), .val (.int p3), .val (.int p4), .val (.int (1 : Int32)), .val (.int c0), .val (.int c1), .val (.int c2), .val (.ref b66), .val (.ref b71), .unset, .unset, .unset, .unset, .unset, .unset, .unset, .unset] [(.int (c1 &&& (255 : Int32))), (.ref b71)])
    refine own_st (fun t k => XS.iload X80.here hx rfl (hb hby at_118) rfl k) ?_
    refine own_st (fun t k => XS.iconst X80.here hx rfl (hb hby at_120) k) ?_
    refine own_st (fun t k => XS.iand X80.here hx rfl (hb hby at_121) rfl k) ?_
    show own_Go _ _ _ _ T80 (mkF m 122 #[.val (.int p0), .val (.int p1), .val (.int p2), .val (.int p3), .val (.int p4), .val (.int (1 : Int32)), .val (.int c0), .val (.int c1), .val (.int c2), .val (.ref b66), .val (.ref b71), .unset, .unset, .unset, .unset, .unset, .unset, .unset, .unset] [(.int (p4 &&& (2 : Int32))), (.int (c1 &&& (255 : Int32))), (.ref b71)])
    suffices hj81 : own_Go p.tables e below (own_Fin below s (Q0 Z p0 p1 p2 p3 p4 ra ch h0 n0) 4 277) T80 (mkF m 130 #[.val (.int p0), .val (.int p1), .val (.int p2), .val (.int p3), .val (.int p4), .val (.int (1 : Int32)), .val (.int c0), .val (.int c1), .val (.int c2), .val (.ref b66), .val (.ref b71), .unset, .unset, .unset, .unset, .unset, .unset, .unset, .unset] [(.int (if (p4 &&& (2 : Int32)) = (0 : Int32) then (0 : Int32) else (1 : Int32))), (.int (c1 &&& (255 : Int32))), (.ref b71)]) by
      by_cases c122_81 : (p4 &&& (2 : Int32)) = (0 : Int32)
      · rw [if_pos c122_81] at hj81
        refine own_st (fun t k => XS.ifYes X80.here hx rfl (pc0 := 122) (pc' := 129) rfl (hb hby at_122) rfl ((if0 _ _).trans (teq c122_81).1) (by decide) (by decide) k) ?_
        show own_Go _ _ _ _ T80 (mkF m 129 #[.val (.int p0), .val (.int p1), .val (.int p2), .val (.int p3), .val (.int p4), .val (.int (1 : Int32)), .val (.int c0), .val (.int c1), .val (.int c2), .val (.ref b66), .val (.ref b71), .unset, .unset, .unset, .unset, .unset, .unset, .unset, .unset] [(.int (c1 &&& (255 : Int32))), (.ref b71)])
        refine own_st (fun t k => XS.iconst X80.here hx rfl (hb hby at_129) k) ?_
        show own_Go _ _ _ _ T80 (mkF m 130 #[.val (.int p0), .val (.int p1), .val (.int p2), .val (.int p3), .val (.int p4), .val (.int (1 : Int32)), .val (.int c0), .val (.int c1), .val (.int c2), .val (.ref b66), .val (.ref b71), .unset, .unset, .unset, .unset, .unset, .unset, .unset, .unset] [(.int (0 : Int32)), (.int (c1 &&& (255 : Int32))), (.ref b71)])
        exact hj81
      · rw [if_neg c122_81] at hj81
        refine own_st (fun t k => XS.ifNo X80.here hx rfl (hb hby at_122) rfl ((if0 _ _).trans (feq c122_81).1) k) ?_
        show own_Go _ _ _ _ T80 (mkF m 125 #[.val (.int p0), .val (.int p1), .val (.int p2), .val (.int p3), .val (.int p4), .val (.int (1 : Int32)), .val (.int c0), .val (.int c1), .val (.int c2), .val (.ref b66), .val (.ref b71), .unset, .unset, .unset, .unset, .unset, .unset, .unset, .unset] [(.int (c1 &&& (255 : Int32))), (.ref b71)])
        refine own_st (fun t k => XS.iconst X80.here hx rfl (hb hby at_125) k) ?_
        show own_Go _ _ _ _ T80 (mkF m 126 #[.val (.int p0), .val (.int p1), .val (.int p2), .val (.int p3), .val (.int p4), .val (.int (1 : Int32)), .val (.int c0), .val (.int c1), .val (.int c2), .val (.ref b66), .val (.ref b71), .unset, .unset, .unset, .unset, .unset, .unset, .unset, .unset] [(.int (1 : Int32)), (.int (c1 &&& (255 : Int32))), (.ref b71)])
        refine own_st (fun t k => XS.goto X80.here hx rfl (pc0 := 126) (pc' := 130) rfl (hb hby at_126) (by decide) (by decide) k) ?_
        show own_Go _ _ _ _ T80 (mkF m 130 #[.val (.int p0), .val (.int p1), .val (.int p2), .val (.int p3), .val (.int p4), .val (.int (1 : Int32)), .val (.int c0), .val (.int c1), .val (.int c2), .val (.ref b66), .val (.ref b71), .unset, .unset, .unset, .unset, .unset, .unset, .unset, .unset] [(.int (1 : Int32)), (.int (c1 &&& (255 : Int32))), (.ref b71)])
        exact hj81
    show own_Go _ _ _ _ T80 (mkF m 130 #[.val (.int p0), .val (.int p1), .val (.int p2), .val (.int p3), .val (.int p4), .val (.int (1 : Int32)), .val (.int c0), .val (.int c1), .val (.int c2), .val (.ref b66), .val (.ref b71), .unset, .unset, .unset, .unset, .unset, .unset, .unset, .unset] [(.int (if (p4 &&& (2 : Int32)) = (0 : Int32) then (0 : Int32) else (1 : Int32))), (.int (c1 &&& (255 : Int32))), (.ref b71)])
    have K0_82 := (K0_78.wr W80 (Or.inr sz_b71))
    obtain ⟨cl83, Ar83, Sz83, al83⟩ := B80
    have hin83 : ¬ ((c1 &&& (255 : Int32)) < 0 ∨ cl83.slots.size ≤ ((c1 &&& (255 : Int32))).toNatClampNeg) := inb_of Sz83 (own_b255 _)
    obtain ⟨T84, h84, X84, e84, W84, st84⟩ := stZ X80 hx hZ e80 Ar83 (j := (c1 &&& (255 : Int32))) hin83 (g := (mkF m 130 #[.val (.int p0), .val (.int p1), .val (.int p2), .val (.int p3), .val (.int p4), .val (.int (1 : Int32)), .val (.int c0), .val (.int c1), .val (.int c2), .val (.ref b66), .val (.ref b71), .unset, .unset, .unset, .unset, .unset, .unset, .unset, .unset] [(.int (if (p4 &&& (2 : Int32)) = (0 : Int32) then (0 : Int32) else (1 : Int32))), (.int (c1 &&& (255 : Int32))), (.ref b71)])) rfl rfl (hb hby at_130)
    have B84 := own_B_set Ar83 Sz83 al83 W84
    obtain ⟨_, X84, N84⟩ := own_hide X84 (Fr.snoc X84 N80 g_b71)
    refine own_st st84 ?_
    show own_Go _ _ _ _ T84 (mkF m 131 #[.val (.int p0), .val (.int p1), .val (.int p2), .val (.int p3), .val (.int p4), .val (.int (1 : Int32)), .val (.int c0), .val (.int c1), .val (.int c2), .val (.ref b66), .val (.ref b71), .unset, .unset, .unset, .unset, .unset, .unset, .unset, .unset] [])
    refine own_st (fun t k => XS.aload X84.here hx rfl (hb hby at_131) rfl rfl k) ?_
    refine own_st (fun t k => XS.iload X84.here hx rfl (hb hby at_133) rfl k) ?_
    refine own_st (fun t k => XS.sipush X84.here hx rfl (hb hby at_135) k) ?_
    refine own_st (fun t k => XS.iand X84.here hx rfl (hb hby at_138) rfl k) ?_
    show own_Go _ _ _ _ T84 (mkF m 139 #[.val (.int p0), .val (.int p1), .val (.int p2), .val (.int p3), .val (.int p4), .val (.int (1 : Int32)), .val (.int c0), .val (.int c1), .val (.int c2), .val (.ref b66), .val (.ref b71), .unset, .unset, .unset, .unset, .unset, .unset, .unset, .unset] [(.int (c2 &&& (255 : Int32))), (.ref b71)])
    refine own_st (fun t k => XS.iload X84.here hx rfl (hb hby at_139) rfl k) ?_
    refine own_st (fun t k => XS.iconst X84.here hx rfl (hb hby at_141) k) ?_
    refine own_st (fun t k => XS.iand X84.here hx rfl (hb hby at_142) rfl k) ?_
    show own_Go _ _ _ _ T84 (mkF m 143 #[.val (.int p0), .val (.int p1), .val (.int p2), .val (.int p3), .val (.int p4), .val (.int (1 : Int32)), .val (.int c0), .val (.int c1), .val (.int c2), .val (.ref b66), .val (.ref b71), .unset, .unset, .unset, .unset, .unset, .unset, .unset, .unset] [(.int (p4 &&& (4 : Int32))), (.int (c2 &&& (255 : Int32))), (.ref b71)])
    suffices hj85 : own_Go p.tables e below (own_Fin below s (Q0 Z p0 p1 p2 p3 p4 ra ch h0 n0) 4 277) T84 (mkF m 151 #[.val (.int p0), .val (.int p1), .val (.int p2), .val (.int p3), .val (.int p4), .val (.int (1 : Int32)), .val (.int c0), .val (.int c1), .val (.int c2), .val (.ref b66), .val (.ref b71), .unset, .unset, .unset, .unset, .unset, .unset, .unset, .unset] [(.int (if (p4 &&& (4 : Int32)) = (0 : Int32) then (0 : Int32) else (1 : Int32))), (.int (c2 &&& (255 : Int32))), (.ref b71)]) by
      by_cases c143_85 : (p4 &&& (4 : Int32)) = (0 : Int32)
      · rw [if_pos c143_85] at hj85
        refine own_st (fun t k => XS.ifYes X84.here hx rfl (pc0 := 143) (pc' := 150) rfl (hb hby at_143) rfl ((if0 _ _).trans (teq c143_85).1) (by decide) (by decide) k) ?_
        show own_Go _ _ _ _ T84 (mkF m 150 #[.val (.int p0), .val (.int p1), .val (.int p2), .val (.int p3), .val (.int p4), .val (.int (1 : Int32)), .val (.int c0), .val (.int c1), .val (.int c2), .val (.ref b66), .val (.ref b71), .unset, .unset, .unset, .unset, .unset, .unset, .unset, .unset] [(.int (c2 &&& (255 : Int32))), (.ref b71)])
        refine own_st (fun t k => XS.iconst X84.here hx rfl (hb hby at_150) k) ?_
        show own_Go _ _ _ _ T84 (mkF m 151 #[.val (.int p0), .val (.int p1), .val (.int p2), .val (.int p3), .val (.int p4), .val (.int (1 : Int32)), .val (.int c0), .val (.int c1), .val (.int c2), .val (.ref b66), .val (.ref b71), .unset, .unset, .unset, .unset, .unset, .unset, .unset, .unset] [(.int (0 : Int32)), (.int (c2 &&& (255 : Int32))), (.ref b71)])
        exact hj85
      · rw [if_neg c143_85] at hj85
        refine own_st (fun t k => XS.ifNo X84.here hx rfl (hb hby at_143) rfl ((if0 _ _).trans (feq c143_85).1) k) ?_
        show own_Go _ _ _ _ T84 (mkF m 146 #[.val (.int p0), .val (.int p1), .val (.int p2), .val (.int p3), .val (.int p4), .val (.int (1 : Int32)), .val (.int c0), .val (.int c1), .val (.int c2), .val (.ref b66), .val (.ref b71), .unset, .unset, .unset, .unset, .unset, .unset, .unset, .unset] [(.int (c2 &&& (255 : Int32))), (.ref b71)])
        refine own_st (fun t k => XS.iconst X84.here hx rfl (hb hby at_146) k) ?_
        show own_Go _ _ _ _ T84 (mkF m 147 #[.val (.int p0), .val (.int p1), .val (.int p2), .val (.int p3), .val (.int p4), .val (.int (1 : Int32)), .val (.int c0), .val (.int c1), .val (.int c2), .val (.ref b66), .val (.ref b71), .unset, .unset, .unset, .unset, .unset, .unset, .unset, .unset] [(.int (1 : Int32)), (.int (c2 &&& (255 : Int32))), (.ref b71)])
        refine own_st (fun t k => XS.goto X84.here hx rfl (pc0 := 147) (pc' := 151) rfl (hb hby at_147) (by decide) (by decide) k) ?_
        show own_Go _ _ _ _ T84 (mkF m 151 #[.val (.int p0), .val (.int p1), .val (.int p2), .val (.int p3), .val (.int p4), .val (.int (1 : Int32)), .val (.int c0), .val (.int c1), .val (.int c2), .val (.ref b66), .val (.ref b71), .unset, .unset, .unset, .unset, .unset, .unset, .unset, .unset] [(.int (1 : Int32)), (.int (c2 &&& (255 : Int32))), (.ref b71)])
        exact hj85
    show own_Go _ _ _ _ T84 (mkF m 151 #[.val (.int p0), .val (.int p1), .val (.int p2), .val (.int p3), .val (.int p4), .val (.int (1 : Int32)), .val (.int c0), .val (.int c1), .val (.int c2), .val (.ref b66), .val (.ref b71), .unset, .unset, .unset, .unset, .unset, .unset, .unset, .unset] [(.int (if (p4 &&& (4 : Int32)) = (0 : Int32) then (0 : Int32) else (1 : Int32))), (.int (c2 &&& (255 : Int32))), (.ref b71)])
    have K0_86 := (K0_82.wr W84 (Or.inr sz_b71))
    obtain ⟨cl87, Ar87, Sz87, al87⟩ := B84
    have hin87 : ¬ ((c2 &&& (255 : Int32)) < 0 ∨ cl87.slots.size ≤ ((c2 &&& (255 : Int32))).toNatClampNeg) := inb_of Sz87 (own_b255 _)
    obtain ⟨T88, h88, X88, e88, W88, st88⟩ := stZ X84 hx hZ e84 Ar87 (j := (c2 &&& (255 : Int32))) hin87 (g := (mkF m 151 #[.val (.int p0), .val (.int p1), .val (.int p2), .val (.int p3), .val (.int p4), .val (.int (1 : Int32)), .val (.int c0), .val (.int c1), .val (.int c2), .val (.ref b66), .val (.ref b71), .unset, .unset, .unset, .unset, .unset, .unset, .unset, .unset] [(.int (if (p4 &&& (4 : Int32)) = (0 : Int32) then (0 : Int32) else (1 : Int32))), (.int (c2 &&& (255 : Int32))), (.ref b71)])) rfl rfl (hb hby at_151)
    have B88 := own_B_set Ar87 Sz87 al87 W88
    obtain ⟨_, X88, N88⟩ := own_hide X88 (Fr.snoc X88 N84 g_b71)
    refine own_st st88 ?_
    show own_Go _ _ _ _ T88 (mkF m 152 #[.val (.int p0), .val (.int p1), .val (.int p2), .val (.int p3), .val (.int p4), .val (.int (1 : Int32)), .val (.int c0), .val (.int c1), .val (.int c2), .val (.ref b66), .val (.ref b71), .unset, .unset, .unset, .unset, .unset, .unset, .unset, .unset] [])
    obtain ⟨ck, Tk⟩ := own_B_tab B88
    refine own_st (fun t k => XS.aload X88.here hx rfl (hb hby at_152) rfl rfl k) ?_
    refine own_st (fun t k => XS.iload X88.here hx rfl (hb hby at_154) rfl k) ?_
    refine own_st (fun t k => XS.sipush X88.here hx rfl (hb hby at_156) k) ?_
    refine own_st (fun t k => XS.iand X88.here hx rfl (hb hby at_159) rfl k) ?_
    show own_Go _ _ _ _ T88 (mkF m 160 #[.val (.int p0), .val (.int p1), .val (.int p2), .val (.int p3), .val (.int p4), .val (.int (1 : Int32)), .val (.int c0), .val (.int c1), .val (.int c2), .val (.ref b66), .val (.ref b71), .unset, .unset, .unset, .unset, .unset, .unset, .unset, .unset] [(.int (c0 &&& (255 : Int32))), (.ref b71)])
    have hin89 : ¬ ((c0 &&& (255 : Int32)) < 0 ∨ ck.slots.size ≤ ((c0 &&& (255 : Int32))).toNatClampNeg) := inb_of Tk.2.1 (own_b255 _)
    have hat89 : ck.slots[((c0 &&& (255 : Int32))).toNatClampNeg]? = some (.int (own_kf ck c0)) := Tk.2.2.2 _ hin89
    refine own_st (X88.baloadBooleans hx (j := (c0 &&& (255 : Int32))) (v := (.int (own_kf ck c0))) (by rw [e88]; exact Tk.1.1) (State.isArrayOf_alike hZ.alike Tk.1.2.1) Tk.1.2.2 hin89 hat89 (g := (mkF m 160 #[.val (.int p0), .val (.int p1), .val (.int p2), .val (.int p3), .val (.int p4), .val (.int (1 : Int32)), .val (.int c0), .val (.int c1), .val (.int c2), .val (.ref b66), .val (.ref b71), .unset, .unset, .unset, .unset, .unset, .unset, .unset, .unset] [(.int (c0 &&& (255 : Int32))), (.ref b71)])) rfl rfl (hb hby at_160)) ?_
    show own_Go _ _ _ _ T88 (mkF m 161 #[.val (.int p0), .val (.int p1), .val (.int p2), .val (.int p3), .val (.int p4), .val (.int (1 : Int32)), .val (.int c0), .val (.int c1), .val (.int c2), .val (.ref b66), .val (.ref b71), .unset, .unset, .unset, .unset, .unset, .unset, .unset, .unset] [(.int (own_kf ck c0))])
    refine own_st (fun t k => XS.istore X88.here hx rfl (hb hby at_161) rfl (l' := #[.val (.int p0), .val (.int p1), .val (.int p2), .val (.int p3), .val (.int p4), .val (.int (1 : Int32)), .val (.int c0), .val (.int c1), .val (.int c2), .val (.ref b66), .val (.ref b71), .val (.int (own_kf ck c0)), .unset, .unset, .unset, .unset, .unset, .unset, .unset]) rfl k) ?_
    show own_Go _ _ _ _ T88 (mkF m 163 #[.val (.int p0), .val (.int p1), .val (.int p2), .val (.int p3), .val (.int p4), .val (.int (1 : Int32)), .val (.int c0), .val (.int c1), .val (.int c2), .val (.ref b66), .val (.ref b71), .val (.int (own_kf ck c0)), .unset, .unset, .unset, .unset, .unset, .unset, .unset] [])
    refine own_st (fun t k => XS.aload X88.here hx rfl (hb hby at_163) rfl rfl k) ?_
    refine own_st (fun t k => XS.iload X88.here hx rfl (hb hby at_165) rfl k) ?_
    refine own_st (fun t k => XS.sipush X88.here hx rfl (hb hby at_167) k) ?_
    refine own_st (fun t k => XS.iand X88.here hx rfl (hb hby at_170) rfl k) ?_
    show own_Go _ _ _ _ T88 (mkF m 171 #[.val (.int p0), .val (.int p1), .val (.int p2), .val (.int p3), .val (.int p4), .val (.int (1 : Int32)), .val (.int c0), .val (.int c1), .val (.int c2), .val (.ref b66), .val (.ref b71), .val (.int (own_kf ck c0)), .unset, .unset, .unset, .unset, .unset, .unset, .unset] [(.int (c1 &&& (255 : Int32))), (.ref b71)])
    have hin90 : ¬ ((c1 &&& (255 : Int32)) < 0 ∨ ck.slots.size ≤ ((c1 &&& (255 : Int32))).toNatClampNeg) := inb_of Tk.2.1 (own_b255 _)
    have hat90 : ck.slots[((c1 &&& (255 : Int32))).toNatClampNeg]? = some (.int (own_kf ck c1)) := Tk.2.2.2 _ hin90
    refine own_st (X88.baloadBooleans hx (j := (c1 &&& (255 : Int32))) (v := (.int (own_kf ck c1))) (by rw [e88]; exact Tk.1.1) (State.isArrayOf_alike hZ.alike Tk.1.2.1) Tk.1.2.2 hin90 hat90 (g := (mkF m 171 #[.val (.int p0), .val (.int p1), .val (.int p2), .val (.int p3), .val (.int p4), .val (.int (1 : Int32)), .val (.int c0), .val (.int c1), .val (.int c2), .val (.ref b66), .val (.ref b71), .val (.int (own_kf ck c0)), .unset, .unset, .unset, .unset, .unset, .unset, .unset] [(.int (c1 &&& (255 : Int32))), (.ref b71)])) rfl rfl (hb hby at_171)) ?_
    show own_Go _ _ _ _ T88 (mkF m 172 #[.val (.int p0), .val (.int p1), .val (.int p2), .val (.int p3), .val (.int p4), .val (.int (1 : Int32)), .val (.int c0), .val (.int c1), .val (.int c2), .val (.ref b66), .val (.ref b71), .val (.int (own_kf ck c0)), .unset, .unset, .unset, .unset, .unset, .unset, .unset] [(.int (own_kf ck c1))])
    refine own_st (fun t k => XS.istore X88.here hx rfl (hb hby at_172) rfl (l' := #[.val (.int p0), .val (.int p1), .val (.int p2), .val (.int p3), .val (.int p4), .val (.int (1 : Int32)), .val (.int c0), .val (.int c1), .val (.int c2), .val (.ref b66), .val (.ref b71), .val (.int (own_kf ck c0)), .val (.int (own_kf ck c1)), .unset, .unset, .unset, .unset, .unset, .unset]) rfl k) ?_
    show own_Go _ _ _ _ T88 (mkF m 174 #[.val (.int p0), .val (.int p1), .val (.int p2), .val (.int p3), .val (.int p4), .val (.int (1 : Int32)), .val (.int c0), .val (.int c1), .val (.int c2), .val (.ref b66), .val (.ref b71), .val (.int (own_kf ck c0)), .val (.int (own_kf ck c1)), .unset, .unset, .unset, .unset, .unset, .unset] [])
    refine own_st (fun t k => XS.aload X88.here hx rfl (hb hby at_174) rfl rfl k) ?_
    refine own_st (fun t k => XS.iload X88.here hx rfl (hb hby at_176) rfl k) ?_
    refine own_st (fun t k => XS.sipush X88.here hx rfl (hb hby at_178) k) ?_
    refine own_st (fun t k => XS.iand X88.here hx rfl (hb hby at_181) rfl k) ?_
    show own_Go _ _ _ _ T88 (mkF m 182 #[.val (.int p0), .val (.int p1), .val (.int p2), .val (.int p3), .val (.int p4), .val (.int (1 : Int32)), .val (.int c0), .val (.int c1), .val (.int c2), .val (.ref b66), .val (.ref b71), .val (.int (own_kf ck c0)), .val (.int (own_kf ck c1)), .unset, .unset, .unset, .unset, .unset, .unset] [(.int (c2 &&& (255 : Int32))), (.ref b71)])
    have hin91 : ¬ ((c2 &&& (255 : Int32)) < 0 ∨ ck.slots.size ≤ ((c2 &&& (255 : Int32))).toNatClampNeg) := inb_of Tk.2.1 (own_b255 _)
    have hat91 : ck.slots[((c2 &&& (255 : Int32))).toNatClampNeg]? = some (.int (own_kf ck c2)) := Tk.2.2.2 _ hin91
    refine own_st (X88.baloadBooleans hx (j := (c2 &&& (255 : Int32))) (v := (.int (own_kf ck c2))) (by rw [e88]; exact Tk.1.1) (State.isArrayOf_alike hZ.alike Tk.1.2.1) Tk.1.2.2 hin91 hat91 (g := (mkF m 182 #[.val (.int p0), .val (.int p1), .val (.int p2), .val (.int p3), .val (.int p4), .val (.int (1 : Int32)), .val (.int c0), .val (.int c1), .val (.int c2), .val (.ref b66), .val (.ref b71), .val (.int (own_kf ck c0)), .val (.int (own_kf ck c1)), .unset, .unset, .unset, .unset, .unset, .unset] [(.int (c2 &&& (255 : Int32))), (.ref b71)])) rfl rfl (hb hby at_182)) ?_
    show own_Go _ _ _ _ T88 (mkF m 183 #[.val (.int p0), .val (.int p1), .val (.int p2), .val (.int p3), .val (.int p4), .val (.int (1 : Int32)), .val (.int c0), .val (.int c1), .val (.int c2), .val (.ref b66), .val (.ref b71), .val (.int (own_kf ck c0)), .val (.int (own_kf ck c1)), .unset, .unset, .unset, .unset, .unset, .unset] [(.int (own_kf ck c2))])
    refine own_st (fun t k => XS.istore X88.here hx rfl (hb hby at_183) rfl (l' := #[.val (.int p0), .val (.int p1), .val (.int p2), .val (.int p3), .val (.int p4), .val (.int (1 : Int32)), .val (.int c0), .val (.int c1), .val (.int c2), .val (.ref b66), .val (.ref b71), .val (.int (own_kf ck c0)), .val (.int (own_kf ck c1)), .val (.int (own_kf ck c2)), .unset, .unset, .unset, .unset, .unset]) rfl k) ?_
    show own_Go _ _ _ _ T88 (mkF m 185 #[.val (.int p0), .val (.int p1), .val (.int p2), .val (.int p3), .val (.int p4), .val (.int (1 : Int32)), .val (.int c0), .val (.int c1), .val (.int c2), .val (.ref b66), .val (.ref b71), .val (.int (own_kf ck c0)), .val (.int (own_kf ck c1)), .val (.int (own_kf ck c2)), .unset, .unset, .unset, .unset, .unset] [])
    refine own_st (fun t k => XS.bipush X88.here hx rfl (hb hby at_185) k) ?_
    show own_Go _ _ _ _ T88 (mkF m 187 #[.val (.int p0), .val (.int p1), .val (.int p2), .val (.int p3), .val (.int p4), .val (.int (1 : Int32)), .val (.int c0), .val (.int c1), .val (.int c2), .val (.ref b66), .val (.ref b71), .val (.int (own_kf ck c0)), .val (.int (own_kf ck c1)), .val (.int (own_kf ck c2)), .unset, .unset, .unset, .unset, .unset] [(.int (9 : Int32))])
    have K0_92 := (K0_86.wr W88 (Or.inr sz_b71))
    obtain ⟨T93, h93, k93, X93, e93, E93, A93, st93⟩ := newP X88 hx hZ (hw _ (List.mem_of_getElem? (i := 0) rfl)) e88 (g := (mkF m 187 #[.val (.int p0), .val (.int p1), .val (.int p2), .val (.int p3), .val (.int p4), .val (.int (1 : Int32)), .val (.int c0), .val (.int c1), .val (.int c2), .val (.ref b66), .val (.ref b71), .val (.int (own_kf ck c0)), .val (.int (own_kf ck c1)), .val (.int (own_kf ck c2)), .unset, .unset, .unset, .unset, .unset] [(.int (9 : Int32))])) rfl (hb hby at_187) rfl (by decide) (cap := 9) (by decide) (by decide) (by decide) (by decide)
    obtain ⟨b93, g93⟩ : ∃ z, z = h88.size := ⟨_, rfl⟩
    rw [← g93] at A93 st93
    have sz_b93 : h0.size ≤ b93 := Nat.le_trans K0_92.1 (Nat.le_of_eq g93.symm)
    have g_b93 : n0 ≤ b93 := Nat.le_trans Z0 sz_b93
    have Arh_94 := (((((Arh_72.ext E71).other W76 ne_ra_b71).other W80 ne_ra_b71).other W84 ne_ra_b71).other W88 ne_ra_b71)
    have ne_ra_b93 : ra ≠ b93 := Nat.ne_of_lt (Nat.lt_of_lt_of_le Arh_94.lt (Nat.le_of_eq g93.symm))
    have V69_95 := (((((V69.ext E71).other W76 ne_b66_b71).other W80 ne_b66_b71).other W84 ne_b66_b71).other W88 ne_b66_b71)
    have ne_b66_b93 : b66 ≠ b93 := Nat.ne_of_lt (Nat.lt_of_lt_of_le V69_95.lt (Nat.le_of_eq g93.symm))
    have ne_b71_b93 : b71 ≠ b93 := Nat.ne_of_lt (Nat.lt_of_lt_of_le Tk.1.lt (Nat.le_of_eq g93.symm))
    have V93 : own_X Z h93 b93 k93 9 [] := own_new (n := 9) A93 (by decide)
    refine own_st st93 ?_
    show own_Go _ _ _ _ T93 (mkF m 189 #[.val (.int p0), .val (.int p1), .val (.int p2), .val (.int p3), .val (.int p4), .val (.int (1 : Int32)), .val (.int c0), .val (.int c1), .val (.int c2), .val (.ref b66), .val (.ref b71), .val (.int (own_kf ck c0)), .val (.int (own_kf ck c1)), .val (.int (own_kf ck c2)), .unset, .unset, .unset, .unset, .unset] [(.ref b93)])
    refine own_st (fun t k => XS.astore X93.here hx rfl (hb hby at_189) rfl rfl (l' := #[.val (.int p0), .val (.int p1), .val (.int p2), .val (.int p3), .val (.int p4), .val (.int (1 : Int32)), .val (.int c0), .val (.int c1), .val (.int c2), .val (.ref b66), .val (.ref b71), .val (.int (own_kf ck c0)), .val (.int (own_kf ck c1)), .val (.int (own_kf ck c2)), .val (.ref b93), .unset, .unset, .unset, .unset]) rfl k) ?_
    show own_Go _ _ _ _ T93 (mkF m 191 #[.val (.int p0), .val (.int p1), .val (.int p2), .val (.int p3), .val (.int p4), .val (.int (1 : Int32)), .val (.int c0), .val (.int c1), .val (.int c2), .val (.ref b66), .val (.ref b71), .val (.int (own_kf ck c0)), .val (.int (own_kf ck c1)), .val (.int (own_kf ck c2)), .val (.ref b93), .unset, .unset, .unset, .unset] [])
    refine own_st (fun t k => XS.iconst X93.here hx rfl (hb hby at_191) k) ?_
    refine own_st (fun t k => XS.istore X93.here hx rfl (hb hby at_192) rfl (l' := #[.val (.int p0), .val (.int p1), .val (.int p2), .val (.int p3), .val (.int p4), .val (.int (1 : Int32)), .val (.int c0), .val (.int c1), .val (.int c2), .val (.ref b66), .val (.ref b71), .val (.int (own_kf ck c0)), .val (.int (own_kf ck c1)), .val (.int (own_kf ck c2)), .val (.ref b93), .val (.int (0 : Int32)), .unset, .unset, .unset]) rfl k) ?_
    show own_Go _ _ _ _ T93 (mkF m 194 #[.val (.int p0), .val (.int p1), .val (.int p2), .val (.int p3), .val (.int p4), .val (.int (1 : Int32)), .val (.int c0), .val (.int c1), .val (.int c2), .val (.ref b66), .val (.ref b71), .val (.int (own_kf ck c0)), .val (.int (own_kf ck c1)), .val (.int (own_kf ck c2)), .val (.ref b93), .val (.int (0 : Int32)), .unset, .unset, .unset] [])
    refine own_st (fun t k => XS.iload X93.here hx rfl (hb hby at_194) rfl k) ?_
    refine own_st (fun t k => XS.ifNo X93.here hx rfl (hb hby at_196) rfl ((if0 _ _).trans (tlt (by decide : (0 : Int32) < (1 : Int32))).2.2.2) k) ?_
    show own_Go _ _ _ _ T93 (mkF m 199 #[.val (.int p0), .val (.int p1), .val (.int p2), .val (.int p3), .val (.int p4), .val (.int (1 : Int32)), .val (.int c0), .val (.int c1), .val (.int c2), .val (.ref b66), .val (.ref b71), .val (.int (own_kf ck c0)), .val (.int (own_kf ck c1)), .val (.int (own_kf ck c2)), .val (.ref b93), .val (.int (0 : Int32)), .unset, .unset, .unset] [])
    refine own_st (fun t k => XS.aload X93.here hx rfl (hb hby at_199) rfl rfl k) ?_
    refine own_st (fun t k => XS.iload X93.here hx rfl (hb hby at_201) rfl k) ?_
    refine own_st (fun t k => XS.iload X93.here hx rfl (hb hby at_203) rfl k) ?_
    refine own_st (fun t k => XS.iload X93.here hx rfl (hb hby at_205) rfl k) ?_
    show own_Go _ _ _ _ T93 (mkF m 207 #[.val (.int p0), .val (.int p1), .val (.int p2), .val (.int p3), .val (.int p4), .val (.int (1 : Int32)), .val (.int c0), .val (.int c1), .val (.int c2), .val (.ref b66), .val (.ref b71), .val (.int (own_kf ck c0)), .val (.int (own_kf ck c1)), .val (.int (own_kf ck c2)), .val (.ref b93), .val (.int (0 : Int32)), .unset, .unset, .unset] [(.int (own_kf ck c0)), (.int c0), (.int (0 : Int32)), (.ref b93)])
    have K0_97 := (K0_92.ext E93)
    obtain ⟨_, _, ⟨T96, L96, k96, n96⟩, -, X96, ⟨Lc96, hQ96, l96, y96, z96⟩, st96⟩ := Jvm.LawKit.callS X93 hx (y := (⟨"shelfmark/IriPatternPercentEncodedPinLaw", "put", "([BIBZ)I"⟩ : MethodName)) hown (mvT hZ (hw _ (List.mem_of_getElem? (i := 2) rfl))) (mvT hZ (hw _ (List.mem_of_getElem? (i := 3) rfl))) (mvT hZ (hw _ (List.mem_of_getElem? (i := 4) rfl))) (mvT hZ (hw _ (List.mem_of_getElem? (i := 5) rfl))) (by decide) (backOf (W := 0) (rm1 l Z a0 hw [] b93 (0 : Int32) c0 (own_kf ck c0) k93 []  h93 n0 (Nat.le_trans Z0 K0_97.1) V93 rfl (by decide) g_b93) hZ (hw _ (List.mem_of_getElem? (i := 5) rfl)) (hw _ (List.mem_of_getElem? (i := 4) rfl)) (by decide) (by decide)) (g := (mkF m 207 #[.val (.int p0), .val (.int p1), .val (.int p2), .val (.int p3), .val (.int p4), .val (.int (1 : Int32)), .val (.int c0), .val (.int c1), .val (.int c2), .val (.ref b66), .val (.ref b71), .val (.int (own_kf ck c0)), .val (.int (own_kf ck c1)), .val (.int (own_kf ck c2)), .val (.ref b93), .val (.int (0 : Int32)), .unset, .unset, .unset] [(.int (own_kf ck c0)), (.int c0), (.int (0 : Int32)), (.ref b93)])) rfl (by rw [hml]; rfl) (argsL := [(.ref b93), (.int (0 : Int32)), (.int c0), (.int (own_kf ck c0))]) (rest := []) (lenOf pd__28_5bBIBZ_29I rfl) rfl (by show 2 * 0 + _ ≤ _; exact Nat.le_of_eq rfl) (hb hby at_207) (fun _ _ => ⟨rfl, e93, (by decide : 3 + 0 ≤ _), (by decide : 266 + 0 ≤ _)⟩)
    dsimp only [Pt.U, Pt.locs, Pt.cells, Pt.slots] at X96 l96 y96 z96 st96 hQ96
    subst l96 y96 z96
    have ns96 : ∀ x ∈ [b93], ∀ cl : Cell, h93[x]? = some cl → cl.vm.isStatics = false := allS (Arv.nostat V93) all0
    obtain ⟨rfl, N96q, K96, V96⟩ := hQ96
    obtain ⟨_, X96, N96⟩ := own_hide X96 (Fr.app N88 N96q)
    refine own_st st96 ?_
    show own_Go _ _ _ _ T96 (mkF m 210 #[.val (.int p0), .val (.int p1), .val (.int p2), .val (.int p3), .val (.int p4), .val (.int (1 : Int32)), .val (.int c0), .val (.int c1), .val (.int c2), .val (.ref b66), .val (.ref b71), .val (.int (own_kf ck c0)), .val (.int (own_kf ck c1)), .val (.int (own_kf ck c2)), .val (.ref b93), .val (.int (0 : Int32)), .unset, .unset, .unset] [(.int (Int32.ofNat ([] ++ own_enc c0 (own_kf ck c0)).length))])
    refine own_st (fun t k => XS.istore X96.here hx rfl (hb hby at_210) rfl (l' := #[.val (.int p0), .val (.int p1), .val (.int p2), .val (.int p3), .val (.int p4), .val (.int (1 : Int32)), .val (.int c0), .val (.int c1), .val (.int c2), .val (.ref b66), .val (.ref b71), .val (.int (own_kf ck c0)), .val (.int (own_kf ck c1)), .val (.int (own_kf ck c2)), .val (.ref b93), .val (.int (Int32.ofNat ([] ++ own_enc c0 (own_kf ck c0)).length)), .unset, .unset, .unset]) rfl k) ?_
    show own_Go _ _ _ _ T96 (mkF m 212 #[.val (.int p0), .val (.int p1), .val (.int p2), .val (.int p3), .val (.int p4), .val (.int (1 : Int32)), .val (.int c0), .val (.int c1), .val (.int c2), .val (.ref b66), .val (.ref b71), .val (.int (own_kf ck c0)), .val (.int (own_kf ck c1)), .val (.int (own_kf ck c2)), .val (.ref b93), .val (.int (Int32.ofNat ([] ++ own_enc c0 (own_kf ck c0)).length)), .unset, .unset, .unset] [])
    refine own_st (fun t k => XS.iload X96.here hx rfl (hb hby at_212) rfl k) ?_
    refine own_st (fun t k => XS.iconst X96.here hx rfl (hb hby at_214) k) ?_
    refine own_st (fun t k => XS.icmpYes X96.here hx rfl (pc0 := 215) (pc' := 231) rfl (hb hby at_215) rfl (flt (by decide : ¬ ((1 : Int32) < (1 : Int32)))).2.2.2 (by decide) (by decide) k) ?_
    show own_Go _ _ _ _ T96 (mkF m 231 #[.val (.int p0), .val (.int p1), .val (.int p2), .val (.int p3), .val (.int p4), .val (.int (1 : Int32)), .val (.int c0), .val (.int c1), .val (.int c2), .val (.ref b66), .val (.ref b71), .val (.int (own_kf ck c0)), .val (.int (own_kf ck c1)), .val (.int (own_kf ck c2)), .val (.ref b93), .val (.int (Int32.ofNat ([] ++ own_enc c0 (own_kf ck c0)).length)), .unset, .unset, .unset] [])
    refine own_st (fun t k => XS.iload X96.here hx rfl (hb hby at_231) rfl k) ?_
    refine own_st (fun t k => XS.iconst X96.here hx rfl (hb hby at_233) k) ?_
    refine own_st (fun t k => XS.icmpYes X96.here hx rfl (pc0 := 234) (pc' := 250) rfl (hb hby at_234) rfl (flt (by decide : ¬ ((2 : Int32) < (1 : Int32)))).2.2.2 (by decide) (by decide) k) ?_
    show own_Go _ _ _ _ T96 (mkF m 250 #[.val (.int p0), .val (.int p1), .val (.int p2), .val (.int p3), .val (.int p4), .val (.int (1 : Int32)), .val (.int c0), .val (.int c1), .val (.int c2), .val (.ref b66), .val (.ref b71), .val (.int (own_kf ck c0)), .val (.int (own_kf ck c1)), .val (.int (own_kf ck c2)), .val (.ref b93), .val (.int (Int32.ofNat ([] ++ own_enc c0 (own_kf ck c0)).length)), .unset, .unset, .unset] [])
    have hfl98 : ([] ++ own_enc c0 (own_kf ck c0)) = (own_flat (own_kf ck) [c0]) := by simp [own_flat]
    have Vx : own_X Z T96.heap b93 k93 9 (own_flat (own_kf ck) [c0]) := hfl98 ▸ V96
    rw [hfl98]
    show own_Go _ _ _ _ T96 (mkF m 250 #[.val (.int p0), .val (.int p1), .val (.int p2), .val (.int p3), .val (.int p4), .val (.int (1 : Int32)), .val (.int c0), .val (.int c1), .val (.int c2), .val (.ref b66), .val (.ref b71), .val (.int (own_kf ck c0)), .val (.int (own_kf ck c1)), .val (.int (own_kf ck c2)), .val (.ref b93), .val (.int (Int32.ofNat (own_flat (own_kf ck) [c0]).length)), .unset, .unset, .unset] [])
    obtain ⟨mm, hmm⟩ : ∃ z, z = Int32.ofNat (own_flat (own_kf ck) [c0]).length := ⟨_, rfl⟩
    rw [← hmm]
    obtain ⟨d0, hd0⟩ : ∃ z, z = own_kf ck c0 := ⟨_, rfl⟩
    rw [← hd0]
    obtain ⟨d1, hd1⟩ : ∃ z, z = own_kf ck c1 := ⟨_, rfl⟩
    rw [← hd1]
    obtain ⟨d2, hd2⟩ : ∃ z, z = own_kf ck c2 := ⟨_, rfl⟩
    rw [← hd2]
    show own_Go _ _ _ _ T96 (mkF m 250 #[.val (.int p0), .val (.int p1), .val (.int p2), .val (.int p3), .val (.int p4), .val (.int (1 : Int32)), .val (.int c0), .val (.int c1), .val (.int c2), .val (.ref b66), .val (.ref b71), .val (.int d0), .val (.int d1), .val (.int d2), .val (.ref b93), .val (.int mm), .unset, .unset, .unset] [])
    refine own_st (fun t k => XS.iload X96.here hx rfl (hb hby at_250) rfl k) ?_
    refine own_st (fun t k => XS.iload X96.here hx rfl (hb hby at_252) rfl k) ?_
    by_cases c254_99 : mm = (1 : Int32)
    ·
      refine own_st (fun t k => XS.icmpNo X96.here hx rfl (hb hby at_254) rfl (teq c254_99).2 k) ?_
      show own_Go _ _ _ _ T96 (mkF m 257 #[.val (.int p0), .val (.int p1), .val (.int p2), .val (.int p3), .val (.int p4), .val (.int (1 : Int32)), .val (.int c0), .val (.int c1), .val (.int c2), .val (.ref b66), .val (.ref b71), .val (.int d0), .val (.int d1), .val (.int d2), .val (.ref b93), .val (.int mm), .unset, .unset, .unset] [])
      refine own_st (fun t k => XS.iconst X96.here hx rfl (hb hby at_257) k) ?_
      refine own_st (fun t k => XS.goto X96.here hx rfl (pc0 := 258) (pc' := 262) rfl (hb hby at_258) (by decide) (by decide) k) ?_
      show own_Go _ _ _ _ T96 (mkF m 262 #[.val (.int p0), .val (.int p1), .val (.int p2), .val (.int p3), .val (.int p4), .val (.int (1 : Int32)), .val (.int c0), .val (.int c1), .val (.int c2), .val (.ref b66), .val (.ref b71), .val (.int d0), .val (.int d1), .val (.int d2), .val (.ref b93), .val (.int mm), .unset, .unset, .unset] [(.int (1 : Int32))])
      refine own_st (fun t k => XS.istore X96.here hx rfl (hb hby at_262) rfl (l' := #[.val (.int p0), .val (.int p1), .val (.int p2), .val (.int p3), .val (.int p4), .val (.int (1 : Int32)), .val (.int c0), .val (.int c1), .val (.int c2), .val (.ref b66), .val (.ref b71), .val (.int d0), .val (.int d1), .val (.int d2), .val (.ref b93), .val (.int mm), .val (.int (1 : Int32)), .unset, .unset]) rfl k) ?_
      show own_Go _ _ _ _ T96 (mkF m 264 #[.val (.int p0), .val (.int p1), .val (.int p2), .val (.int p3), .val (.int p4), .val (.int (1 : Int32)), .val (.int c0), .val (.int c1), .val (.int c2), .val (.ref b66), .val (.ref b71), .val (.int d0), .val (.int d1), .val (.int d2), .val (.ref b93), .val (.int mm), .val (.int (1 : Int32)), .unset, .unset] [])
      refine own_st (fun t k => XS.aload X96.here hx rfl (hb hby at_264) rfl rfl k) ?_
      refine own_st (fun t k => XS.aload X96.here hx rfl (hb hby at_266) rfl rfl k) ?_
      show own_Go _ _ _ _ T96 (mkF m 268 #[.val (.int p0), .val (.int p1), .val (.int p2), .val (.int p3), .val (.int p4), .val (.int (1 : Int32)), .val (.int c0), .val (.int c1), .val (.int c2), .val (.ref b66), .val (.ref b71), .val (.int d0), .val (.int d1), .val (.int d2), .val (.ref b93), .val (.int mm), .val (.int (1 : Int32)), .unset, .unset] [(.ref b71), (.ref b66)])
      have V69_100 := ((V69_95.ext E93).keep K96 (ninS ne_b66_b93 nin0))
      have Ark_101 := (own_arr_keep (Tk.1.ext E93) K96 (ninS ne_b71_b93 nin0))
      have Sh_102 := (own_sta_keep ((((((((S_H.ext E66).wr W69).ext E71).wr W76).wr W80).wr W84).wr W88).ext E93) K96 ns96)
      have Arh_103 := (own_arr_keep (Arh_94.ext E93) K96 (ninS ne_ra_b93 nin0))
      have K0_105 := (K0_97.trans K96 (allS ((Or.inr sz_b93)) all0))
      obtain ⟨_, _, ⟨T104, L104, k104, n104⟩, -, X104, ⟨Lc104, hQ104, l104, y104, z104⟩, st104⟩ := Jvm.LawKit.callS X96 hx (y := (⟨"shelfmark/IriPattern", "percentEncoded", "([B[Z)[B"⟩ : MethodName)) hown (mvT hZ (hw _ (List.mem_of_getElem? (i := 9) rfl))) (mvT hZ (hw _ (List.mem_of_getElem? (i := 10) rfl))) (mvT hZ (hw _ (List.mem_of_getElem? (i := 11) rfl))) (mvT hZ (hw _ (List.mem_of_getElem? (i := 12) rfl))) (by decide) (backOf (W := 0) (rm3 l Z a0 hw [] b66 b71 k66 [c0] ck ra ch  T96.heap n0 (Nat.le_trans Z0 K0_105.1) V69_100 (Nat.le_of_ble_eq_true rfl) (by intro b hb; simp only [List.mem_cons, List.not_mem_nil, or_false] at hb; rcases hb with rfl; exact hb0) ⟨Ark_101, Tk.2⟩ Sh_102 Arh_103 hH) hZ (hw _ (List.mem_of_getElem? (i := 12) rfl)) (hw _ (List.mem_of_getElem? (i := 11) rfl)) (by decide) (by decide)) (g := (mkF m 268 #[.val (.int p0), .val (.int p1), .val (.int p2), .val (.int p3), .val (.int p4), .val (.int (1 : Int32)), .val (.int c0), .val (.int c1), .val (.int c2), .val (.ref b66), .val (.ref b71), .val (.int d0), .val (.int d1), .val (.int d2), .val (.ref b93), .val (.int mm), .val (.int (1 : Int32)), .unset, .unset] [(.ref b71), (.ref b66)])) rfl (by rw [hml]; rfl) (argsL := [(.ref b66), (.ref b71)]) (rest := []) (lenOf pd__28_5bB_5bZ_29_5bB rfl) rfl (by show 2 * 0 + _ ≤ _; exact Nat.le_of_eq rfl) (hb hby at_268) (fun _ _ => ⟨rfl, rfl, (by decide : 3 + 1 ≤ _), (by decide : 266 + 9 ≤ _)⟩)
      dsimp only [Pt.U, Pt.locs, Pt.cells, Pt.slots] at X104 l104 y104 z104 st104 hQ104
      subst l104 y104 z104
      obtain ⟨b104, k104, rfl, N104q, K104, hbu, V104⟩ := hQ104
      obtain ⟨_, X104, N104⟩ := own_hide X104 (Fr.app N96 N104q)
      refine own_st st104 ?_
      show own_Go _ _ _ _ T104 (mkF m 271 #[.val (.int p0), .val (.int p1), .val (.int p2), .val (.int p3), .val (.int p4), .val (.int (1 : Int32)), .val (.int c0), .val (.int c1), .val (.int c2), .val (.ref b66), .val (.ref b71), .val (.int d0), .val (.int d1), .val (.int d2), .val (.ref b93), .val (.int mm), .val (.int (1 : Int32)), .unset, .unset] [(.ref b104)])
      refine own_st (fun t k => XS.astore X104.here hx rfl (hb hby at_271) rfl rfl (l' := #[.val (.int p0), .val (.int p1), .val (.int p2), .val (.int p3), .val (.int p4), .val (.int (1 : Int32)), .val (.int c0), .val (.int c1), .val (.int c2), .val (.ref b66), .val (.ref b71), .val (.int d0), .val (.int d1), .val (.int d2), .val (.ref b93), .val (.int mm), .val (.int (1 : Int32)), .val (.ref b104), .unset]) rfl k) ?_
      show own_Go _ _ _ _ T104 (mkF m 273 #[.val (.int p0), .val (.int p1), .val (.int p2), .val (.int p3), .val (.int p4), .val (.int (1 : Int32)), .val (.int c0), .val (.int c1), .val (.int c2), .val (.ref b66), .val (.ref b71), .val (.int d0), .val (.int d1), .val (.int d2), .val (.ref b93), .val (.int mm), .val (.int (1 : Int32)), .val (.ref b104), .unset] [])
      refine own_st (fun t k => XS.aload X104.here hx rfl (hb hby at_273) rfl rfl k) ?_
      show own_Go _ _ _ _ T104 (mkF m 275 #[.val (.int p0), .val (.int p1), .val (.int p2), .val (.int p3), .val (.int p4), .val (.int (1 : Int32)), .val (.int c0), .val (.int c1), .val (.int c2), .val (.ref b66), .val (.ref b71), .val (.int d0), .val (.int d1), .val (.int d2), .val (.ref b93), .val (.int mm), .val (.int (1 : Int32)), .val (.ref b104), .unset] [(.ref b104)])
      refine own_st (fun t k => XS.ifnullNo X104.here hx rfl (hb hby at_275) rfl k) ?_
      show own_Go _ _ _ _ T104 (mkF m 278 #[.val (.int p0), .val (.int p1), .val (.int p2), .val (.int p3), .val (.int p4), .val (.int (1 : Int32)), .val (.int c0), .val (.int c1), .val (.int c2), .val (.ref b66), .val (.ref b71), .val (.int d0), .val (.int d1), .val (.int d2), .val (.ref b93), .val (.int mm), .val (.int (1 : Int32)), .val (.ref b104), .unset] [])
      refine own_st (fun t k => XS.aload X104.here hx rfl (hb hby at_278) rfl rfl k) ?_
      show own_Go _ _ _ _ T104 (mkF m 280 #[.val (.int p0), .val (.int p1), .val (.int p2), .val (.int p3), .val (.int p4), .val (.int (1 : Int32)), .val (.int c0), .val (.int c1), .val (.int c2), .val (.ref b66), .val (.ref b71), .val (.int d0), .val (.int d1), .val (.int d2), .val (.ref b93), .val (.int mm), .val (.int (1 : Int32)), .val (.ref b104), .unset] [(.ref b104)])
      obtain ⟨cl106, Ar106, qk106, Sz106, Nn106, Hs106, Gf106⟩ := id V104
      refine own_st (X104.arraylength hx (id Ar106.1) (State.isArrayOf_alike hZ.alike Ar106.2.1) (g := (mkF m 280 #[.val (.int p0), .val (.int p1), .val (.int p2), .val (.int p3), .val (.int p4), .val (.int (1 : Int32)), .val (.int c0), .val (.int c1), .val (.int c2), .val (.ref b66), .val (.ref b71), .val (.int d0), .val (.int d1), .val (.int d2), .val (.ref b93), .val (.int mm), .val (.int (1 : Int32)), .val (.ref b104), .unset] [(.ref b104)])) rfl rfl (hb hby at_280)) ?_
      rw [len_of Sz106 Nn106]
      show own_Go _ _ _ _ T104 (mkF m 281 #[.val (.int p0), .val (.int p1), .val (.int p2), .val (.int p3), .val (.int p4), .val (.int (1 : Int32)), .val (.int c0), .val (.int c1), .val (.int c2), .val (.ref b66), .val (.ref b71), .val (.int d0), .val (.int d1), .val (.int d2), .val (.ref b93), .val (.int mm), .val (.int (1 : Int32)), .val (.ref b104), .unset] [(.int (Int32.ofNat (own_flat (own_kf ck) [c0]).length))])
      refine own_st (fun t k => XS.iload X104.here hx rfl (hb hby at_281) rfl k) ?_
      refine own_st (fun t k => XS.icmpYes X104.here hx rfl (pc0 := 283) (pc' := 288) rfl (hb hby at_283) rfl (teq hmm.symm).1 (by decide) (by decide) k) ?_
      show own_Go _ _ _ _ T104 (mkF m 288 #[.val (.int p0), .val (.int p1), .val (.int p2), .val (.int p3), .val (.int p4), .val (.int (1 : Int32)), .val (.int c0), .val (.int c1), .val (.int c2), .val (.ref b66), .val (.ref b71), .val (.int d0), .val (.int d1), .val (.int d2), .val (.ref b93), .val (.int mm), .val (.int (1 : Int32)), .val (.ref b104), .unset] [])
      refine own_st (fun t k => XS.iload X104.here hx rfl (hb hby at_288) rfl k) ?_
      refine own_st (fun t k => XS.ifNo X104.here hx rfl (hb hby at_290) rfl ((if0 _ _).trans (feq (by decide : ¬ ((1 : Int32) = (0 : Int32)))).1) k) ?_
      show own_Go _ _ _ _ T104 (mkF m 293 #[.val (.int p0), .val (.int p1), .val (.int p2), .val (.int p3), .val (.int p4), .val (.int (1 : Int32)), .val (.int c0), .val (.int c1), .val (.int c2), .val (.ref b66), .val (.ref b71), .val (.int d0), .val (.int d1), .val (.int d2), .val (.ref b93), .val (.int mm), .val (.int (1 : Int32)), .val (.ref b104), .unset] [])
      refine own_st (fun t k => XS.aload X104.here hx rfl (hb hby at_293) rfl rfl k) ?_
      refine own_st (fun t k => XS.aload X104.here hx rfl (hb hby at_295) rfl rfl k) ?_
      show own_Go _ _ _ _ T104 (mkF m 297 #[.val (.int p0), .val (.int p1), .val (.int p2), .val (.int p3), .val (.int p4), .val (.int (1 : Int32)), .val (.int c0), .val (.int c1), .val (.int c2), .val (.ref b66), .val (.ref b71), .val (.int d0), .val (.int d1), .val (.int d2), .val (.ref b93), .val (.int mm), .val (.int (1 : Int32)), .val (.ref b104), .unset] [(.ref b66), (.ref b104)])
      refine own_st (fun t k => Jvm.RoadKit.acmp (g := (mkF m 297 #[.val (.int p0), .val (.int p1), .val (.int p2), .val (.int p3), .val (.int p4), .val (.int (1 : Int32)), .val (.int c0), .val (.int c1), .val (.int c2), .val (.ref b66), .val (.ref b71), .val (.int d0), .val (.int d1), .val (.int d2), .val (.ref b93), .val (.int mm), .val (.int (1 : Int32)), .val (.ref b104), .unset] [(.ref b66), (.ref b104)])) X104 hx rfl rfl rfl (pc0 := 297) (pc' := 302) (same := true) rfl (hb hby at_297) rfl (decide_eq_true (congrArg Value.ref ((hbu (own_cnt0 (own_kf ck) [c0] (Nat.le_of_ble_eq_true rfl) (hmm.symm.trans c254_99))) : b104 = b66))) (by decide) (by decide) k) ?_
      show own_Go _ _ _ _ T104 (mkF m 302 #[.val (.int p0), .val (.int p1), .val (.int p2), .val (.int p3), .val (.int p4), .val (.int (1 : Int32)), .val (.int c0), .val (.int c1), .val (.int c2), .val (.ref b66), .val (.ref b71), .val (.int d0), .val (.int d1), .val (.int d2), .val (.ref b93), .val (.int mm), .val (.int (1 : Int32)), .val (.ref b104), .unset] [])
      refine own_st (fun t k => XS.iload X104.here hx rfl (hb hby at_302) rfl k) ?_
      refine own_st (fun t k => XS.iconst X104.here hx rfl (hb hby at_304) k) ?_
      refine own_st (fun t k => XS.icmpNo X104.here hx rfl (hb hby at_305) rfl (flt (by decide : ¬ ((1 : Int32) < (1 : Int32)))).1 k) ?_
      show own_Go _ _ _ _ T104 (mkF m 308 #[.val (.int p0), .val (.int p1), .val (.int p2), .val (.int p3), .val (.int p4), .val (.int (1 : Int32)), .val (.int c0), .val (.int c1), .val (.int c2), .val (.ref b66), .val (.ref b71), .val (.int d0), .val (.int d1), .val (.int d2), .val (.ref b93), .val (.int mm), .val (.int (1 : Int32)), .val (.ref b104), .unset] [])
      refine own_st (fun t k => XS.aload X104.here hx rfl (hb hby at_308) rfl rfl k) ?_
      refine own_st (fun t k => XS.iconst X104.here hx rfl (hb hby at_310) k) ?_
      show own_Go _ _ _ _ T104 (mkF m 311 #[.val (.int p0), .val (.int p1), .val (.int p2), .val (.int p3), .val (.int p4), .val (.int (1 : Int32)), .val (.int c0), .val (.int c1), .val (.int c2), .val (.ref b66), .val (.ref b71), .val (.int d0), .val (.int d1), .val (.int d2), .val (.ref b93), .val (.int mm), .val (.int (1 : Int32)), .val (.ref b104), .unset] [(.int (0 : Int32)), (.ref b66)])
      have V69_108 := (V69_100.keep K104 nin0)
      obtain ⟨cl107, Ar107, qk107, Sz107, Nn107, Hs107, Gf107⟩ := id V69_108
      have hin107 : ¬ ((0 : Int32) < 0 ∨ cl107.slots.size ≤ ((0 : Int32)).toNatClampNeg) := inb_of Sz107 ⟨by decide, by decide⟩
      have hat107 : cl107.slots[((0 : Int32)).toNatClampNeg]? = some (.int c0) := Has.at Hs107 hin107 rfl
      refine own_st (X104.baloadBytes hx (j := (0 : Int32)) (v := (.int c0)) (id Ar107.1) (State.isArrayOf_alike hZ.alike Ar107.2.1) Ar107.2.2 hin107 hat107 (g := (mkF m 311 #[.val (.int p0), .val (.int p1), .val (.int p2), .val (.int p3), .val (.int p4), .val (.int (1 : Int32)), .val (.int c0), .val (.int c1), .val (.int c2), .val (.ref b66), .val (.ref b71), .val (.int d0), .val (.int d1), .val (.int d2), .val (.ref b93), .val (.int mm), .val (.int (1 : Int32)), .val (.ref b104), .unset] [(.int (0 : Int32)), (.ref b66)])) rfl rfl (hb hby at_311)) ?_
      show own_Go _ _ _ _ T104 (mkF m 312 #[.val (.int p0), .val (.int p1), .val (.int p2), .val (.int p3), .val (.int p4), .val (.int (1 : Int32)), .val (.int c0), .val (.int c1), .val (.int c2), .val (.ref b66), .val (.ref b71), .val (.int d0), .val (.int d1), .val (.int d2), .val (.ref b93), .val (.int mm), .val (.int (1 : Int32)), .val (.ref b104), .unset] [(.int c0)])
      refine own_st (fun t k => XS.iload X104.here hx rfl (hb hby at_312) rfl k) ?_
      refine own_st (fun t k => XS.icmpNo X104.here hx rfl (hb hby at_314) rfl (teq rfl).2 k) ?_
      show own_Go _ _ _ _ T104 (mkF m 317 #[.val (.int p0), .val (.int p1), .val (.int p2), .val (.int p3), .val (.int p4), .val (.int (1 : Int32)), .val (.int c0), .val (.int c1), .val (.int c2), .val (.ref b66), .val (.ref b71), .val (.int d0), .val (.int d1), .val (.int d2), .val (.ref b93), .val (.int mm), .val (.int (1 : Int32)), .val (.ref b104), .unset] [])
      refine own_st (fun t k => XS.iload X104.here hx rfl (hb hby at_317) rfl k) ?_
      refine own_st (fun t k => XS.iconst X104.here hx rfl (hb hby at_319) k) ?_
      refine own_st (fun t k => XS.icmpYes X104.here hx rfl (pc0 := 320) (pc' := 332) rfl (hb hby at_320) rfl (tlt (by decide : (1 : Int32) < (2 : Int32))).1 (by decide) (by decide) k) ?_
      show own_Go _ _ _ _ T104 (mkF m 332 #[.val (.int p0), .val (.int p1), .val (.int p2), .val (.int p3), .val (.int p4), .val (.int (1 : Int32)), .val (.int c0), .val (.int c1), .val (.int c2), .val (.ref b66), .val (.ref b71), .val (.int d0), .val (.int d1), .val (.int d2), .val (.ref b93), .val (.int mm), .val (.int (1 : Int32)), .val (.ref b104), .unset] [])
      refine own_st (fun t k => XS.iload X104.here hx rfl (hb hby at_332) rfl k) ?_
      refine own_st (fun t k => XS.iconst X104.here hx rfl (hb hby at_334) k) ?_
      refine own_st (fun t k => XS.icmpYes X104.here hx rfl (pc0 := 335) (pc' := 347) rfl (hb hby at_335) rfl (tlt (by decide : (1 : Int32) < (3 : Int32))).1 (by decide) (by decide) k) ?_
      show own_Go _ _ _ _ T104 (mkF m 347 #[.val (.int p0), .val (.int p1), .val (.int p2), .val (.int p3), .val (.int p4), .val (.int (1 : Int32)), .val (.int c0), .val (.int c1), .val (.int c2), .val (.ref b66), .val (.ref b71), .val (.int d0), .val (.int d1), .val (.int d2), .val (.ref b93), .val (.int mm), .val (.int (1 : Int32)), .val (.ref b104), .unset] [])
      refine own_st (fun t k => XS.iconst X104.here hx rfl (hb hby at_347) k) ?_
      refine own_st (fun t k => XS.goto X104.here hx rfl (pc0 := 348) (pc' := 352) rfl (hb hby at_348) (by decide) (by decide) k) ?_
      show own_Go _ _ _ _ T104 (mkF m 352 #[.val (.int p0), .val (.int p1), .val (.int p2), .val (.int p3), .val (.int p4), .val (.int (1 : Int32)), .val (.int c0), .val (.int c1), .val (.int c2), .val (.ref b66), .val (.ref b71), .val (.int d0), .val (.int d1), .val (.int d2), .val (.ref b93), .val (.int mm), .val (.int (1 : Int32)), .val (.ref b104), .unset] [(.int (1 : Int32))])
      refine own_st (fun t k => XS.istore X104.here hx rfl (hb hby at_352) rfl (l' := #[.val (.int p0), .val (.int p1), .val (.int p2), .val (.int p3), .val (.int p4), .val (.int (1 : Int32)), .val (.int c0), .val (.int c1), .val (.int c2), .val (.ref b66), .val (.ref b71), .val (.int d0), .val (.int d1), .val (.int d2), .val (.ref b93), .val (.int mm), .val (.int (1 : Int32)), .val (.ref b104), .val (.int (1 : Int32))]) rfl k) ?_
      show own_Go _ _ _ _ T104 (mkF m 354 #[.val (.int p0), .val (.int p1), .val (.int p2), .val (.int p3), .val (.int p4), .val (.int (1 : Int32)), .val (.int c0), .val (.int c1), .val (.int c2), .val (.ref b66), .val (.ref b71), .val (.int d0), .val (.int d1), .val (.int d2), .val (.ref b93), .val (.int mm), .val (.int (1 : Int32)), .val (.ref b104), .val (.int (1 : Int32))] [])
      obtain ⟨cr, Arr_r, -, Szr, -, Hsr, -⟩ := id V104
      have Vx_109 := (Vx.keep K104 nin0)
      obtain ⟨ce, Arr_e, -, Sze, -, Hse, -⟩ := id Vx_109
      have h9 := own_flat9 (own_kf ck) (bs := [c0]) (Nat.le_of_ble_eq_true rfl)
      refine own_st (fun t k => XS.iload X104.here hx rfl (hb hby at_354) rfl k) ?_
      refine own_st (fun t k => XS.ifNo X104.here hx rfl (hb hby at_356) rfl ((if0 _ _).trans (feq (by decide : ¬ ((1 : Int32) = (0 : Int32)))).1) k) ?_
      show own_Go _ _ _ _ T104 (mkF m 359 #[.val (.int p0), .val (.int p1), .val (.int p2), .val (.int p3), .val (.int p4), .val (.int (1 : Int32)), .val (.int c0), .val (.int c1), .val (.int c2), .val (.ref b66), .val (.ref b71), .val (.int d0), .val (.int d1), .val (.int d2), .val (.ref b93), .val (.int mm), .val (.int (1 : Int32)), .val (.ref b104), .val (.int (1 : Int32))] [])
      refine own_st (fun t k => XS.aload X104.here hx rfl (hb hby at_359) rfl rfl k) ?_
      refine own_st (fun t k => XS.aload X104.here hx rfl (hb hby at_361) rfl rfl k) ?_
      refine own_st (fun t k => XS.iconst X104.here hx rfl (hb hby at_363) k) ?_
      refine own_st (fun t k => XS.iload X104.here hx rfl (hb hby at_364) rfl k) ?_
      show own_Go _ _ _ _ T104 (mkF m 366 #[.val (.int p0), .val (.int p1), .val (.int p2), .val (.int p3), .val (.int p4), .val (.int (1 : Int32)), .val (.int c0), .val (.int c1), .val (.int c2), .val (.ref b66), .val (.ref b71), .val (.int d0), .val (.int d1), .val (.int d2), .val (.ref b93), .val (.int mm), .val (.int (1 : Int32)), .val (.ref b104), .val (.int (1 : Int32))] [(.int mm), (.int (0 : Int32)), (.ref b93), (.ref b104)])
      have K0_111 := (K0_105.trans K104 (all0))
      obtain ⟨_, _, ⟨T110, L110, k110, n110⟩, -, X110, ⟨Lc110, hQ110, l110, y110, z110⟩, st110⟩ := Jvm.LawKit.callS X104 hx (y := (⟨"shelfmark/IriPatternPercentEncodedPinLaw", "same", "([B[BII)Z"⟩ : MethodName)) hown (mvT hZ (hw _ (List.mem_of_getElem? (i := 15) rfl))) (mvT hZ (hw _ (List.mem_of_getElem? (i := 16) rfl))) (mvT hZ (hw _ (List.mem_of_getElem? (i := 4) rfl))) (mvT hZ (hw _ (List.mem_of_getElem? (i := 17) rfl))) (by decide) (backOf (W := 0) (rm4 l Z a0 hw [] b104 b93 (0 : Int32) mm cr ce  T104.heap n0 (Nat.le_trans Z0 K0_111.1) Arr_r Arr_e (by rw [hmm]; exact own_hs h9 Szr Hsr Sze Hse 0 (by decide))) hZ (hw _ (List.mem_of_getElem? (i := 17) rfl)) (hw _ (List.mem_of_getElem? (i := 4) rfl)) (by decide) (by decide)) (g := (mkF m 366 #[.val (.int p0), .val (.int p1), .val (.int p2), .val (.int p3), .val (.int p4), .val (.int (1 : Int32)), .val (.int c0), .val (.int c1), .val (.int c2), .val (.ref b66), .val (.ref b71), .val (.int d0), .val (.int d1), .val (.int d2), .val (.ref b93), .val (.int mm), .val (.int (1 : Int32)), .val (.ref b104), .val (.int (1 : Int32))] [(.int mm), (.int (0 : Int32)), (.ref b93), (.ref b104)])) rfl (by rw [hml]; rfl) (argsL := [(.ref b104), (.ref b93), (.int (0 : Int32)), (.int mm)]) (rest := []) (lenOf pd__28_5bB_5bBII_29Z rfl) rfl (by show 2 * 0 + _ ≤ _; exact Nat.le_of_eq rfl) (hb hby at_366) (fun _ _ => ⟨rfl, rfl, (by decide : 4 + 0 ≤ _), (by decide : 275 + 0 ≤ _)⟩)
      dsimp only [Pt.U, Pt.locs, Pt.cells, Pt.slots] at X110 l110 y110 z110 st110 hQ110
      subst l110 y110 z110
      obtain ⟨rfl, N110q, e110⟩ := hQ110
      obtain ⟨_, X110, N110⟩ := own_hide X110 (Fr.app N104 N110q)
      refine own_st st110 ?_
      show own_Go _ _ _ _ T110 (mkF m 369 #[.val (.int p0), .val (.int p1), .val (.int p2), .val (.int p3), .val (.int p4), .val (.int (1 : Int32)), .val (.int c0), .val (.int c1), .val (.int c2), .val (.ref b66), .val (.ref b71), .val (.int d0), .val (.int d1), .val (.int d2), .val (.ref b93), .val (.int mm), .val (.int (1 : Int32)), .val (.ref b104), .val (.int (1 : Int32))] [(.int (1 : Int32))])
      refine own_st (fun t k => XS.ifNo X110.here hx rfl (hb hby at_369) rfl ((if0 _ _).trans (feq (by decide : ¬ ((1 : Int32) = (0 : Int32)))).1) k) ?_
      show own_Go _ _ _ _ T110 (mkF m 372 #[.val (.int p0), .val (.int p1), .val (.int p2), .val (.int p3), .val (.int p4), .val (.int (1 : Int32)), .val (.int c0), .val (.int c1), .val (.int c2), .val (.ref b66), .val (.ref b71), .val (.int d0), .val (.int d1), .val (.int d2), .val (.ref b93), .val (.int mm), .val (.int (1 : Int32)), .val (.ref b104), .val (.int (1 : Int32))] [])
      refine own_st (fun t k => XS.aload X110.here hx rfl (hb hby at_372) rfl rfl k) ?_
      refine own_st (fun t k => XS.aload X110.here hx rfl (hb hby at_374) rfl rfl k) ?_
      refine own_st (fun t k => XS.iconst X110.here hx rfl (hb hby at_376) k) ?_
      refine own_st (fun t k => XS.iload X110.here hx rfl (hb hby at_377) rfl k) ?_
      show own_Go _ _ _ _ T110 (mkF m 379 #[.val (.int p0), .val (.int p1), .val (.int p2), .val (.int p3), .val (.int p4), .val (.int (1 : Int32)), .val (.int c0), .val (.int c1), .val (.int c2), .val (.ref b66), .val (.ref b71), .val (.int d0), .val (.int d1), .val (.int d2), .val (.ref b93), .val (.int mm), .val (.int (1 : Int32)), .val (.ref b104), .val (.int (1 : Int32))] [(.int mm), (.int (1 : Int32)), (.ref b93), (.ref b104)])
      obtain ⟨_, _, ⟨T112, L112, k112, n112⟩, -, X112, ⟨Lc112, hQ112, l112, y112, z112⟩, st112⟩ := Jvm.LawKit.callS X110 hx (y := (⟨"shelfmark/IriPatternPercentEncodedPinLaw", "same", "([B[BII)Z"⟩ : MethodName)) hown (mvT hZ (hw _ (List.mem_of_getElem? (i := 15) rfl))) (mvT hZ (hw _ (List.mem_of_getElem? (i := 16) rfl))) (mvT hZ (hw _ (List.mem_of_getElem? (i := 4) rfl))) (mvT hZ (hw _ (List.mem_of_getElem? (i := 17) rfl))) (by decide) (backOf (W := 0) (rm4 l Z a0 hw [] b104 b93 (1 : Int32) mm cr ce  T104.heap n0 (Nat.le_trans Z0 K0_111.1) Arr_r Arr_e (by rw [hmm]; exact own_hs h9 Szr Hsr Sze Hse 1 (by decide))) hZ (hw _ (List.mem_of_getElem? (i := 17) rfl)) (hw _ (List.mem_of_getElem? (i := 4) rfl)) (by decide) (by decide)) (g := (mkF m 379 #[.val (.int p0), .val (.int p1), .val (.int p2), .val (.int p3), .val (.int p4), .val (.int (1 : Int32)), .val (.int c0), .val (.int c1), .val (.int c2), .val (.ref b66), .val (.ref b71), .val (.int d0), .val (.int d1), .val (.int d2), .val (.ref b93), .val (.int mm), .val (.int (1 : Int32)), .val (.ref b104), .val (.int (1 : Int32))] [(.int mm), (.int (1 : Int32)), (.ref b93), (.ref b104)])) rfl (by rw [hml]; rfl) (argsL := [(.ref b104), (.ref b93), (.int (1 : Int32)), (.int mm)]) (rest := []) (lenOf pd__28_5bB_5bBII_29Z rfl) rfl (by show 2 * 0 + _ ≤ _; exact Nat.le_of_eq rfl) (hb hby at_379) (fun _ _ => ⟨rfl, e110, (by decide : 4 + 0 ≤ _), (by decide : 275 + 0 ≤ _)⟩)
      dsimp only [Pt.U, Pt.locs, Pt.cells, Pt.slots] at X112 l112 y112 z112 st112 hQ112
      subst l112 y112 z112
      obtain ⟨rfl, N112q, e112⟩ := hQ112
      obtain ⟨_, X112, N112⟩ := own_hide X112 (Fr.app N110 N112q)
      refine own_st st112 ?_
      show own_Go _ _ _ _ T112 (mkF m 382 #[.val (.int p0), .val (.int p1), .val (.int p2), .val (.int p3), .val (.int p4), .val (.int (1 : Int32)), .val (.int c0), .val (.int c1), .val (.int c2), .val (.ref b66), .val (.ref b71), .val (.int d0), .val (.int d1), .val (.int d2), .val (.ref b93), .val (.int mm), .val (.int (1 : Int32)), .val (.ref b104), .val (.int (1 : Int32))] [(.int (1 : Int32))])
      refine own_st (fun t k => XS.ifNo X112.here hx rfl (hb hby at_382) rfl ((if0 _ _).trans (feq (by decide : ¬ ((1 : Int32) = (0 : Int32)))).1) k) ?_
      show own_Go _ _ _ _ T112 (mkF m 385 #[.val (.int p0), .val (.int p1), .val (.int p2), .val (.int p3), .val (.int p4), .val (.int (1 : Int32)), .val (.int c0), .val (.int c1), .val (.int c2), .val (.ref b66), .val (.ref b71), .val (.int d0), .val (.int d1), .val (.int d2), .val (.ref b93), .val (.int mm), .val (.int (1 : Int32)), .val (.ref b104), .val (.int (1 : Int32))] [])
      refine own_st (fun t k => XS.aload X112.here hx rfl (hb hby at_385) rfl rfl k) ?_
      refine own_st (fun t k => XS.aload X112.here hx rfl (hb hby at_387) rfl rfl k) ?_
      refine own_st (fun t k => XS.iconst X112.here hx rfl (hb hby at_389) k) ?_
      refine own_st (fun t k => XS.iload X112.here hx rfl (hb hby at_390) rfl k) ?_
      show own_Go _ _ _ _ T112 (mkF m 392 #[.val (.int p0), .val (.int p1), .val (.int p2), .val (.int p3), .val (.int p4), .val (.int (1 : Int32)), .val (.int c0), .val (.int c1), .val (.int c2), .val (.ref b66), .val (.ref b71), .val (.int d0), .val (.int d1), .val (.int d2), .val (.ref b93), .val (.int mm), .val (.int (1 : Int32)), .val (.ref b104), .val (.int (1 : Int32))] [(.int mm), (.int (2 : Int32)), (.ref b93), (.ref b104)])
      obtain ⟨_, _, ⟨T113, L113, k113, n113⟩, -, X113, ⟨Lc113, hQ113, l113, y113, z113⟩, st113⟩ := Jvm.LawKit.callS X112 hx (y := (⟨"shelfmark/IriPatternPercentEncodedPinLaw", "same", "([B[BII)Z"⟩ : MethodName)) hown (mvT hZ (hw _ (List.mem_of_getElem? (i := 15) rfl))) (mvT hZ (hw _ (List.mem_of_getElem? (i := 16) rfl))) (mvT hZ (hw _ (List.mem_of_getElem? (i := 4) rfl))) (mvT hZ (hw _ (List.mem_of_getElem? (i := 17) rfl))) (by decide) (backOf (W := 0) (rm4 l Z a0 hw [] b104 b93 (2 : Int32) mm cr ce  T104.heap n0 (Nat.le_trans Z0 K0_111.1) Arr_r Arr_e (by rw [hmm]; exact own_hs h9 Szr Hsr Sze Hse 2 (by decide))) hZ (hw _ (List.mem_of_getElem? (i := 17) rfl)) (hw _ (List.mem_of_getElem? (i := 4) rfl)) (by decide) (by decide)) (g := (mkF m 392 #[.val (.int p0), .val (.int p1), .val (.int p2), .val (.int p3), .val (.int p4), .val (.int (1 : Int32)), .val (.int c0), .val (.int c1), .val (.int c2), .val (.ref b66), .val (.ref b71), .val (.int d0), .val (.int d1), .val (.int d2), .val (.ref b93), .val (.int mm), .val (.int (1 : Int32)), .val (.ref b104), .val (.int (1 : Int32))] [(.int mm), (.int (2 : Int32)), (.ref b93), (.ref b104)])) rfl (by rw [hml]; rfl) (argsL := [(.ref b104), (.ref b93), (.int (2 : Int32)), (.int mm)]) (rest := []) (lenOf pd__28_5bB_5bBII_29Z rfl) rfl (by show 2 * 0 + _ ≤ _; exact Nat.le_of_eq rfl) (hb hby at_392) (fun _ _ => ⟨rfl, e112, (by decide : 4 + 0 ≤ _), (by decide : 275 + 0 ≤ _)⟩)
      dsimp only [Pt.U, Pt.locs, Pt.cells, Pt.slots] at X113 l113 y113 z113 st113 hQ113
      subst l113 y113 z113
      obtain ⟨rfl, N113q, e113⟩ := hQ113
      obtain ⟨_, X113, N113⟩ := own_hide X113 (Fr.app N112 N113q)
      refine own_st st113 ?_
      show own_Go _ _ _ _ T113 (mkF m 395 #[.val (.int p0), .val (.int p1), .val (.int p2), .val (.int p3), .val (.int p4), .val (.int (1 : Int32)), .val (.int c0), .val (.int c1), .val (.int c2), .val (.ref b66), .val (.ref b71), .val (.int d0), .val (.int d1), .val (.int d2), .val (.ref b93), .val (.int mm), .val (.int (1 : Int32)), .val (.ref b104), .val (.int (1 : Int32))] [(.int (1 : Int32))])
      refine own_st (fun t k => XS.ifNo X113.here hx rfl (hb hby at_395) rfl ((if0 _ _).trans (feq (by decide : ¬ ((1 : Int32) = (0 : Int32)))).1) k) ?_
      show own_Go _ _ _ _ T113 (mkF m 398 #[.val (.int p0), .val (.int p1), .val (.int p2), .val (.int p3), .val (.int p4), .val (.int (1 : Int32)), .val (.int c0), .val (.int c1), .val (.int c2), .val (.ref b66), .val (.ref b71), .val (.int d0), .val (.int d1), .val (.int d2), .val (.ref b93), .val (.int mm), .val (.int (1 : Int32)), .val (.ref b104), .val (.int (1 : Int32))] [])
      refine own_st (fun t k => XS.aload X113.here hx rfl (hb hby at_398) rfl rfl k) ?_
      refine own_st (fun t k => XS.aload X113.here hx rfl (hb hby at_400) rfl rfl k) ?_
      refine own_st (fun t k => XS.iconst X113.here hx rfl (hb hby at_402) k) ?_
      refine own_st (fun t k => XS.iload X113.here hx rfl (hb hby at_403) rfl k) ?_
      show own_Go _ _ _ _ T113 (mkF m 405 #[.val (.int p0), .val (.int p1), .val (.int p2), .val (.int p3), .val (.int p4), .val (.int (1 : Int32)), .val (.int c0), .val (.int c1), .val (.int c2), .val (.ref b66), .val (.ref b71), .val (.int d0), .val (.int d1), .val (.int d2), .val (.ref b93), .val (.int mm), .val (.int (1 : Int32)), .val (.ref b104), .val (.int (1 : Int32))] [(.int mm), (.int (3 : Int32)), (.ref b93), (.ref b104)])
      obtain ⟨_, _, ⟨T114, L114, k114, n114⟩, -, X114, ⟨Lc114, hQ114, l114, y114, z114⟩, st114⟩ := Jvm.LawKit.callS X113 hx (y := (⟨"shelfmark/IriPatternPercentEncodedPinLaw", "same", "([B[BII)Z"⟩ : MethodName)) hown (mvT hZ (hw _ (List.mem_of_getElem? (i := 15) rfl))) (mvT hZ (hw _ (List.mem_of_getElem? (i := 16) rfl))) (mvT hZ (hw _ (List.mem_of_getElem? (i := 4) rfl))) (mvT hZ (hw _ (List.mem_of_getElem? (i := 17) rfl))) (by decide) (backOf (W := 0) (rm4 l Z a0 hw [] b104 b93 (3 : Int32) mm cr ce  T104.heap n0 (Nat.le_trans Z0 K0_111.1) Arr_r Arr_e (by rw [hmm]; exact own_hs h9 Szr Hsr Sze Hse 3 (by decide))) hZ (hw _ (List.mem_of_getElem? (i := 17) rfl)) (hw _ (List.mem_of_getElem? (i := 4) rfl)) (by decide) (by decide)) (g := (mkF m 405 #[.val (.int p0), .val (.int p1), .val (.int p2), .val (.int p3), .val (.int p4), .val (.int (1 : Int32)), .val (.int c0), .val (.int c1), .val (.int c2), .val (.ref b66), .val (.ref b71), .val (.int d0), .val (.int d1), .val (.int d2), .val (.ref b93), .val (.int mm), .val (.int (1 : Int32)), .val (.ref b104), .val (.int (1 : Int32))] [(.int mm), (.int (3 : Int32)), (.ref b93), (.ref b104)])) rfl (by rw [hml]; rfl) (argsL := [(.ref b104), (.ref b93), (.int (3 : Int32)), (.int mm)]) (rest := []) (lenOf pd__28_5bB_5bBII_29Z rfl) rfl (by show 2 * 0 + _ ≤ _; exact Nat.le_of_eq rfl) (hb hby at_405) (fun _ _ => ⟨rfl, e113, (by decide : 4 + 0 ≤ _), (by decide : 275 + 0 ≤ _)⟩)
      dsimp only [Pt.U, Pt.locs, Pt.cells, Pt.slots] at X114 l114 y114 z114 st114 hQ114
      subst l114 y114 z114
      obtain ⟨rfl, N114q, e114⟩ := hQ114
      obtain ⟨_, X114, N114⟩ := own_hide X114 (Fr.app N113 N114q)
      refine own_st st114 ?_
      show own_Go _ _ _ _ T114 (mkF m 408 #[.val (.int p0), .val (.int p1), .val (.int p2), .val (.int p3), .val (.int p4), .val (.int (1 : Int32)), .val (.int c0), .val (.int c1), .val (.int c2), .val (.ref b66), .val (.ref b71), .val (.int d0), .val (.int d1), .val (.int d2), .val (.ref b93), .val (.int mm), .val (.int (1 : Int32)), .val (.ref b104), .val (.int (1 : Int32))] [(.int (1 : Int32))])
      refine own_st (fun t k => XS.ifNo X114.here hx rfl (hb hby at_408) rfl ((if0 _ _).trans (feq (by decide : ¬ ((1 : Int32) = (0 : Int32)))).1) k) ?_
      show own_Go _ _ _ _ T114 (mkF m 411 #[.val (.int p0), .val (.int p1), .val (.int p2), .val (.int p3), .val (.int p4), .val (.int (1 : Int32)), .val (.int c0), .val (.int c1), .val (.int c2), .val (.ref b66), .val (.ref b71), .val (.int d0), .val (.int d1), .val (.int d2), .val (.ref b93), .val (.int mm), .val (.int (1 : Int32)), .val (.ref b104), .val (.int (1 : Int32))] [])
      refine own_st (fun t k => XS.aload X114.here hx rfl (hb hby at_411) rfl rfl k) ?_
      refine own_st (fun t k => XS.aload X114.here hx rfl (hb hby at_413) rfl rfl k) ?_
      refine own_st (fun t k => XS.iconst X114.here hx rfl (hb hby at_415) k) ?_
      refine own_st (fun t k => XS.iload X114.here hx rfl (hb hby at_416) rfl k) ?_
      show own_Go _ _ _ _ T114 (mkF m 418 #[.val (.int p0), .val (.int p1), .val (.int p2), .val (.int p3), .val (.int p4), .val (.int (1 : Int32)), .val (.int c0), .val (.int c1), .val (.int c2), .val (.ref b66), .val (.ref b71), .val (.int d0), .val (.int d1), .val (.int d2), .val (.ref b93), .val (.int mm), .val (.int (1 : Int32)), .val (.ref b104), .val (.int (1 : Int32))] [(.int mm), (.int (4 : Int32)), (.ref b93), (.ref b104)])
      obtain ⟨_, _, ⟨T115, L115, k115, n115⟩, -, X115, ⟨Lc115, hQ115, l115, y115, z115⟩, st115⟩ := Jvm.LawKit.callS X114 hx (y := (⟨"shelfmark/IriPatternPercentEncodedPinLaw", "same", "([B[BII)Z"⟩ : MethodName)) hown (mvT hZ (hw _ (List.mem_of_getElem? (i := 15) rfl))) (mvT hZ (hw _ (List.mem_of_getElem? (i := 16) rfl))) (mvT hZ (hw _ (List.mem_of_getElem? (i := 4) rfl))) (mvT hZ (hw _ (List.mem_of_getElem? (i := 17) rfl))) (by decide) (backOf (W := 0) (rm4 l Z a0 hw [] b104 b93 (4 : Int32) mm cr ce  T104.heap n0 (Nat.le_trans Z0 K0_111.1) Arr_r Arr_e (by rw [hmm]; exact own_hs h9 Szr Hsr Sze Hse 4 (by decide))) hZ (hw _ (List.mem_of_getElem? (i := 17) rfl)) (hw _ (List.mem_of_getElem? (i := 4) rfl)) (by decide) (by decide)) (g := (mkF m 418 #[.val (.int p0), .val (.int p1), .val (.int p2), .val (.int p3), .val (.int p4), .val (.int (1 : Int32)), .val (.int c0), .val (.int c1), .val (.int c2), .val (.ref b66), .val (.ref b71), .val (.int d0), .val (.int d1), .val (.int d2), .val (.ref b93), .val (.int mm), .val (.int (1 : Int32)), .val (.ref b104), .val (.int (1 : Int32))] [(.int mm), (.int (4 : Int32)), (.ref b93), (.ref b104)])) rfl (by rw [hml]; rfl) (argsL := [(.ref b104), (.ref b93), (.int (4 : Int32)), (.int mm)]) (rest := []) (lenOf pd__28_5bB_5bBII_29Z rfl) rfl (by show 2 * 0 + _ ≤ _; exact Nat.le_of_eq rfl) (hb hby at_418) (fun _ _ => ⟨rfl, e114, (by decide : 4 + 0 ≤ _), (by decide : 275 + 0 ≤ _)⟩)
      dsimp only [Pt.U, Pt.locs, Pt.cells, Pt.slots] at X115 l115 y115 z115 st115 hQ115
      subst l115 y115 z115
      obtain ⟨rfl, N115q, e115⟩ := hQ115
      obtain ⟨_, X115, N115⟩ := own_hide X115 (Fr.app N114 N115q)
      refine own_st st115 ?_
      show own_Go _ _ _ _ T115 (mkF m 421 #[.val (.int p0), .val (.int p1), .val (.int p2), .val (.int p3), .val (.int p4), .val (.int (1 : Int32)), .val (.int c0), .val (.int c1), .val (.int c2), .val (.ref b66), .val (.ref b71), .val (.int d0), .val (.int d1), .val (.int d2), .val (.ref b93), .val (.int mm), .val (.int (1 : Int32)), .val (.ref b104), .val (.int (1 : Int32))] [(.int (1 : Int32))])
      refine own_st (fun t k => XS.ifNo X115.here hx rfl (hb hby at_421) rfl ((if0 _ _).trans (feq (by decide : ¬ ((1 : Int32) = (0 : Int32)))).1) k) ?_
      show own_Go _ _ _ _ T115 (mkF m 424 #[.val (.int p0), .val (.int p1), .val (.int p2), .val (.int p3), .val (.int p4), .val (.int (1 : Int32)), .val (.int c0), .val (.int c1), .val (.int c2), .val (.ref b66), .val (.ref b71), .val (.int d0), .val (.int d1), .val (.int d2), .val (.ref b93), .val (.int mm), .val (.int (1 : Int32)), .val (.ref b104), .val (.int (1 : Int32))] [])
      refine own_st (fun t k => XS.aload X115.here hx rfl (hb hby at_424) rfl rfl k) ?_
      refine own_st (fun t k => XS.aload X115.here hx rfl (hb hby at_426) rfl rfl k) ?_
      refine own_st (fun t k => XS.iconst X115.here hx rfl (hb hby at_428) k) ?_
      refine own_st (fun t k => XS.iload X115.here hx rfl (hb hby at_429) rfl k) ?_
      show own_Go _ _ _ _ T115 (mkF m 431 #[.val (.int p0), .val (.int p1), .val (.int p2), .val (.int p3), .val (.int p4), .val (.int (1 : Int32)), .val (.int c0), .val (.int c1), .val (.int c2), .val (.ref b66), .val (.ref b71), .val (.int d0), .val (.int d1), .val (.int d2), .val (.ref b93), .val (.int mm), .val (.int (1 : Int32)), .val (.ref b104), .val (.int (1 : Int32))] [(.int mm), (.int (5 : Int32)), (.ref b93), (.ref b104)])
      obtain ⟨_, _, ⟨T116, L116, k116, n116⟩, -, X116, ⟨Lc116, hQ116, l116, y116, z116⟩, st116⟩ := Jvm.LawKit.callS X115 hx (y := (⟨"shelfmark/IriPatternPercentEncodedPinLaw", "same", "([B[BII)Z"⟩ : MethodName)) hown (mvT hZ (hw _ (List.mem_of_getElem? (i := 15) rfl))) (mvT hZ (hw _ (List.mem_of_getElem? (i := 16) rfl))) (mvT hZ (hw _ (List.mem_of_getElem? (i := 4) rfl))) (mvT hZ (hw _ (List.mem_of_getElem? (i := 17) rfl))) (by decide) (backOf (W := 0) (rm4 l Z a0 hw [] b104 b93 (5 : Int32) mm cr ce  T104.heap n0 (Nat.le_trans Z0 K0_111.1) Arr_r Arr_e (by rw [hmm]; exact own_hs h9 Szr Hsr Sze Hse 5 (by decide))) hZ (hw _ (List.mem_of_getElem? (i := 17) rfl)) (hw _ (List.mem_of_getElem? (i := 4) rfl)) (by decide) (by decide)) (g := (mkF m 431 #[.val (.int p0), .val (.int p1), .val (.int p2), .val (.int p3), .val (.int p4), .val (.int (1 : Int32)), .val (.int c0), .val (.int c1), .val (.int c2), .val (.ref b66), .val (.ref b71), .val (.int d0), .val (.int d1), .val (.int d2), .val (.ref b93), .val (.int mm), .val (.int (1 : Int32)), .val (.ref b104), .val (.int (1 : Int32))] [(.int mm), (.int (5 : Int32)), (.ref b93), (.ref b104)])) rfl (by rw [hml]; rfl) (argsL := [(.ref b104), (.ref b93), (.int (5 : Int32)), (.int mm)]) (rest := []) (lenOf pd__28_5bB_5bBII_29Z rfl) rfl (by show 2 * 0 + _ ≤ _; exact Nat.le_of_eq rfl) (hb hby at_431) (fun _ _ => ⟨rfl, e115, (by decide : 4 + 0 ≤ _), (by decide : 275 + 0 ≤ _)⟩)
      dsimp only [Pt.U, Pt.locs, Pt.cells, Pt.slots] at X116 l116 y116 z116 st116 hQ116
      subst l116 y116 z116
      obtain ⟨rfl, N116q, e116⟩ := hQ116
      obtain ⟨_, X116, N116⟩ := own_hide X116 (Fr.app N115 N116q)
      refine own_st st116 ?_
      show own_Go _ _ _ _ T116 (mkF m 434 #[.val (.int p0), .val (.int p1), .val (.int p2), .val (.int p3), .val (.int p4), .val (.int (1 : Int32)), .val (.int c0), .val (.int c1), .val (.int c2), .val (.ref b66), .val (.ref b71), .val (.int d0), .val (.int d1), .val (.int d2), .val (.ref b93), .val (.int mm), .val (.int (1 : Int32)), .val (.ref b104), .val (.int (1 : Int32))] [(.int (1 : Int32))])
      refine own_st (fun t k => XS.ifNo X116.here hx rfl (hb hby at_434) rfl ((if0 _ _).trans (feq (by decide : ¬ ((1 : Int32) = (0 : Int32)))).1) k) ?_
      show own_Go _ _ _ _ T116 (mkF m 437 #[.val (.int p0), .val (.int p1), .val (.int p2), .val (.int p3), .val (.int p4), .val (.int (1 : Int32)), .val (.int c0), .val (.int c1), .val (.int c2), .val (.ref b66), .val (.ref b71), .val (.int d0), .val (.int d1), .val (.int d2), .val (.ref b93), .val (.int mm), .val (.int (1 : Int32)), .val (.ref b104), .val (.int (1 : Int32))] [])
      refine own_st (fun t k => XS.aload X116.here hx rfl (hb hby at_437) rfl rfl k) ?_
      refine own_st (fun t k => XS.aload X116.here hx rfl (hb hby at_439) rfl rfl k) ?_
      refine own_st (fun t k => XS.bipush X116.here hx rfl (hb hby at_441) k) ?_
      refine own_st (fun t k => XS.iload X116.here hx rfl (hb hby at_443) rfl k) ?_
      show own_Go _ _ _ _ T116 (mkF m 445 #[.val (.int p0), .val (.int p1), .val (.int p2), .val (.int p3), .val (.int p4), .val (.int (1 : Int32)), .val (.int c0), .val (.int c1), .val (.int c2), .val (.ref b66), .val (.ref b71), .val (.int d0), .val (.int d1), .val (.int d2), .val (.ref b93), .val (.int mm), .val (.int (1 : Int32)), .val (.ref b104), .val (.int (1 : Int32))] [(.int mm), (.int (6 : Int32)), (.ref b93), (.ref b104)])
      obtain ⟨_, _, ⟨T117, L117, k117, n117⟩, -, X117, ⟨Lc117, hQ117, l117, y117, z117⟩, st117⟩ := Jvm.LawKit.callS X116 hx (y := (⟨"shelfmark/IriPatternPercentEncodedPinLaw", "same", "([B[BII)Z"⟩ : MethodName)) hown (mvT hZ (hw _ (List.mem_of_getElem? (i := 15) rfl))) (mvT hZ (hw _ (List.mem_of_getElem? (i := 16) rfl))) (mvT hZ (hw _ (List.mem_of_getElem? (i := 4) rfl))) (mvT hZ (hw _ (List.mem_of_getElem? (i := 17) rfl))) (by decide) (backOf (W := 0) (rm4 l Z a0 hw [] b104 b93 (6 : Int32) mm cr ce  T104.heap n0 (Nat.le_trans Z0 K0_111.1) Arr_r Arr_e (by rw [hmm]; exact own_hs h9 Szr Hsr Sze Hse 6 (by decide))) hZ (hw _ (List.mem_of_getElem? (i := 17) rfl)) (hw _ (List.mem_of_getElem? (i := 4) rfl)) (by decide) (by decide)) (g := (mkF m 445 #[.val (.int p0), .val (.int p1), .val (.int p2), .val (.int p3), .val (.int p4), .val (.int (1 : Int32)), .val (.int c0), .val (.int c1), .val (.int c2), .val (.ref b66), .val (.ref b71), .val (.int d0), .val (.int d1), .val (.int d2), .val (.ref b93), .val (.int mm), .val (.int (1 : Int32)), .val (.ref b104), .val (.int (1 : Int32))] [(.int mm), (.int (6 : Int32)), (.ref b93), (.ref b104)])) rfl (by rw [hml]; rfl) (argsL := [(.ref b104), (.ref b93), (.int (6 : Int32)), (.int mm)]) (rest := []) (lenOf pd__28_5bB_5bBII_29Z rfl) rfl (by show 2 * 0 + _ ≤ _; exact Nat.le_of_eq rfl) (hb hby at_445) (fun _ _ => ⟨rfl, e116, (by decide : 4 + 0 ≤ _), (by decide : 275 + 0 ≤ _)⟩)
      dsimp only [Pt.U, Pt.locs, Pt.cells, Pt.slots] at X117 l117 y117 z117 st117 hQ117
      subst l117 y117 z117
      obtain ⟨rfl, N117q, e117⟩ := hQ117
      obtain ⟨_, X117, N117⟩ := own_hide X117 (Fr.app N116 N117q)
      refine own_st st117 ?_
      show own_Go _ _ _ _ T117 (mkF m 448 #[.val (.int p0), .val (.int p1), .val (.int p2), .val (.int p3), .val (.int p4), .val (.int (1 : Int32)), .val (.int c0), .val (.int c1), .val (.int c2), .val (.ref b66), .val (.ref b71), .val (.int d0), .val (.int d1), .val (.int d2), .val (.ref b93), .val (.int mm), .val (.int (1 : Int32)), .val (.ref b104), .val (.int (1 : Int32))] [(.int (1 : Int32))])
      refine own_st (fun t k => XS.ifNo X117.here hx rfl (hb hby at_448) rfl ((if0 _ _).trans (feq (by decide : ¬ ((1 : Int32) = (0 : Int32)))).1) k) ?_
      show own_Go _ _ _ _ T117 (mkF m 451 #[.val (.int p0), .val (.int p1), .val (.int p2), .val (.int p3), .val (.int p4), .val (.int (1 : Int32)), .val (.int c0), .val (.int c1), .val (.int c2), .val (.ref b66), .val (.ref b71), .val (.int d0), .val (.int d1), .val (.int d2), .val (.ref b93), .val (.int mm), .val (.int (1 : Int32)), .val (.ref b104), .val (.int (1 : Int32))] [])
      refine own_st (fun t k => XS.aload X117.here hx rfl (hb hby at_451) rfl rfl k) ?_
      refine own_st (fun t k => XS.aload X117.here hx rfl (hb hby at_453) rfl rfl k) ?_
      refine own_st (fun t k => XS.bipush X117.here hx rfl (hb hby at_455) k) ?_
      refine own_st (fun t k => XS.iload X117.here hx rfl (hb hby at_457) rfl k) ?_
      show own_Go _ _ _ _ T117 (mkF m 459 #[.val (.int p0), .val (.int p1), .val (.int p2), .val (.int p3), .val (.int p4), .val (.int (1 : Int32)), .val (.int c0), .val (.int c1), .val (.int c2), .val (.ref b66), .val (.ref b71), .val (.int d0), .val (.int d1), .val (.int d2), .val (.ref b93), .val (.int mm), .val (.int (1 : Int32)), .val (.ref b104), .val (.int (1 : Int32))] [(.int mm), (.int (7 : Int32)), (.ref b93), (.ref b104)])
      obtain ⟨_, _, ⟨T118, L118, k118, n118⟩, -, X118, ⟨Lc118, hQ118, l118, y118, z118⟩, st118⟩ := Jvm.LawKit.callS X117 hx (y := (⟨"shelfmark/IriPatternPercentEncodedPinLaw", "same", "([B[BII)Z"⟩ : MethodName)) hown (mvT hZ (hw _ (List.mem_of_getElem? (i := 15) rfl))) (mvT hZ (hw _ (List.mem_of_getElem? (i := 16) rfl))) (mvT hZ (hw _ (List.mem_of_getElem? (i := 4) rfl))) (mvT hZ (hw _ (List.mem_of_getElem? (i := 17) rfl))) (by decide) (backOf (W := 0) (rm4 l Z a0 hw [] b104 b93 (7 : Int32) mm cr ce  T104.heap n0 (Nat.le_trans Z0 K0_111.1) Arr_r Arr_e (by rw [hmm]; exact own_hs h9 Szr Hsr Sze Hse 7 (by decide))) hZ (hw _ (List.mem_of_getElem? (i := 17) rfl)) (hw _ (List.mem_of_getElem? (i := 4) rfl)) (by decide) (by decide)) (g := (mkF m 459 #[.val (.int p0), .val (.int p1), .val (.int p2), .val (.int p3), .val (.int p4), .val (.int (1 : Int32)), .val (.int c0), .val (.int c1), .val (.int c2), .val (.ref b66), .val (.ref b71), .val (.int d0), .val (.int d1), .val (.int d2), .val (.ref b93), .val (.int mm), .val (.int (1 : Int32)), .val (.ref b104), .val (.int (1 : Int32))] [(.int mm), (.int (7 : Int32)), (.ref b93), (.ref b104)])) rfl (by rw [hml]; rfl) (argsL := [(.ref b104), (.ref b93), (.int (7 : Int32)), (.int mm)]) (rest := []) (lenOf pd__28_5bB_5bBII_29Z rfl) rfl (by show 2 * 0 + _ ≤ _; exact Nat.le_of_eq rfl) (hb hby at_459) (fun _ _ => ⟨rfl, e117, (by decide : 4 + 0 ≤ _), (by decide : 275 + 0 ≤ _)⟩)
      dsimp only [Pt.U, Pt.locs, Pt.cells, Pt.slots] at X118 l118 y118 z118 st118 hQ118
      subst l118 y118 z118
      obtain ⟨rfl, N118q, e118⟩ := hQ118
      obtain ⟨_, X118, N118⟩ := own_hide X118 (Fr.app N117 N118q)
      refine own_st st118 ?_
      show own_Go _ _ _ _ T118 (mkF m 462 #[.val (.int p0), .val (.int p1), .val (.int p2), .val (.int p3), .val (.int p4), .val (.int (1 : Int32)), .val (.int c0), .val (.int c1), .val (.int c2), .val (.ref b66), .val (.ref b71), .val (.int d0), .val (.int d1), .val (.int d2), .val (.ref b93), .val (.int mm), .val (.int (1 : Int32)), .val (.ref b104), .val (.int (1 : Int32))] [(.int (1 : Int32))])
      refine own_st (fun t k => XS.ifNo X118.here hx rfl (hb hby at_462) rfl ((if0 _ _).trans (feq (by decide : ¬ ((1 : Int32) = (0 : Int32)))).1) k) ?_
      show own_Go _ _ _ _ T118 (mkF m 465 #[.val (.int p0), .val (.int p1), .val (.int p2), .val (.int p3), .val (.int p4), .val (.int (1 : Int32)), .val (.int c0), .val (.int c1), .val (.int c2), .val (.ref b66), .val (.ref b71), .val (.int d0), .val (.int d1), .val (.int d2), .val (.ref b93), .val (.int mm), .val (.int (1 : Int32)), .val (.ref b104), .val (.int (1 : Int32))] [])
      refine own_st (fun t k => XS.aload X118.here hx rfl (hb hby at_465) rfl rfl k) ?_
      refine own_st (fun t k => XS.aload X118.here hx rfl (hb hby at_467) rfl rfl k) ?_
      refine own_st (fun t k => XS.bipush X118.here hx rfl (hb hby at_469) k) ?_
      refine own_st (fun t k => XS.iload X118.here hx rfl (hb hby at_471) rfl k) ?_
      show own_Go _ _ _ _ T118 (mkF m 473 #[.val (.int p0), .val (.int p1), .val (.int p2), .val (.int p3), .val (.int p4), .val (.int (1 : Int32)), .val (.int c0), .val (.int c1), .val (.int c2), .val (.ref b66), .val (.ref b71), .val (.int d0), .val (.int d1), .val (.int d2), .val (.ref b93), .val (.int mm), .val (.int (1 : Int32)), .val (.ref b104), .val (.int (1 : Int32))] [(.int mm), (.int (8 : Int32)), (.ref b93), (.ref b104)])
      obtain ⟨_, _, ⟨T119, L119, k119, n119⟩, -, X119, ⟨Lc119, hQ119, l119, y119, z119⟩, st119⟩ := Jvm.LawKit.callS X118 hx (y := (⟨"shelfmark/IriPatternPercentEncodedPinLaw", "same", "([B[BII)Z"⟩ : MethodName)) hown (mvT hZ (hw _ (List.mem_of_getElem? (i := 15) rfl))) (mvT hZ (hw _ (List.mem_of_getElem? (i := 16) rfl))) (mvT hZ (hw _ (List.mem_of_getElem? (i := 4) rfl))) (mvT hZ (hw _ (List.mem_of_getElem? (i := 17) rfl))) (by decide) (backOf (W := 0) (rm4 l Z a0 hw [] b104 b93 (8 : Int32) mm cr ce  T104.heap n0 (Nat.le_trans Z0 K0_111.1) Arr_r Arr_e (by rw [hmm]; exact own_hs h9 Szr Hsr Sze Hse 8 (by decide))) hZ (hw _ (List.mem_of_getElem? (i := 17) rfl)) (hw _ (List.mem_of_getElem? (i := 4) rfl)) (by decide) (by decide)) (g := (mkF m 473 #[.val (.int p0), .val (.int p1), .val (.int p2), .val (.int p3), .val (.int p4), .val (.int (1 : Int32)), .val (.int c0), .val (.int c1), .val (.int c2), .val (.ref b66), .val (.ref b71), .val (.int d0), .val (.int d1), .val (.int d2), .val (.ref b93), .val (.int mm), .val (.int (1 : Int32)), .val (.ref b104), .val (.int (1 : Int32))] [(.int mm), (.int (8 : Int32)), (.ref b93), (.ref b104)])) rfl (by rw [hml]; rfl) (argsL := [(.ref b104), (.ref b93), (.int (8 : Int32)), (.int mm)]) (rest := []) (lenOf pd__28_5bB_5bBII_29Z rfl) rfl (by show 2 * 0 + _ ≤ _; exact Nat.le_of_eq rfl) (hb hby at_473) (fun _ _ => ⟨rfl, e118, (by decide : 4 + 0 ≤ _), (by decide : 275 + 0 ≤ _)⟩)
      dsimp only [Pt.U, Pt.locs, Pt.cells, Pt.slots] at X119 l119 y119 z119 st119 hQ119
      subst l119 y119 z119
      obtain ⟨rfl, N119q, e119⟩ := hQ119
      obtain ⟨_, X119, N119⟩ := own_hide X119 (Fr.app N118 N119q)
      refine own_st st119 ?_
      show own_Go _ _ _ _ T119 (mkF m 476 #[.val (.int p0), .val (.int p1), .val (.int p2), .val (.int p3), .val (.int p4), .val (.int (1 : Int32)), .val (.int c0), .val (.int c1), .val (.int c2), .val (.ref b66), .val (.ref b71), .val (.int d0), .val (.int d1), .val (.int d2), .val (.ref b93), .val (.int mm), .val (.int (1 : Int32)), .val (.ref b104), .val (.int (1 : Int32))] [(.int (1 : Int32))])
      refine own_st (fun t k => XS.ifNo X119.here hx rfl (hb hby at_476) rfl ((if0 _ _).trans (feq (by decide : ¬ ((1 : Int32) = (0 : Int32)))).1) k) ?_
      show own_Go _ _ _ _ T119 (mkF m 479 #[.val (.int p0), .val (.int p1), .val (.int p2), .val (.int p3), .val (.int p4), .val (.int (1 : Int32)), .val (.int c0), .val (.int c1), .val (.int c2), .val (.ref b66), .val (.ref b71), .val (.int d0), .val (.int d1), .val (.int d2), .val (.ref b93), .val (.int mm), .val (.int (1 : Int32)), .val (.ref b104), .val (.int (1 : Int32))] [])
      refine own_st (fun t k => XS.iconst X119.here hx rfl (hb hby at_479) k) ?_
      refine own_st (fun t k => XS.goto X119.here hx rfl (pc0 := 480) (pc' := 484) rfl (hb hby at_480) (by decide) (by decide) k) ?_
      show own_Go _ _ _ _ T119 (mkF m 484 #[.val (.int p0), .val (.int p1), .val (.int p2), .val (.int p3), .val (.int p4), .val (.int (1 : Int32)), .val (.int c0), .val (.int c1), .val (.int c2), .val (.ref b66), .val (.ref b71), .val (.int d0), .val (.int d1), .val (.int d2), .val (.ref b93), .val (.int mm), .val (.int (1 : Int32)), .val (.ref b104), .val (.int (1 : Int32))] [(.int (1 : Int32))])
      exact own_retN X119 hx hlk (t := .boolean) hrt (by simp) (hb hby at_484) ⟨rfl, N119⟩ (by decide) (by decide)
    ·
      refine own_st (fun t k => XS.icmpYes X96.here hx rfl (pc0 := 254) (pc' := 261) rfl (hb hby at_254) rfl (feq c254_99).2 (by decide) (by decide) k) ?_
      show own_Go _ _ _ _ T96 (mkF m 261 #[.val (.int p0), .val (.int p1), .val (.int p2), .val (.int p3), .val (.int p4), .val (.int (1 : Int32)), .val (.int c0), .val (.int c1), .val (.int c2), .val (.ref b66), .val (.ref b71), .val (.int d0), .val (.int d1), .val (.int d2), .val (.ref b93), .val (.int mm), .unset, .unset, .unset] [])
      refine own_st (fun t k => XS.iconst X96.here hx rfl (hb hby at_261) k) ?_
      refine own_st (fun t k => XS.istore X96.here hx rfl (hb hby at_262) rfl (l' := #[.val (.int p0), .val (.int p1), .val (.int p2), .val (.int p3), .val (.int p4), .val (.int (1 : Int32)), .val (.int c0), .val (.int c1), .val (.int c2), .val (.ref b66), .val (.ref b71), .val (.int d0), .val (.int d1), .val (.int d2), .val (.ref b93), .val (.int mm), .val (.int (0 : Int32)), .unset, .unset]) rfl k) ?_
      show own_Go _ _ _ _ T96 (mkF m 264 #[.val (.int p0), .val (.int p1), .val (.int p2), .val (.int p3), .val (.int p4), .val (.int (1 : Int32)), .val (.int c0), .val (.int c1), .val (.int c2), .val (.ref b66), .val (.ref b71), .val (.int d0), .val (.int d1), .val (.int d2), .val (.ref b93), .val (.int mm), .val (.int (0 : Int32)), .unset, .unset] [])
      refine own_st (fun t k => XS.aload X96.here hx rfl (hb hby at_264) rfl rfl k) ?_
      refine own_st (fun t k => XS.aload X96.here hx rfl (hb hby at_266) rfl rfl k) ?_
      show own_Go _ _ _ _ T96 (mkF m 268 #[.val (.int p0), .val (.int p1), .val (.int p2), .val (.int p3), .val (.int p4), .val (.int (1 : Int32)), .val (.int c0), .val (.int c1), .val (.int c2), .val (.ref b66), .val (.ref b71), .val (.int d0), .val (.int d1), .val (.int d2), .val (.ref b93), .val (.int mm), .val (.int (0 : Int32)), .unset, .unset] [(.ref b71), (.ref b66)])
      have V69_120 := ((V69_95.ext E93).keep K96 (ninS ne_b66_b93 nin0))
      have Ark_121 := (own_arr_keep (Tk.1.ext E93) K96 (ninS ne_b71_b93 nin0))
      have Sh_122 := (own_sta_keep ((((((((S_H.ext E66).wr W69).ext E71).wr W76).wr W80).wr W84).wr W88).ext E93) K96 ns96)
      have Arh_123 := (own_arr_keep (Arh_94.ext E93) K96 (ninS ne_ra_b93 nin0))
      have K0_125 := (K0_97.trans K96 (allS ((Or.inr sz_b93)) all0))
      obtain ⟨_, _, ⟨T124, L124, k124, n124⟩, -, X124, ⟨Lc124, hQ124, l124, y124, z124⟩, st124⟩ := Jvm.LawKit.callS X96 hx (y := (⟨"shelfmark/IriPattern", "percentEncoded", "([B[Z)[B"⟩ : MethodName)) hown (mvT hZ (hw _ (List.mem_of_getElem? (i := 9) rfl))) (mvT hZ (hw _ (List.mem_of_getElem? (i := 10) rfl))) (mvT hZ (hw _ (List.mem_of_getElem? (i := 11) rfl))) (mvT hZ (hw _ (List.mem_of_getElem? (i := 12) rfl))) (by decide) (backOf (W := 0) (rm3 l Z a0 hw [] b66 b71 k66 [c0] ck ra ch  T96.heap n0 (Nat.le_trans Z0 K0_125.1) V69_120 (Nat.le_of_ble_eq_true rfl) (by intro b hb; simp only [List.mem_cons, List.not_mem_nil, or_false] at hb; rcases hb with rfl; exact hb0) ⟨Ark_121, Tk.2⟩ Sh_122 Arh_123 hH) hZ (hw _ (List.mem_of_getElem? (i := 12) rfl)) (hw _ (List.mem_of_getElem? (i := 11) rfl)) (by decide) (by decide)) (g := (mkF m 268 #[.val (.int p0), .val (.int p1), .val (.int p2), .val (.int p3), .val (.int p4), .val (.int (1 : Int32)), .val (.int c0), .val (.int c1), .val (.int c2), .val (.ref b66), .val (.ref b71), .val (.int d0), .val (.int d1), .val (.int d2), .val (.ref b93), .val (.int mm), .val (.int (0 : Int32)), .unset, .unset] [(.ref b71), (.ref b66)])) rfl (by rw [hml]; rfl) (argsL := [(.ref b66), (.ref b71)]) (rest := []) (lenOf pd__28_5bB_5bZ_29_5bB rfl) rfl (by show 2 * 0 + _ ≤ _; exact Nat.le_of_eq rfl) (hb hby at_268) (fun _ _ => ⟨rfl, rfl, (by decide : 3 + 1 ≤ _), (by decide : 266 + 9 ≤ _)⟩)
      dsimp only [Pt.U, Pt.locs, Pt.cells, Pt.slots] at X124 l124 y124 z124 st124 hQ124
      subst l124 y124 z124
      obtain ⟨b124, k124, rfl, N124q, K124, hbu, V124⟩ := hQ124
      obtain ⟨_, X124, N124⟩ := own_hide X124 (Fr.app N96 N124q)
      refine own_st st124 ?_
      show own_Go _ _ _ _ T124 (mkF m 271 #[.val (.int p0), .val (.int p1), .val (.int p2), .val (.int p3), .val (.int p4), .val (.int (1 : Int32)), .val (.int c0), .val (.int c1), .val (.int c2), .val (.ref b66), .val (.ref b71), .val (.int d0), .val (.int d1), .val (.int d2), .val (.ref b93), .val (.int mm), .val (.int (0 : Int32)), .unset, .unset] [(.ref b124)])
      refine own_st (fun t k => XS.astore X124.here hx rfl (hb hby at_271) rfl rfl (l' := #[.val (.int p0), .val (.int p1), .val (.int p2), .val (.int p3), .val (.int p4), .val (.int (1 : Int32)), .val (.int c0), .val (.int c1), .val (.int c2), .val (.ref b66), .val (.ref b71), .val (.int d0), .val (.int d1), .val (.int d2), .val (.ref b93), .val (.int mm), .val (.int (0 : Int32)), .val (.ref b124), .unset]) rfl k) ?_
      show own_Go _ _ _ _ T124 (mkF m 273 #[.val (.int p0), .val (.int p1), .val (.int p2), .val (.int p3), .val (.int p4), .val (.int (1 : Int32)), .val (.int c0), .val (.int c1), .val (.int c2), .val (.ref b66), .val (.ref b71), .val (.int d0), .val (.int d1), .val (.int d2), .val (.ref b93), .val (.int mm), .val (.int (0 : Int32)), .val (.ref b124), .unset] [])
      refine own_st (fun t k => XS.aload X124.here hx rfl (hb hby at_273) rfl rfl k) ?_
      show own_Go _ _ _ _ T124 (mkF m 275 #[.val (.int p0), .val (.int p1), .val (.int p2), .val (.int p3), .val (.int p4), .val (.int (1 : Int32)), .val (.int c0), .val (.int c1), .val (.int c2), .val (.ref b66), .val (.ref b71), .val (.int d0), .val (.int d1), .val (.int d2), .val (.ref b93), .val (.int mm), .val (.int (0 : Int32)), .val (.ref b124), .unset] [(.ref b124)])
      refine own_st (fun t k => XS.ifnullNo X124.here hx rfl (hb hby at_275) rfl k) ?_
      show own_Go _ _ _ _ T124 (mkF m 278 #[.val (.int p0), .val (.int p1), .val (.int p2), .val (.int p3), .val (.int p4), .val (.int (1 : Int32)), .val (.int c0), .val (.int c1), .val (.int c2), .val (.ref b66), .val (.ref b71), .val (.int d0), .val (.int d1), .val (.int d2), .val (.ref b93), .val (.int mm), .val (.int (0 : Int32)), .val (.ref b124), .unset] [])
      refine own_st (fun t k => XS.aload X124.here hx rfl (hb hby at_278) rfl rfl k) ?_
      show own_Go _ _ _ _ T124 (mkF m 280 #[.val (.int p0), .val (.int p1), .val (.int p2), .val (.int p3), .val (.int p4), .val (.int (1 : Int32)), .val (.int c0), .val (.int c1), .val (.int c2), .val (.ref b66), .val (.ref b71), .val (.int d0), .val (.int d1), .val (.int d2), .val (.ref b93), .val (.int mm), .val (.int (0 : Int32)), .val (.ref b124), .unset] [(.ref b124)])
      obtain ⟨cl126, Ar126, qk126, Sz126, Nn126, Hs126, Gf126⟩ := id V124
      refine own_st (X124.arraylength hx (id Ar126.1) (State.isArrayOf_alike hZ.alike Ar126.2.1) (g := (mkF m 280 #[.val (.int p0), .val (.int p1), .val (.int p2), .val (.int p3), .val (.int p4), .val (.int (1 : Int32)), .val (.int c0), .val (.int c1), .val (.int c2), .val (.ref b66), .val (.ref b71), .val (.int d0), .val (.int d1), .val (.int d2), .val (.ref b93), .val (.int mm), .val (.int (0 : Int32)), .val (.ref b124), .unset] [(.ref b124)])) rfl rfl (hb hby at_280)) ?_
      rw [len_of Sz126 Nn126]
      show own_Go _ _ _ _ T124 (mkF m 281 #[.val (.int p0), .val (.int p1), .val (.int p2), .val (.int p3), .val (.int p4), .val (.int (1 : Int32)), .val (.int c0), .val (.int c1), .val (.int c2), .val (.ref b66), .val (.ref b71), .val (.int d0), .val (.int d1), .val (.int d2), .val (.ref b93), .val (.int mm), .val (.int (0 : Int32)), .val (.ref b124), .unset] [(.int (Int32.ofNat (own_flat (own_kf ck) [c0]).length))])
      refine own_st (fun t k => XS.iload X124.here hx rfl (hb hby at_281) rfl k) ?_
      refine own_st (fun t k => XS.icmpYes X124.here hx rfl (pc0 := 283) (pc' := 288) rfl (hb hby at_283) rfl (teq hmm.symm).1 (by decide) (by decide) k) ?_
      show own_Go _ _ _ _ T124 (mkF m 288 #[.val (.int p0), .val (.int p1), .val (.int p2), .val (.int p3), .val (.int p4), .val (.int (1 : Int32)), .val (.int c0), .val (.int c1), .val (.int c2), .val (.ref b66), .val (.ref b71), .val (.int d0), .val (.int d1), .val (.int d2), .val (.ref b93), .val (.int mm), .val (.int (0 : Int32)), .val (.ref b124), .unset] [])
      refine own_st (fun t k => XS.iload X124.here hx rfl (hb hby at_288) rfl k) ?_
      refine own_st (fun t k => XS.ifYes X124.here hx rfl (pc0 := 290) (pc' := 302) rfl (hb hby at_290) rfl ((if0 _ _).trans (teq (by decide : (0 : Int32) = (0 : Int32))).1) (by decide) (by decide) k) ?_
      show own_Go _ _ _ _ T124 (mkF m 302 #[.val (.int p0), .val (.int p1), .val (.int p2), .val (.int p3), .val (.int p4), .val (.int (1 : Int32)), .val (.int c0), .val (.int c1), .val (.int c2), .val (.ref b66), .val (.ref b71), .val (.int d0), .val (.int d1), .val (.int d2), .val (.ref b93), .val (.int mm), .val (.int (0 : Int32)), .val (.ref b124), .unset] [])
      refine own_st (fun t k => XS.iload X124.here hx rfl (hb hby at_302) rfl k) ?_
      refine own_st (fun t k => XS.iconst X124.here hx rfl (hb hby at_304) k) ?_
      refine own_st (fun t k => XS.icmpNo X124.here hx rfl (hb hby at_305) rfl (flt (by decide : ¬ ((1 : Int32) < (1 : Int32)))).1 k) ?_
      show own_Go _ _ _ _ T124 (mkF m 308 #[.val (.int p0), .val (.int p1), .val (.int p2), .val (.int p3), .val (.int p4), .val (.int (1 : Int32)), .val (.int c0), .val (.int c1), .val (.int c2), .val (.ref b66), .val (.ref b71), .val (.int d0), .val (.int d1), .val (.int d2), .val (.ref b93), .val (.int mm), .val (.int (0 : Int32)), .val (.ref b124), .unset] [])
      refine own_st (fun t k => XS.aload X124.here hx rfl (hb hby at_308) rfl rfl k) ?_
      refine own_st (fun t k => XS.iconst X124.here hx rfl (hb hby at_310) k) ?_
      show own_Go _ _ _ _ T124 (mkF m 311 #[.val (.int p0), .val (.int p1), .val (.int p2), .val (.int p3), .val (.int p4), .val (.int (1 : Int32)), .val (.int c0), .val (.int c1), .val (.int c2), .val (.ref b66), .val (.ref b71), .val (.int d0), .val (.int d1), .val (.int d2), .val (.ref b93), .val (.int mm), .val (.int (0 : Int32)), .val (.ref b124), .unset] [(.int (0 : Int32)), (.ref b66)])
      have V69_128 := (V69_120.keep K124 nin0)
      obtain ⟨cl127, Ar127, qk127, Sz127, Nn127, Hs127, Gf127⟩ := id V69_128
      have hin127 : ¬ ((0 : Int32) < 0 ∨ cl127.slots.size ≤ ((0 : Int32)).toNatClampNeg) := inb_of Sz127 ⟨by decide, by decide⟩
      have hat127 : cl127.slots[((0 : Int32)).toNatClampNeg]? = some (.int c0) := Has.at Hs127 hin127 rfl
      refine own_st (X124.baloadBytes hx (j := (0 : Int32)) (v := (.int c0)) (id Ar127.1) (State.isArrayOf_alike hZ.alike Ar127.2.1) Ar127.2.2 hin127 hat127 (g := (mkF m 311 #[.val (.int p0), .val (.int p1), .val (.int p2), .val (.int p3), .val (.int p4), .val (.int (1 : Int32)), .val (.int c0), .val (.int c1), .val (.int c2), .val (.ref b66), .val (.ref b71), .val (.int d0), .val (.int d1), .val (.int d2), .val (.ref b93), .val (.int mm), .val (.int (0 : Int32)), .val (.ref b124), .unset] [(.int (0 : Int32)), (.ref b66)])) rfl rfl (hb hby at_311)) ?_
      show own_Go _ _ _ _ T124 (mkF m 312 #[.val (.int p0), .val (.int p1), .val (.int p2), .val (.int p3), .val (.int p4), .val (.int (1 : Int32)), .val (.int c0), .val (.int c1), .val (.int c2), .val (.ref b66), .val (.ref b71), .val (.int d0), .val (.int d1), .val (.int d2), .val (.ref b93), .val (.int mm), .val (.int (0 : Int32)), .val (.ref b124), .unset] [(.int c0)])
      refine own_st (fun t k => XS.iload X124.here hx rfl (hb hby at_312) rfl k) ?_
      refine own_st (fun t k => XS.icmpNo X124.here hx rfl (hb hby at_314) rfl (teq rfl).2 k) ?_
      show own_Go _ _ _ _ T124 (mkF m 317 #[.val (.int p0), .val (.int p1), .val (.int p2), .val (.int p3), .val (.int p4), .val (.int (1 : Int32)), .val (.int c0), .val (.int c1), .val (.int c2), .val (.ref b66), .val (.ref b71), .val (.int d0), .val (.int d1), .val (.int d2), .val (.ref b93), .val (.int mm), .val (.int (0 : Int32)), .val (.ref b124), .unset] [])
      refine own_st (fun t k => XS.iload X124.here hx rfl (hb hby at_317) rfl k) ?_
      refine own_st (fun t k => XS.iconst X124.here hx rfl (hb hby at_319) k) ?_
      refine own_st (fun t k => XS.icmpYes X124.here hx rfl (pc0 := 320) (pc' := 332) rfl (hb hby at_320) rfl (tlt (by decide : (1 : Int32) < (2 : Int32))).1 (by decide) (by decide) k) ?_
      show own_Go _ _ _ _ T124 (mkF m 332 #[.val (.int p0), .val (.int p1), .val (.int p2), .val (.int p3), .val (.int p4), .val (.int (1 : Int32)), .val (.int c0), .val (.int c1), .val (.int c2), .val (.ref b66), .val (.ref b71), .val (.int d0), .val (.int d1), .val (.int d2), .val (.ref b93), .val (.int mm), .val (.int (0 : Int32)), .val (.ref b124), .unset] [])
      refine own_st (fun t k => XS.iload X124.here hx rfl (hb hby at_332) rfl k) ?_
      refine own_st (fun t k => XS.iconst X124.here hx rfl (hb hby at_334) k) ?_
      refine own_st (fun t k => XS.icmpYes X124.here hx rfl (pc0 := 335) (pc' := 347) rfl (hb hby at_335) rfl (tlt (by decide : (1 : Int32) < (3 : Int32))).1 (by decide) (by decide) k) ?_
      show own_Go _ _ _ _ T124 (mkF m 347 #[.val (.int p0), .val (.int p1), .val (.int p2), .val (.int p3), .val (.int p4), .val (.int (1 : Int32)), .val (.int c0), .val (.int c1), .val (.int c2), .val (.ref b66), .val (.ref b71), .val (.int d0), .val (.int d1), .val (.int d2), .val (.ref b93), .val (.int mm), .val (.int (0 : Int32)), .val (.ref b124), .unset] [])
      refine own_st (fun t k => XS.iconst X124.here hx rfl (hb hby at_347) k) ?_
      refine own_st (fun t k => XS.goto X124.here hx rfl (pc0 := 348) (pc' := 352) rfl (hb hby at_348) (by decide) (by decide) k) ?_
      show own_Go _ _ _ _ T124 (mkF m 352 #[.val (.int p0), .val (.int p1), .val (.int p2), .val (.int p3), .val (.int p4), .val (.int (1 : Int32)), .val (.int c0), .val (.int c1), .val (.int c2), .val (.ref b66), .val (.ref b71), .val (.int d0), .val (.int d1), .val (.int d2), .val (.ref b93), .val (.int mm), .val (.int (0 : Int32)), .val (.ref b124), .unset] [(.int (1 : Int32))])
      refine own_st (fun t k => XS.istore X124.here hx rfl (hb hby at_352) rfl (l' := #[.val (.int p0), .val (.int p1), .val (.int p2), .val (.int p3), .val (.int p4), .val (.int (1 : Int32)), .val (.int c0), .val (.int c1), .val (.int c2), .val (.ref b66), .val (.ref b71), .val (.int d0), .val (.int d1), .val (.int d2), .val (.ref b93), .val (.int mm), .val (.int (0 : Int32)), .val (.ref b124), .val (.int (1 : Int32))]) rfl k) ?_
      show own_Go _ _ _ _ T124 (mkF m 354 #[.val (.int p0), .val (.int p1), .val (.int p2), .val (.int p3), .val (.int p4), .val (.int (1 : Int32)), .val (.int c0), .val (.int c1), .val (.int c2), .val (.ref b66), .val (.ref b71), .val (.int d0), .val (.int d1), .val (.int d2), .val (.ref b93), .val (.int mm), .val (.int (0 : Int32)), .val (.ref b124), .val (.int (1 : Int32))] [])
      obtain ⟨cr, Arr_r, -, Szr, -, Hsr, -⟩ := id V124
      have Vx_129 := (Vx.keep K124 nin0)
      obtain ⟨ce, Arr_e, -, Sze, -, Hse, -⟩ := id Vx_129
      have h9 := own_flat9 (own_kf ck) (bs := [c0]) (Nat.le_of_ble_eq_true rfl)
      refine own_st (fun t k => XS.iload X124.here hx rfl (hb hby at_354) rfl k) ?_
      refine own_st (fun t k => XS.ifNo X124.here hx rfl (hb hby at_356) rfl ((if0 _ _).trans (feq (by decide : ¬ ((1 : Int32) = (0 : Int32)))).1) k) ?_
      show own_Go _ _ _ _ T124 (mkF m 359 #[.val (.int p0), .val (.int p1), .val (.int p2), .val (.int p3), .val (.int p4), .val (.int (1 : Int32)), .val (.int c0), .val (.int c1), .val (.int c2), .val (.ref b66), .val (.ref b71), .val (.int d0), .val (.int d1), .val (.int d2), .val (.ref b93), .val (.int mm), .val (.int (0 : Int32)), .val (.ref b124), .val (.int (1 : Int32))] [])
      refine own_st (fun t k => XS.aload X124.here hx rfl (hb hby at_359) rfl rfl k) ?_
      refine own_st (fun t k => XS.aload X124.here hx rfl (hb hby at_361) rfl rfl k) ?_
      refine own_st (fun t k => XS.iconst X124.here hx rfl (hb hby at_363) k) ?_
      refine own_st (fun t k => XS.iload X124.here hx rfl (hb hby at_364) rfl k) ?_
      show own_Go _ _ _ _ T124 (mkF m 366 #[.val (.int p0), .val (.int p1), .val (.int p2), .val (.int p3), .val (.int p4), .val (.int (1 : Int32)), .val (.int c0), .val (.int c1), .val (.int c2), .val (.ref b66), .val (.ref b71), .val (.int d0), .val (.int d1), .val (.int d2), .val (.ref b93), .val (.int mm), .val (.int (0 : Int32)), .val (.ref b124), .val (.int (1 : Int32))] [(.int mm), (.int (0 : Int32)), (.ref b93), (.ref b124)])
      have K0_131 := (K0_125.trans K124 (all0))
      obtain ⟨_, _, ⟨T130, L130, k130, n130⟩, -, X130, ⟨Lc130, hQ130, l130, y130, z130⟩, st130⟩ := Jvm.LawKit.callS X124 hx (y := (⟨"shelfmark/IriPatternPercentEncodedPinLaw", "same", "([B[BII)Z"⟩ : MethodName)) hown (mvT hZ (hw _ (List.mem_of_getElem? (i := 15) rfl))) (mvT hZ (hw _ (List.mem_of_getElem? (i := 16) rfl))) (mvT hZ (hw _ (List.mem_of_getElem? (i := 4) rfl))) (mvT hZ (hw _ (List.mem_of_getElem? (i := 17) rfl))) (by decide) (backOf (W := 0) (rm4 l Z a0 hw [] b124 b93 (0 : Int32) mm cr ce  T124.heap n0 (Nat.le_trans Z0 K0_131.1) Arr_r Arr_e (by rw [hmm]; exact own_hs h9 Szr Hsr Sze Hse 0 (by decide))) hZ (hw _ (List.mem_of_getElem? (i := 17) rfl)) (hw _ (List.mem_of_getElem? (i := 4) rfl)) (by decide) (by decide)) (g := (mkF m 366 #[.val (.int p0), .val (.int p1), .val (.int p2), .val (.int p3), .val (.int p4), .val (.int (1 : Int32)), .val (.int c0), .val (.int c1), .val (.int c2), .val (.ref b66), .val (.ref b71), .val (.int d0), .val (.int d1), .val (.int d2), .val (.ref b93), .val (.int mm), .val (.int (0 : Int32)), .val (.ref b124), .val (.int (1 : Int32))] [(.int mm), (.int (0 : Int32)), (.ref b93), (.ref b124)])) rfl (by rw [hml]; rfl) (argsL := [(.ref b124), (.ref b93), (.int (0 : Int32)), (.int mm)]) (rest := []) (lenOf pd__28_5bB_5bBII_29Z rfl) rfl (by show 2 * 0 + _ ≤ _; exact Nat.le_of_eq rfl) (hb hby at_366) (fun _ _ => ⟨rfl, rfl, (by decide : 4 + 0 ≤ _), (by decide : 275 + 0 ≤ _)⟩)
      dsimp only [Pt.U, Pt.locs, Pt.cells, Pt.slots] at X130 l130 y130 z130 st130 hQ130
      subst l130 y130 z130
      obtain ⟨rfl, N130q, e130⟩ := hQ130
      obtain ⟨_, X130, N130⟩ := own_hide X130 (Fr.app N124 N130q)
      refine own_st st130 ?_
      show own_Go _ _ _ _ T130 (mkF m 369 #[.val (.int p0), .val (.int p1), .val (.int p2), .val (.int p3), .val (.int p4), .val (.int (1 : Int32)), .val (.int c0), .val (.int c1), .val (.int c2), .val (.ref b66), .val (.ref b71), .val (.int d0), .val (.int d1), .val (.int d2), .val (.ref b93), .val (.int mm), .val (.int (0 : Int32)), .val (.ref b124), .val (.int (1 : Int32))] [(.int (1 : Int32))])
      refine own_st (fun t k => XS.ifNo X130.here hx rfl (hb hby at_369) rfl ((if0 _ _).trans (feq (by decide : ¬ ((1 : Int32) = (0 : Int32)))).1) k) ?_
      show own_Go _ _ _ _ T130 (mkF m 372 #[.val (.int p0), .val (.int p1), .val (.int p2), .val (.int p3), .val (.int p4), .val (.int (1 : Int32)), .val (.int c0), .val (.int c1), .val (.int c2), .val (.ref b66), .val (.ref b71), .val (.int d0), .val (.int d1), .val (.int d2), .val (.ref b93), .val (.int mm), .val (.int (0 : Int32)), .val (.ref b124), .val (.int (1 : Int32))] [])
      refine own_st (fun t k => XS.aload X130.here hx rfl (hb hby at_372) rfl rfl k) ?_
      refine own_st (fun t k => XS.aload X130.here hx rfl (hb hby at_374) rfl rfl k) ?_
      refine own_st (fun t k => XS.iconst X130.here hx rfl (hb hby at_376) k) ?_
      refine own_st (fun t k => XS.iload X130.here hx rfl (hb hby at_377) rfl k) ?_
      show own_Go _ _ _ _ T130 (mkF m 379 #[.val (.int p0), .val (.int p1), .val (.int p2), .val (.int p3), .val (.int p4), .val (.int (1 : Int32)), .val (.int c0), .val (.int c1), .val (.int c2), .val (.ref b66), .val (.ref b71), .val (.int d0), .val (.int d1), .val (.int d2), .val (.ref b93), .val (.int mm), .val (.int (0 : Int32)), .val (.ref b124), .val (.int (1 : Int32))] [(.int mm), (.int (1 : Int32)), (.ref b93), (.ref b124)])
      obtain ⟨_, _, ⟨T132, L132, k132, n132⟩, -, X132, ⟨Lc132, hQ132, l132, y132, z132⟩, st132⟩ := Jvm.LawKit.callS X130 hx (y := (⟨"shelfmark/IriPatternPercentEncodedPinLaw", "same", "([B[BII)Z"⟩ : MethodName)) hown (mvT hZ (hw _ (List.mem_of_getElem? (i := 15) rfl))) (mvT hZ (hw _ (List.mem_of_getElem? (i := 16) rfl))) (mvT hZ (hw _ (List.mem_of_getElem? (i := 4) rfl))) (mvT hZ (hw _ (List.mem_of_getElem? (i := 17) rfl))) (by decide) (backOf (W := 0) (rm4 l Z a0 hw [] b124 b93 (1 : Int32) mm cr ce  T124.heap n0 (Nat.le_trans Z0 K0_131.1) Arr_r Arr_e (by rw [hmm]; exact own_hs h9 Szr Hsr Sze Hse 1 (by decide))) hZ (hw _ (List.mem_of_getElem? (i := 17) rfl)) (hw _ (List.mem_of_getElem? (i := 4) rfl)) (by decide) (by decide)) (g := (mkF m 379 #[.val (.int p0), .val (.int p1), .val (.int p2), .val (.int p3), .val (.int p4), .val (.int (1 : Int32)), .val (.int c0), .val (.int c1), .val (.int c2), .val (.ref b66), .val (.ref b71), .val (.int d0), .val (.int d1), .val (.int d2), .val (.ref b93), .val (.int mm), .val (.int (0 : Int32)), .val (.ref b124), .val (.int (1 : Int32))] [(.int mm), (.int (1 : Int32)), (.ref b93), (.ref b124)])) rfl (by rw [hml]; rfl) (argsL := [(.ref b124), (.ref b93), (.int (1 : Int32)), (.int mm)]) (rest := []) (lenOf pd__28_5bB_5bBII_29Z rfl) rfl (by show 2 * 0 + _ ≤ _; exact Nat.le_of_eq rfl) (hb hby at_379) (fun _ _ => ⟨rfl, e130, (by decide : 4 + 0 ≤ _), (by decide : 275 + 0 ≤ _)⟩)
      dsimp only [Pt.U, Pt.locs, Pt.cells, Pt.slots] at X132 l132 y132 z132 st132 hQ132
      subst l132 y132 z132
      obtain ⟨rfl, N132q, e132⟩ := hQ132
      obtain ⟨_, X132, N132⟩ := own_hide X132 (Fr.app N130 N132q)
      refine own_st st132 ?_
      show own_Go _ _ _ _ T132 (mkF m 382 #[.val (.int p0), .val (.int p1), .val (.int p2), .val (.int p3), .val (.int p4), .val (.int (1 : Int32)), .val (.int c0), .val (.int c1), .val (.int c2), .val (.ref b66), .val (.ref b71), .val (.int d0), .val (.int d1), .val (.int d2), .val (.ref b93), .val (.int mm), .val (.int (0 : Int32)), .val (.ref b124), .val (.int (1 : Int32))] [(.int (1 : Int32))])
      refine own_st (fun t k => XS.ifNo X132.here hx rfl (hb hby at_382) rfl ((if0 _ _).trans (feq (by decide : ¬ ((1 : Int32) = (0 : Int32)))).1) k) ?_
      show own_Go _ _ _ _ T132 (mkF m 385 #[.val (.int p0), .val (.int p1), .val (.int p2), .val (.int p3), .val (.int p4), .val (.int (1 : Int32)), .val (.int c0), .val (.int c1), .val (.int c2), .val (.ref b66), .val (.ref b71), .val (.int d0), .val (.int d1), .val (.int d2), .val (.ref b93), .val (.int mm), .val (.int (0 : Int32)), .val (.ref b124), .val (.int (1 : Int32))] [])
      refine own_st (fun t k => XS.aload X132.here hx rfl (hb hby at_385) rfl rfl k) ?_
      refine own_st (fun t k => XS.aload X132.here hx rfl (hb hby at_387) rfl rfl k) ?_
      refine own_st (fun t k => XS.iconst X132.here hx rfl (hb hby at_389) k) ?_
      refine own_st (fun t k => XS.iload X132.here hx rfl (hb hby at_390) rfl k) ?_
      show own_Go _ _ _ _ T132 (mkF m 392 #[.val (.int p0), .val (.int p1), .val (.int p2), .val (.int p3), .val (.int p4), .val (.int (1 : Int32)), .val (.int c0), .val (.int c1), .val (.int c2), .val (.ref b66), .val (.ref b71), .val (.int d0), .val (.int d1), .val (.int d2), .val (.ref b93), .val (.int mm), .val (.int (0 : Int32)), .val (.ref b124), .val (.int (1 : Int32))] [(.int mm), (.int (2 : Int32)), (.ref b93), (.ref b124)])
      obtain ⟨_, _, ⟨T133, L133, k133, n133⟩, -, X133, ⟨Lc133, hQ133, l133, y133, z133⟩, st133⟩ := Jvm.LawKit.callS X132 hx (y := (⟨"shelfmark/IriPatternPercentEncodedPinLaw", "same", "([B[BII)Z"⟩ : MethodName)) hown (mvT hZ (hw _ (List.mem_of_getElem? (i := 15) rfl))) (mvT hZ (hw _ (List.mem_of_getElem? (i := 16) rfl))) (mvT hZ (hw _ (List.mem_of_getElem? (i := 4) rfl))) (mvT hZ (hw _ (List.mem_of_getElem? (i := 17) rfl))) (by decide) (backOf (W := 0) (rm4 l Z a0 hw [] b124 b93 (2 : Int32) mm cr ce  T124.heap n0 (Nat.le_trans Z0 K0_131.1) Arr_r Arr_e (by rw [hmm]; exact own_hs h9 Szr Hsr Sze Hse 2 (by decide))) hZ (hw _ (List.mem_of_getElem? (i := 17) rfl)) (hw _ (List.mem_of_getElem? (i := 4) rfl)) (by decide) (by decide)) (g := (mkF m 392 #[.val (.int p0), .val (.int p1), .val (.int p2), .val (.int p3), .val (.int p4), .val (.int (1 : Int32)), .val (.int c0), .val (.int c1), .val (.int c2), .val (.ref b66), .val (.ref b71), .val (.int d0), .val (.int d1), .val (.int d2), .val (.ref b93), .val (.int mm), .val (.int (0 : Int32)), .val (.ref b124), .val (.int (1 : Int32))] [(.int mm), (.int (2 : Int32)), (.ref b93), (.ref b124)])) rfl (by rw [hml]; rfl) (argsL := [(.ref b124), (.ref b93), (.int (2 : Int32)), (.int mm)]) (rest := []) (lenOf pd__28_5bB_5bBII_29Z rfl) rfl (by show 2 * 0 + _ ≤ _; exact Nat.le_of_eq rfl) (hb hby at_392) (fun _ _ => ⟨rfl, e132, (by decide : 4 + 0 ≤ _), (by decide : 275 + 0 ≤ _)⟩)
      dsimp only [Pt.U, Pt.locs, Pt.cells, Pt.slots] at X133 l133 y133 z133 st133 hQ133
      subst l133 y133 z133
      obtain ⟨rfl, N133q, e133⟩ := hQ133
      obtain ⟨_, X133, N133⟩ := own_hide X133 (Fr.app N132 N133q)
      refine own_st st133 ?_
      show own_Go _ _ _ _ T133 (mkF m 395 #[.val (.int p0), .val (.int p1), .val (.int p2), .val (.int p3), .val (.int p4), .val (.int (1 : Int32)), .val (.int c0), .val (.int c1), .val (.int c2), .val (.ref b66), .val (.ref b71), .val (.int d0), .val (.int d1), .val (.int d2), .val (.ref b93), .val (.int mm), .val (.int (0 : Int32)), .val (.ref b124), .val (.int (1 : Int32))] [(.int (1 : Int32))])
      refine own_st (fun t k => XS.ifNo X133.here hx rfl (hb hby at_395) rfl ((if0 _ _).trans (feq (by decide : ¬ ((1 : Int32) = (0 : Int32)))).1) k) ?_
      show own_Go _ _ _ _ T133 (mkF m 398 #[.val (.int p0), .val (.int p1), .val (.int p2), .val (.int p3), .val (.int p4), .val (.int (1 : Int32)), .val (.int c0), .val (.int c1), .val (.int c2), .val (.ref b66), .val (.ref b71), .val (.int d0), .val (.int d1), .val (.int d2), .val (.ref b93), .val (.int mm), .val (.int (0 : Int32)), .val (.ref b124), .val (.int (1 : Int32))] [])
      refine own_st (fun t k => XS.aload X133.here hx rfl (hb hby at_398) rfl rfl k) ?_
      refine own_st (fun t k => XS.aload X133.here hx rfl (hb hby at_400) rfl rfl k) ?_
      refine own_st (fun t k => XS.iconst X133.here hx rfl (hb hby at_402) k) ?_
      refine own_st (fun t k => XS.iload X133.here hx rfl (hb hby at_403) rfl k) ?_
      show own_Go _ _ _ _ T133 (mkF m 405 #[.val (.int p0), .val (.int p1), .val (.int p2), .val (.int p3), .val (.int p4), .val (.int (1 : Int32)), .val (.int c0), .val (.int c1), .val (.int c2), .val (.ref b66), .val (.ref b71), .val (.int d0), .val (.int d1), .val (.int d2), .val (.ref b93), .val (.int mm), .val (.int (0 : Int32)), .val (.ref b124), .val (.int (1 : Int32))] [(.int mm), (.int (3 : Int32)), (.ref b93), (.ref b124)])
      obtain ⟨_, _, ⟨T134, L134, k134, n134⟩, -, X134, ⟨Lc134, hQ134, l134, y134, z134⟩, st134⟩ := Jvm.LawKit.callS X133 hx (y := (⟨"shelfmark/IriPatternPercentEncodedPinLaw", "same", "([B[BII)Z"⟩ : MethodName)) hown (mvT hZ (hw _ (List.mem_of_getElem? (i := 15) rfl))) (mvT hZ (hw _ (List.mem_of_getElem? (i := 16) rfl))) (mvT hZ (hw _ (List.mem_of_getElem? (i := 4) rfl))) (mvT hZ (hw _ (List.mem_of_getElem? (i := 17) rfl))) (by decide) (backOf (W := 0) (rm4 l Z a0 hw [] b124 b93 (3 : Int32) mm cr ce  T124.heap n0 (Nat.le_trans Z0 K0_131.1) Arr_r Arr_e (by rw [hmm]; exact own_hs h9 Szr Hsr Sze Hse 3 (by decide))) hZ (hw _ (List.mem_of_getElem? (i := 17) rfl)) (hw _ (List.mem_of_getElem? (i := 4) rfl)) (by decide) (by decide)) (g := (mkF m 405 #[.val (.int p0), .val (.int p1), .val (.int p2), .val (.int p3), .val (.int p4), .val (.int (1 : Int32)), .val (.int c0), .val (.int c1), .val (.int c2), .val (.ref b66), .val (.ref b71), .val (.int d0), .val (.int d1), .val (.int d2), .val (.ref b93), .val (.int mm), .val (.int (0 : Int32)), .val (.ref b124), .val (.int (1 : Int32))] [(.int mm), (.int (3 : Int32)), (.ref b93), (.ref b124)])) rfl (by rw [hml]; rfl) (argsL := [(.ref b124), (.ref b93), (.int (3 : Int32)), (.int mm)]) (rest := []) (lenOf pd__28_5bB_5bBII_29Z rfl) rfl (by show 2 * 0 + _ ≤ _; exact Nat.le_of_eq rfl) (hb hby at_405) (fun _ _ => ⟨rfl, e133, (by decide : 4 + 0 ≤ _), (by decide : 275 + 0 ≤ _)⟩)
      dsimp only [Pt.U, Pt.locs, Pt.cells, Pt.slots] at X134 l134 y134 z134 st134 hQ134
      subst l134 y134 z134
      obtain ⟨rfl, N134q, e134⟩ := hQ134
      obtain ⟨_, X134, N134⟩ := own_hide X134 (Fr.app N133 N134q)
      refine own_st st134 ?_
      show own_Go _ _ _ _ T134 (mkF m 408 #[.val (.int p0), .val (.int p1), .val (.int p2), .val (.int p3), .val (.int p4), .val (.int (1 : Int32)), .val (.int c0), .val (.int c1), .val (.int c2), .val (.ref b66), .val (.ref b71), .val (.int d0), .val (.int d1), .val (.int d2), .val (.ref b93), .val (.int mm), .val (.int (0 : Int32)), .val (.ref b124), .val (.int (1 : Int32))] [(.int (1 : Int32))])
      refine own_st (fun t k => XS.ifNo X134.here hx rfl (hb hby at_408) rfl ((if0 _ _).trans (feq (by decide : ¬ ((1 : Int32) = (0 : Int32)))).1) k) ?_
      show own_Go _ _ _ _ T134 (mkF m 411 #[.val (.int p0), .val (.int p1), .val (.int p2), .val (.int p3), .val (.int p4), .val (.int (1 : Int32)), .val (.int c0), .val (.int c1), .val (.int c2), .val (.ref b66), .val (.ref b71), .val (.int d0), .val (.int d1), .val (.int d2), .val (.ref b93), .val (.int mm), .val (.int (0 : Int32)), .val (.ref b124), .val (.int (1 : Int32))] [])
      refine own_st (fun t k => XS.aload X134.here hx rfl (hb hby at_411) rfl rfl k) ?_
      refine own_st (fun t k => XS.aload X134.here hx rfl (hb hby at_413) rfl rfl k) ?_
      refine own_st (fun t k => XS.iconst X134.here hx rfl (hb hby at_415) k) ?_
      refine own_st (fun t k => XS.iload X134.here hx rfl (hb hby at_416) rfl k) ?_
      show own_Go _ _ _ _ T134 (mkF m 418 #[.val (.int p0), .val (.int p1), .val (.int p2), .val (.int p3), .val (.int p4), .val (.int (1 : Int32)), .val (.int c0), .val (.int c1), .val (.int c2), .val (.ref b66), .val (.ref b71), .val (.int d0), .val (.int d1), .val (.int d2), .val (.ref b93), .val (.int mm), .val (.int (0 : Int32)), .val (.ref b124), .val (.int (1 : Int32))] [(.int mm), (.int (4 : Int32)), (.ref b93), (.ref b124)])
      obtain ⟨_, _, ⟨T135, L135, k135, n135⟩, -, X135, ⟨Lc135, hQ135, l135, y135, z135⟩, st135⟩ := Jvm.LawKit.callS X134 hx (y := (⟨"shelfmark/IriPatternPercentEncodedPinLaw", "same", "([B[BII)Z"⟩ : MethodName)) hown (mvT hZ (hw _ (List.mem_of_getElem? (i := 15) rfl))) (mvT hZ (hw _ (List.mem_of_getElem? (i := 16) rfl))) (mvT hZ (hw _ (List.mem_of_getElem? (i := 4) rfl))) (mvT hZ (hw _ (List.mem_of_getElem? (i := 17) rfl))) (by decide) (backOf (W := 0) (rm4 l Z a0 hw [] b124 b93 (4 : Int32) mm cr ce  T124.heap n0 (Nat.le_trans Z0 K0_131.1) Arr_r Arr_e (by rw [hmm]; exact own_hs h9 Szr Hsr Sze Hse 4 (by decide))) hZ (hw _ (List.mem_of_getElem? (i := 17) rfl)) (hw _ (List.mem_of_getElem? (i := 4) rfl)) (by decide) (by decide)) (g := (mkF m 418 #[.val (.int p0), .val (.int p1), .val (.int p2), .val (.int p3), .val (.int p4), .val (.int (1 : Int32)), .val (.int c0), .val (.int c1), .val (.int c2), .val (.ref b66), .val (.ref b71), .val (.int d0), .val (.int d1), .val (.int d2), .val (.ref b93), .val (.int mm), .val (.int (0 : Int32)), .val (.ref b124), .val (.int (1 : Int32))] [(.int mm), (.int (4 : Int32)), (.ref b93), (.ref b124)])) rfl (by rw [hml]; rfl) (argsL := [(.ref b124), (.ref b93), (.int (4 : Int32)), (.int mm)]) (rest := []) (lenOf pd__28_5bB_5bBII_29Z rfl) rfl (by show 2 * 0 + _ ≤ _; exact Nat.le_of_eq rfl) (hb hby at_418) (fun _ _ => ⟨rfl, e134, (by decide : 4 + 0 ≤ _), (by decide : 275 + 0 ≤ _)⟩)
      dsimp only [Pt.U, Pt.locs, Pt.cells, Pt.slots] at X135 l135 y135 z135 st135 hQ135
      subst l135 y135 z135
      obtain ⟨rfl, N135q, e135⟩ := hQ135
      obtain ⟨_, X135, N135⟩ := own_hide X135 (Fr.app N134 N135q)
      refine own_st st135 ?_
      show own_Go _ _ _ _ T135 (mkF m 421 #[.val (.int p0), .val (.int p1), .val (.int p2), .val (.int p3), .val (.int p4), .val (.int (1 : Int32)), .val (.int c0), .val (.int c1), .val (.int c2), .val (.ref b66), .val (.ref b71), .val (.int d0), .val (.int d1), .val (.int d2), .val (.ref b93), .val (.int mm), .val (.int (0 : Int32)), .val (.ref b124), .val (.int (1 : Int32))] [(.int (1 : Int32))])
      refine own_st (fun t k => XS.ifNo X135.here hx rfl (hb hby at_421) rfl ((if0 _ _).trans (feq (by decide : ¬ ((1 : Int32) = (0 : Int32)))).1) k) ?_
      show own_Go _ _ _ _ T135 (mkF m 424 #[.val (.int p0), .val (.int p1), .val (.int p2), .val (.int p3), .val (.int p4), .val (.int (1 : Int32)), .val (.int c0), .val (.int c1), .val (.int c2), .val (.ref b66), .val (.ref b71), .val (.int d0), .val (.int d1), .val (.int d2), .val (.ref b93), .val (.int mm), .val (.int (0 : Int32)), .val (.ref b124), .val (.int (1 : Int32))] [])
      refine own_st (fun t k => XS.aload X135.here hx rfl (hb hby at_424) rfl rfl k) ?_
      refine own_st (fun t k => XS.aload X135.here hx rfl (hb hby at_426) rfl rfl k) ?_
      refine own_st (fun t k => XS.iconst X135.here hx rfl (hb hby at_428) k) ?_
      refine own_st (fun t k => XS.iload X135.here hx rfl (hb hby at_429) rfl k) ?_
      show own_Go _ _ _ _ T135 (mkF m 431 #[.val (.int p0), .val (.int p1), .val (.int p2), .val (.int p3), .val (.int p4), .val (.int (1 : Int32)), .val (.int c0), .val (.int c1), .val (.int c2), .val (.ref b66), .val (.ref b71), .val (.int d0), .val (.int d1), .val (.int d2), .val (.ref b93), .val (.int mm), .val (.int (0 : Int32)), .val (.ref b124), .val (.int (1 : Int32))] [(.int mm), (.int (5 : Int32)), (.ref b93), (.ref b124)])
      obtain ⟨_, _, ⟨T136, L136, k136, n136⟩, -, X136, ⟨Lc136, hQ136, l136, y136, z136⟩, st136⟩ := Jvm.LawKit.callS X135 hx (y := (⟨"shelfmark/IriPatternPercentEncodedPinLaw", "same", "([B[BII)Z"⟩ : MethodName)) hown (mvT hZ (hw _ (List.mem_of_getElem? (i := 15) rfl))) (mvT hZ (hw _ (List.mem_of_getElem? (i := 16) rfl))) (mvT hZ (hw _ (List.mem_of_getElem? (i := 4) rfl))) (mvT hZ (hw _ (List.mem_of_getElem? (i := 17) rfl))) (by decide) (backOf (W := 0) (rm4 l Z a0 hw [] b124 b93 (5 : Int32) mm cr ce  T124.heap n0 (Nat.le_trans Z0 K0_131.1) Arr_r Arr_e (by rw [hmm]; exact own_hs h9 Szr Hsr Sze Hse 5 (by decide))) hZ (hw _ (List.mem_of_getElem? (i := 17) rfl)) (hw _ (List.mem_of_getElem? (i := 4) rfl)) (by decide) (by decide)) (g := (mkF m 431 #[.val (.int p0), .val (.int p1), .val (.int p2), .val (.int p3), .val (.int p4), .val (.int (1 : Int32)), .val (.int c0), .val (.int c1), .val (.int c2), .val (.ref b66), .val (.ref b71), .val (.int d0), .val (.int d1), .val (.int d2), .val (.ref b93), .val (.int mm), .val (.int (0 : Int32)), .val (.ref b124), .val (.int (1 : Int32))] [(.int mm), (.int (5 : Int32)), (.ref b93), (.ref b124)])) rfl (by rw [hml]; rfl) (argsL := [(.ref b124), (.ref b93), (.int (5 : Int32)), (.int mm)]) (rest := []) (lenOf pd__28_5bB_5bBII_29Z rfl) rfl (by show 2 * 0 + _ ≤ _; exact Nat.le_of_eq rfl) (hb hby at_431) (fun _ _ => ⟨rfl, e135, (by decide : 4 + 0 ≤ _), (by decide : 275 + 0 ≤ _)⟩)
      dsimp only [Pt.U, Pt.locs, Pt.cells, Pt.slots] at X136 l136 y136 z136 st136 hQ136
      subst l136 y136 z136
      obtain ⟨rfl, N136q, e136⟩ := hQ136
      obtain ⟨_, X136, N136⟩ := own_hide X136 (Fr.app N135 N136q)
      refine own_st st136 ?_
      show own_Go _ _ _ _ T136 (mkF m 434 #[.val (.int p0), .val (.int p1), .val (.int p2), .val (.int p3), .val (.int p4), .val (.int (1 : Int32)), .val (.int c0), .val (.int c1), .val (.int c2), .val (.ref b66), .val (.ref b71), .val (.int d0), .val (.int d1), .val (.int d2), .val (.ref b93), .val (.int mm), .val (.int (0 : Int32)), .val (.ref b124), .val (.int (1 : Int32))] [(.int (1 : Int32))])
      refine own_st (fun t k => XS.ifNo X136.here hx rfl (hb hby at_434) rfl ((if0 _ _).trans (feq (by decide : ¬ ((1 : Int32) = (0 : Int32)))).1) k) ?_
      show own_Go _ _ _ _ T136 (mkF m 437 #[.val (.int p0), .val (.int p1), .val (.int p2), .val (.int p3), .val (.int p4), .val (.int (1 : Int32)), .val (.int c0), .val (.int c1), .val (.int c2), .val (.ref b66), .val (.ref b71), .val (.int d0), .val (.int d1), .val (.int d2), .val (.ref b93), .val (.int mm), .val (.int (0 : Int32)), .val (.ref b124), .val (.int (1 : Int32))] [])
      refine own_st (fun t k => XS.aload X136.here hx rfl (hb hby at_437) rfl rfl k) ?_
      refine own_st (fun t k => XS.aload X136.here hx rfl (hb hby at_439) rfl rfl k) ?_
      refine own_st (fun t k => XS.bipush X136.here hx rfl (hb hby at_441) k) ?_
      refine own_st (fun t k => XS.iload X136.here hx rfl (hb hby at_443) rfl k) ?_
      show own_Go _ _ _ _ T136 (mkF m 445 #[.val (.int p0), .val (.int p1), .val (.int p2), .val (.int p3), .val (.int p4), .val (.int (1 : Int32)), .val (.int c0), .val (.int c1), .val (.int c2), .val (.ref b66), .val (.ref b71), .val (.int d0), .val (.int d1), .val (.int d2), .val (.ref b93), .val (.int mm), .val (.int (0 : Int32)), .val (.ref b124), .val (.int (1 : Int32))] [(.int mm), (.int (6 : Int32)), (.ref b93), (.ref b124)])
      obtain ⟨_, _, ⟨T137, L137, k137, n137⟩, -, X137, ⟨Lc137, hQ137, l137, y137, z137⟩, st137⟩ := Jvm.LawKit.callS X136 hx (y := (⟨"shelfmark/IriPatternPercentEncodedPinLaw", "same", "([B[BII)Z"⟩ : MethodName)) hown (mvT hZ (hw _ (List.mem_of_getElem? (i := 15) rfl))) (mvT hZ (hw _ (List.mem_of_getElem? (i := 16) rfl))) (mvT hZ (hw _ (List.mem_of_getElem? (i := 4) rfl))) (mvT hZ (hw _ (List.mem_of_getElem? (i := 17) rfl))) (by decide) (backOf (W := 0) (rm4 l Z a0 hw [] b124 b93 (6 : Int32) mm cr ce  T124.heap n0 (Nat.le_trans Z0 K0_131.1) Arr_r Arr_e (by rw [hmm]; exact own_hs h9 Szr Hsr Sze Hse 6 (by decide))) hZ (hw _ (List.mem_of_getElem? (i := 17) rfl)) (hw _ (List.mem_of_getElem? (i := 4) rfl)) (by decide) (by decide)) (g := (mkF m 445 #[.val (.int p0), .val (.int p1), .val (.int p2), .val (.int p3), .val (.int p4), .val (.int (1 : Int32)), .val (.int c0), .val (.int c1), .val (.int c2), .val (.ref b66), .val (.ref b71), .val (.int d0), .val (.int d1), .val (.int d2), .val (.ref b93), .val (.int mm), .val (.int (0 : Int32)), .val (.ref b124), .val (.int (1 : Int32))] [(.int mm), (.int (6 : Int32)), (.ref b93), (.ref b124)])) rfl (by rw [hml]; rfl) (argsL := [(.ref b124), (.ref b93), (.int (6 : Int32)), (.int mm)]) (rest := []) (lenOf pd__28_5bB_5bBII_29Z rfl) rfl (by show 2 * 0 + _ ≤ _; exact Nat.le_of_eq rfl) (hb hby at_445) (fun _ _ => ⟨rfl, e136, (by decide : 4 + 0 ≤ _), (by decide : 275 + 0 ≤ _)⟩)
      dsimp only [Pt.U, Pt.locs, Pt.cells, Pt.slots] at X137 l137 y137 z137 st137 hQ137
      subst l137 y137 z137
      obtain ⟨rfl, N137q, e137⟩ := hQ137
      obtain ⟨_, X137, N137⟩ := own_hide X137 (Fr.app N136 N137q)
      refine own_st st137 ?_
      show own_Go _ _ _ _ T137 (mkF m 448 #[.val (.int p0), .val (.int p1), .val (.int p2), .val (.int p3), .val (.int p4), .val (.int (1 : Int32)), .val (.int c0), .val (.int c1), .val (.int c2), .val (.ref b66), .val (.ref b71), .val (.int d0), .val (.int d1), .val (.int d2), .val (.ref b93), .val (.int mm), .val (.int (0 : Int32)), .val (.ref b124), .val (.int (1 : Int32))] [(.int (1 : Int32))])
      refine own_st (fun t k => XS.ifNo X137.here hx rfl (hb hby at_448) rfl ((if0 _ _).trans (feq (by decide : ¬ ((1 : Int32) = (0 : Int32)))).1) k) ?_
      show own_Go _ _ _ _ T137 (mkF m 451 #[.val (.int p0), .val (.int p1), .val (.int p2), .val (.int p3), .val (.int p4), .val (.int (1 : Int32)), .val (.int c0), .val (.int c1), .val (.int c2), .val (.ref b66), .val (.ref b71), .val (.int d0), .val (.int d1), .val (.int d2), .val (.ref b93), .val (.int mm), .val (.int (0 : Int32)), .val (.ref b124), .val (.int (1 : Int32))] [])
      refine own_st (fun t k => XS.aload X137.here hx rfl (hb hby at_451) rfl rfl k) ?_
      refine own_st (fun t k => XS.aload X137.here hx rfl (hb hby at_453) rfl rfl k) ?_
      refine own_st (fun t k => XS.bipush X137.here hx rfl (hb hby at_455) k) ?_
      refine own_st (fun t k => XS.iload X137.here hx rfl (hb hby at_457) rfl k) ?_
      show own_Go _ _ _ _ T137 (mkF m 459 #[.val (.int p0), .val (.int p1), .val (.int p2), .val (.int p3), .val (.int p4), .val (.int (1 : Int32)), .val (.int c0), .val (.int c1), .val (.int c2), .val (.ref b66), .val (.ref b71), .val (.int d0), .val (.int d1), .val (.int d2), .val (.ref b93), .val (.int mm), .val (.int (0 : Int32)), .val (.ref b124), .val (.int (1 : Int32))] [(.int mm), (.int (7 : Int32)), (.ref b93), (.ref b124)])
      obtain ⟨_, _, ⟨T138, L138, k138, n138⟩, -, X138, ⟨Lc138, hQ138, l138, y138, z138⟩, st138⟩ := Jvm.LawKit.callS X137 hx (y := (⟨"shelfmark/IriPatternPercentEncodedPinLaw", "same", "([B[BII)Z"⟩ : MethodName)) hown (mvT hZ (hw _ (List.mem_of_getElem? (i := 15) rfl))) (mvT hZ (hw _ (List.mem_of_getElem? (i := 16) rfl))) (mvT hZ (hw _ (List.mem_of_getElem? (i := 4) rfl))) (mvT hZ (hw _ (List.mem_of_getElem? (i := 17) rfl))) (by decide) (backOf (W := 0) (rm4 l Z a0 hw [] b124 b93 (7 : Int32) mm cr ce  T124.heap n0 (Nat.le_trans Z0 K0_131.1) Arr_r Arr_e (by rw [hmm]; exact own_hs h9 Szr Hsr Sze Hse 7 (by decide))) hZ (hw _ (List.mem_of_getElem? (i := 17) rfl)) (hw _ (List.mem_of_getElem? (i := 4) rfl)) (by decide) (by decide)) (g := (mkF m 459 #[.val (.int p0), .val (.int p1), .val (.int p2), .val (.int p3), .val (.int p4), .val (.int (1 : Int32)), .val (.int c0), .val (.int c1), .val (.int c2), .val (.ref b66), .val (.ref b71), .val (.int d0), .val (.int d1), .val (.int d2), .val (.ref b93), .val (.int mm), .val (.int (0 : Int32)), .val (.ref b124), .val (.int (1 : Int32))] [(.int mm), (.int (7 : Int32)), (.ref b93), (.ref b124)])) rfl (by rw [hml]; rfl) (argsL := [(.ref b124), (.ref b93), (.int (7 : Int32)), (.int mm)]) (rest := []) (lenOf pd__28_5bB_5bBII_29Z rfl) rfl (by show 2 * 0 + _ ≤ _; exact Nat.le_of_eq rfl) (hb hby at_459) (fun _ _ => ⟨rfl, e137, (by decide : 4 + 0 ≤ _), (by decide : 275 + 0 ≤ _)⟩)
      dsimp only [Pt.U, Pt.locs, Pt.cells, Pt.slots] at X138 l138 y138 z138 st138 hQ138
      subst l138 y138 z138
      obtain ⟨rfl, N138q, e138⟩ := hQ138
      obtain ⟨_, X138, N138⟩ := own_hide X138 (Fr.app N137 N138q)
      refine own_st st138 ?_
      show own_Go _ _ _ _ T138 (mkF m 462 #[.val (.int p0), .val (.int p1), .val (.int p2), .val (.int p3), .val (.int p4), .val (.int (1 : Int32)), .val (.int c0), .val (.int c1), .val (.int c2), .val (.ref b66), .val (.ref b71), .val (.int d0), .val (.int d1), .val (.int d2), .val (.ref b93), .val (.int mm), .val (.int (0 : Int32)), .val (.ref b124), .val (.int (1 : Int32))] [(.int (1 : Int32))])
      refine own_st (fun t k => XS.ifNo X138.here hx rfl (hb hby at_462) rfl ((if0 _ _).trans (feq (by decide : ¬ ((1 : Int32) = (0 : Int32)))).1) k) ?_
      show own_Go _ _ _ _ T138 (mkF m 465 #[.val (.int p0), .val (.int p1), .val (.int p2), .val (.int p3), .val (.int p4), .val (.int (1 : Int32)), .val (.int c0), .val (.int c1), .val (.int c2), .val (.ref b66), .val (.ref b71), .val (.int d0), .val (.int d1), .val (.int d2), .val (.ref b93), .val (.int mm), .val (.int (0 : Int32)), .val (.ref b124), .val (.int (1 : Int32))] [])
      refine own_st (fun t k => XS.aload X138.here hx rfl (hb hby at_465) rfl rfl k) ?_
      refine own_st (fun t k => XS.aload X138.here hx rfl (hb hby at_467) rfl rfl k) ?_
      refine own_st (fun t k => XS.bipush X138.here hx rfl (hb hby at_469) k) ?_
      refine own_st (fun t k => XS.iload X138.here hx rfl (hb hby at_471) rfl k) ?_
      show own_Go _ _ _ _ T138 (mkF m 473 #[.val (.int p0), .val (.int p1), .val (.int p2), .val (.int p3), .val (.int p4), .val (.int (1 : Int32)), .val (.int c0), .val (.int c1), .val (.int c2), .val (.ref b66), .val (.ref b71), .val (.int d0), .val (.int d1), .val (.int d2), .val (.ref b93), .val (.int mm), .val (.int (0 : Int32)), .val (.ref b124), .val (.int (1 : Int32))] [(.int mm), (.int (8 : Int32)), (.ref b93), (.ref b124)])
      obtain ⟨_, _, ⟨T139, L139, k139, n139⟩, -, X139, ⟨Lc139, hQ139, l139, y139, z139⟩, st139⟩ := Jvm.LawKit.callS X138 hx (y := (⟨"shelfmark/IriPatternPercentEncodedPinLaw", "same", "([B[BII)Z"⟩ : MethodName)) hown (mvT hZ (hw _ (List.mem_of_getElem? (i := 15) rfl))) (mvT hZ (hw _ (List.mem_of_getElem? (i := 16) rfl))) (mvT hZ (hw _ (List.mem_of_getElem? (i := 4) rfl))) (mvT hZ (hw _ (List.mem_of_getElem? (i := 17) rfl))) (by decide) (backOf (W := 0) (rm4 l Z a0 hw [] b124 b93 (8 : Int32) mm cr ce  T124.heap n0 (Nat.le_trans Z0 K0_131.1) Arr_r Arr_e (by rw [hmm]; exact own_hs h9 Szr Hsr Sze Hse 8 (by decide))) hZ (hw _ (List.mem_of_getElem? (i := 17) rfl)) (hw _ (List.mem_of_getElem? (i := 4) rfl)) (by decide) (by decide)) (g := (mkF m 473 #[.val (.int p0), .val (.int p1), .val (.int p2), .val (.int p3), .val (.int p4), .val (.int (1 : Int32)), .val (.int c0), .val (.int c1), .val (.int c2), .val (.ref b66), .val (.ref b71), .val (.int d0), .val (.int d1), .val (.int d2), .val (.ref b93), .val (.int mm), .val (.int (0 : Int32)), .val (.ref b124), .val (.int (1 : Int32))] [(.int mm), (.int (8 : Int32)), (.ref b93), (.ref b124)])) rfl (by rw [hml]; rfl) (argsL := [(.ref b124), (.ref b93), (.int (8 : Int32)), (.int mm)]) (rest := []) (lenOf pd__28_5bB_5bBII_29Z rfl) rfl (by show 2 * 0 + _ ≤ _; exact Nat.le_of_eq rfl) (hb hby at_473) (fun _ _ => ⟨rfl, e138, (by decide : 4 + 0 ≤ _), (by decide : 275 + 0 ≤ _)⟩)
      dsimp only [Pt.U, Pt.locs, Pt.cells, Pt.slots] at X139 l139 y139 z139 st139 hQ139
      subst l139 y139 z139
      obtain ⟨rfl, N139q, e139⟩ := hQ139
      obtain ⟨_, X139, N139⟩ := own_hide X139 (Fr.app N138 N139q)
      refine own_st st139 ?_
      show own_Go _ _ _ _ T139 (mkF m 476 #[.val (.int p0), .val (.int p1), .val (.int p2), .val (.int p3), .val (.int p4), .val (.int (1 : Int32)), .val (.int c0), .val (.int c1), .val (.int c2), .val (.ref b66), .val (.ref b71), .val (.int d0), .val (.int d1), .val (.int d2), .val (.ref b93), .val (.int mm), .val (.int (0 : Int32)), .val (.ref b124), .val (.int (1 : Int32))] [(.int (1 : Int32))])
      refine own_st (fun t k => XS.ifNo X139.here hx rfl (hb hby at_476) rfl ((if0 _ _).trans (feq (by decide : ¬ ((1 : Int32) = (0 : Int32)))).1) k) ?_
      show own_Go _ _ _ _ T139 (mkF m 479 #[.val (.int p0), .val (.int p1), .val (.int p2), .val (.int p3), .val (.int p4), .val (.int (1 : Int32)), .val (.int c0), .val (.int c1), .val (.int c2), .val (.ref b66), .val (.ref b71), .val (.int d0), .val (.int d1), .val (.int d2), .val (.ref b93), .val (.int mm), .val (.int (0 : Int32)), .val (.ref b124), .val (.int (1 : Int32))] [])
      refine own_st (fun t k => XS.iconst X139.here hx rfl (hb hby at_479) k) ?_
      refine own_st (fun t k => XS.goto X139.here hx rfl (pc0 := 480) (pc' := 484) rfl (hb hby at_480) (by decide) (by decide) k) ?_
      show own_Go _ _ _ _ T139 (mkF m 484 #[.val (.int p0), .val (.int p1), .val (.int p2), .val (.int p3), .val (.int p4), .val (.int (1 : Int32)), .val (.int c0), .val (.int c1), .val (.int c2), .val (.ref b66), .val (.ref b71), .val (.int d0), .val (.int d1), .val (.int d2), .val (.ref b93), .val (.int mm), .val (.int (0 : Int32)), .val (.ref b124), .val (.int (1 : Int32))] [(.int (1 : Int32))])
      exact own_retN X139 hx hlk (t := .boolean) hrt (by simp) (hb hby at_484) ⟨rfl, N139⟩ (by decide) (by decide)
  ·
    rw [hn]
    show own_Go _ _ _ _ s₁ (mkF m 17 #[.val (.int p0), .val (.int p1), .val (.int p2), .val (.int p3), .val (.int p4), .val (.int (2 : Int32)), .val (.int c0), .val (.int c1), .val (.int c2), .unset, .unset, .unset, .unset, .unset, .unset, .unset, .unset, .unset, .unset] [])
    refine own_st (fun t k => XS.iload X0.here hx rfl (hb hby at_17) rfl k) ?_
    show own_Go _ _ _ _ s₁ (mkF m 19 #[.val (.int p0), .val (.int p1), .val (.int p2), .val (.int p3), .val (.int p4), .val (.int (2 : Int32)), .val (.int c0), .val (.int c1), .val (.int c2), .unset, .unset, .unset, .unset, .unset, .unset, .unset, .unset, .unset, .unset] [(.int (2 : Int32))])
    obtain ⟨T140, h140, k140, X140, e140, E140, A140, st140⟩ := newP X0 hx hZ (hw _ (List.mem_of_getElem? (i := 0) rfl)) e0 (g := (mkF m 19 #[.val (.int p0), .val (.int p1), .val (.int p2), .val (.int p3), .val (.int p4), .val (.int (2 : Int32)), .val (.int c0), .val (.int c1), .val (.int c2), .unset, .unset, .unset, .unset, .unset, .unset, .unset, .unset, .unset, .unset] [(.int (2 : Int32))])) rfl (hb hby at_19) rfl (by decide) (cap := 2) (by decide) (by decide) (by decide) (by decide)
    obtain ⟨b140, g140⟩ : ∃ z, z = h0.size := ⟨_, rfl⟩
    rw [← g140] at A140 st140
    have sz_b140 : h0.size ≤ b140 := Nat.le_trans K0.1 (Nat.le_of_eq g140.symm)
    have g_b140 : n0 ≤ b140 := Nat.le_trans Z0 sz_b140
    have ne_ra_b140 : ra ≠ b140 := Nat.ne_of_lt (Nat.lt_of_lt_of_le A_H.lt (Nat.le_of_eq g140.symm))
    have V140 : Arv Z h140 b140 k140 .byte (2 : Int32) [(.int (0 : Int32)), (.int (0 : Int32))] (.int (0 : Int32)) := (Arv.new A140 (by decide)).pad (pad_rep [] (.int (0 : Int32)) 2)
    refine own_st st140 ?_
    show own_Go _ _ _ _ T140 (mkF m 21 #[.val (.int p0), .val (.int p1), .val (.int p2), .val (.int p3), .val (.int p4), .val (.int (2 : Int32)), .val (.int c0), .val (.int c1), .val (.int c2), .unset, .unset, .unset, .unset, .unset, .unset, .unset, .unset, .unset, .unset] [(.ref b140)])
    refine own_st (fun t k => XS.astore X140.here hx rfl (hb hby at_21) rfl rfl (l' := #[.val (.int p0), .val (.int p1), .val (.int p2), .val (.int p3), .val (.int p4), .val (.int (2 : Int32)), .val (.int c0), .val (.int c1), .val (.int c2), .val (.ref b140), .unset, .unset, .unset, .unset, .unset, .unset, .unset, .unset, .unset]) rfl k) ?_
    show own_Go _ _ _ _ T140 (mkF m 23 #[.val (.int p0), .val (.int p1), .val (.int p2), .val (.int p3), .val (.int p4), .val (.int (2 : Int32)), .val (.int c0), .val (.int c1), .val (.int c2), .val (.ref b140), .unset, .unset, .unset, .unset, .unset, .unset, .unset, .unset, .unset] [])
    refine own_st (fun t k => XS.iload X140.here hx rfl (hb hby at_23) rfl k) ?_
    refine own_st (fun t k => XS.ifNo X140.here hx rfl (hb hby at_25) rfl ((if0 _ _).trans (tlt (by decide : (0 : Int32) < (2 : Int32))).2.2.2) k) ?_
    show own_Go _ _ _ _ T140 (mkF m 28 #[.val (.int p0), .val (.int p1), .val (.int p2), .val (.int p3), .val (.int p4), .val (.int (2 : Int32)), .val (.int c0), .val (.int c1), .val (.int c2), .val (.ref b140), .unset, .unset, .unset, .unset, .unset, .unset, .unset, .unset, .unset] [])
    refine own_st (fun t k => XS.aload X140.here hx rfl (hb hby at_28) rfl rfl k) ?_
    refine own_st (fun t k => XS.iconst X140.here hx rfl (hb hby at_30) k) ?_
    refine own_st (fun t k => XS.iload X140.here hx rfl (hb hby at_31) rfl k) ?_
    show own_Go _ _ _ _ T140 (mkF m 33 #[.val (.int p0), .val (.int p1), .val (.int p2), .val (.int p3), .val (.int p4), .val (.int (2 : Int32)), .val (.int c0), .val (.int c1), .val (.int c2), .val (.ref b140), .unset, .unset, .unset, .unset, .unset, .unset, .unset, .unset, .unset] [(.int c0), (.int (0 : Int32)), (.ref b140)])
    have K0_141 := (K0.ext E140)
    obtain ⟨cl142, Ar142, qk142, Sz142, Nn142, Hs142, Gf142⟩ := id V140
    have hin142 : ¬ ((0 : Int32) < 0 ∨ cl142.slots.size ≤ ((0 : Int32)).toNatClampNeg) := inb_of Sz142 ⟨by decide, by decide⟩
    obtain ⟨T143, h143, X143, e143, W143, st143⟩ := stB X140 hx hZ e140 Ar142 (j := (0 : Int32)) hin142 (g := (mkF m 33 #[.val (.int p0), .val (.int p1), .val (.int p2), .val (.int p3), .val (.int p4), .val (.int (2 : Int32)), .val (.int c0), .val (.int c1), .val (.int c2), .val (.ref b140), .unset, .unset, .unset, .unset, .unset, .unset, .unset, .unset, .unset] [(.int c0), (.int (0 : Int32)), (.ref b140)])) rfl rfl (hb hby at_33)
    have V143 : Arv Z h143 b140 k140 .byte (2 : Int32) [(.int (nar .byte c0)), (.int (0 : Int32))] (.int (0 : Int32)) := Arv.set Ar142 qk142 Sz142 Nn142 Hs142 Gf142 (fits_nar_byte _) W143 0 rfl (Nat.le_of_ble_eq_true rfl)
    rw [hb0] at V143
    obtain ⟨_, X143, N143⟩ := own_hide X143 (Fr.snoc X143 N0 g_b140)
    refine own_st st143 ?_
    show own_Go _ _ _ _ T143 (mkF m 34 #[.val (.int p0), .val (.int p1), .val (.int p2), .val (.int p3), .val (.int p4), .val (.int (2 : Int32)), .val (.int c0), .val (.int c1), .val (.int c2), .val (.ref b140), .unset, .unset, .unset, .unset, .unset, .unset, .unset, .unset, .unset] [])
    refine own_st (fun t k => XS.iload X143.here hx rfl (hb hby at_34) rfl k) ?_
    refine own_st (fun t k => XS.iconst X143.here hx rfl (hb hby at_36) k) ?_
    refine own_st (fun t k => XS.icmpNo X143.here hx rfl (hb hby at_37) rfl (tlt (by decide : (1 : Int32) < (2 : Int32))).2.2.2 k) ?_
    show own_Go _ _ _ _ T143 (mkF m 40 #[.val (.int p0), .val (.int p1), .val (.int p2), .val (.int p3), .val (.int p4), .val (.int (2 : Int32)), .val (.int c0), .val (.int c1), .val (.int c2), .val (.ref b140), .unset, .unset, .unset, .unset, .unset, .unset, .unset, .unset, .unset] [])
    refine own_st (fun t k => XS.aload X143.here hx rfl (hb hby at_40) rfl rfl k) ?_
    refine own_st (fun t k => XS.iconst X143.here hx rfl (hb hby at_42) k) ?_
    refine own_st (fun t k => XS.iload X143.here hx rfl (hb hby at_43) rfl k) ?_
    show own_Go _ _ _ _ T143 (mkF m 45 #[.val (.int p0), .val (.int p1), .val (.int p2), .val (.int p3), .val (.int p4), .val (.int (2 : Int32)), .val (.int c0), .val (.int c1), .val (.int c2), .val (.ref b140), .unset, .unset, .unset, .unset, .unset, .unset, .unset, .unset, .unset] [(.int c1), (.int (1 : Int32)), (.ref b140)])
    have K0_144 := (K0_141.wr W143 (Or.inr sz_b140))
    obtain ⟨cl145, Ar145, qk145, Sz145, Nn145, Hs145, Gf145⟩ := id V143
    have hin145 : ¬ ((1 : Int32) < 0 ∨ cl145.slots.size ≤ ((1 : Int32)).toNatClampNeg) := inb_of Sz145 ⟨by decide, by decide⟩
    obtain ⟨T146, h146, X146, e146, W146, st146⟩ := stB X143 hx hZ e143 Ar145 (j := (1 : Int32)) hin145 (g := (mkF m 45 #[.val (.int p0), .val (.int p1), .val (.int p2), .val (.int p3), .val (.int p4), .val (.int (2 : Int32)), .val (.int c0), .val (.int c1), .val (.int c2), .val (.ref b140), .unset, .unset, .unset, .unset, .unset, .unset, .unset, .unset, .unset] [(.int c1), (.int (1 : Int32)), (.ref b140)])) rfl rfl (hb hby at_45)
    have V146 : Arv Z h146 b140 k140 .byte (2 : Int32) [(.int c0), (.int (nar .byte c1))] (.int (0 : Int32)) := Arv.set Ar145 qk145 Sz145 Nn145 Hs145 Gf145 (fits_nar_byte _) W146 1 rfl (Nat.le_of_ble_eq_true rfl)
    rw [hb1] at V146
    obtain ⟨_, X146, N146⟩ := own_hide X146 (Fr.snoc X146 N143 g_b140)
    refine own_st st146 ?_
    show own_Go _ _ _ _ T146 (mkF m 46 #[.val (.int p0), .val (.int p1), .val (.int p2), .val (.int p3), .val (.int p4), .val (.int (2 : Int32)), .val (.int c0), .val (.int c1), .val (.int c2), .val (.ref b140), .unset, .unset, .unset, .unset, .unset, .unset, .unset, .unset, .unset] [])
    refine own_st (fun t k => XS.iload X146.here hx rfl (hb hby at_46) rfl k) ?_
    refine own_st (fun t k => XS.iconst X146.here hx rfl (hb hby at_48) k) ?_
    refine own_st (fun t k => XS.icmpYes X146.here hx rfl (pc0 := 49) (pc' := 58) rfl (hb hby at_49) rfl (flt (by decide : ¬ ((2 : Int32) < (2 : Int32)))).2.2.2 (by decide) (by decide) k) ?_
    show own_Go _ _ _ _ T146 (mkF m 58 #[.val (.int p0), .val (.int p1), .val (.int p2), .val (.int p3), .val (.int p4), .val (.int (2 : Int32)), .val (.int c0), .val (.int c1), .val (.int c2), .val (.ref b140), .unset, .unset, .unset, .unset, .unset, .unset, .unset, .unset, .unset] [])
    refine own_st (fun t k => XS.sipush X146.here hx rfl (hb hby at_58) k) ?_
    show own_Go _ _ _ _ T146 (mkF m 61 #[.val (.int p0), .val (.int p1), .val (.int p2), .val (.int p3), .val (.int p4), .val (.int (2 : Int32)), .val (.int c0), .val (.int c1), .val (.int c2), .val (.ref b140), .unset, .unset, .unset, .unset, .unset, .unset, .unset, .unset, .unset] [(.int (256 : Int32))])
    have K0_147 := (K0_144.wr W146 (Or.inr sz_b140))
    obtain ⟨T148, h148, k148, X148, e148, E148, A148, st148⟩ := newP X146 hx hZ (hw _ (List.mem_of_getElem? (i := 1) rfl)) e146 (g := (mkF m 61 #[.val (.int p0), .val (.int p1), .val (.int p2), .val (.int p3), .val (.int p4), .val (.int (2 : Int32)), .val (.int c0), .val (.int c1), .val (.int c2), .val (.ref b140), .unset, .unset, .unset, .unset, .unset, .unset, .unset, .unset, .unset] [(.int (256 : Int32))])) rfl (hb hby at_61) rfl (by decide) (cap := 256) (by decide) (by decide) (by decide) (by decide)
    obtain ⟨b148, g148⟩ : ∃ z, z = h146.size := ⟨_, rfl⟩
    rw [← g148] at A148 st148
    have sz_b148 : h0.size ≤ b148 := Nat.le_trans K0_147.1 (Nat.le_of_eq g148.symm)
    have g_b148 : n0 ≤ b148 := Nat.le_trans Z0 sz_b148
    have Arh_149 := (((A_H.ext E140).other W143 ne_ra_b140).other W146 ne_ra_b140)
    have ne_ra_b148 : ra ≠ b148 := Nat.ne_of_lt (Nat.lt_of_lt_of_le Arh_149.lt (Nat.le_of_eq g148.symm))
    have ne_b140_b148 : b140 ≠ b148 := Nat.ne_of_lt (Nat.lt_of_lt_of_le V146.lt (Nat.le_of_eq g148.symm))
    have B148 := own_B_new A148
    refine own_st st148 ?_
    show own_Go _ _ _ _ T148 (mkF m 63 #[.val (.int p0), .val (.int p1), .val (.int p2), .val (.int p3), .val (.int p4), .val (.int (2 : Int32)), .val (.int c0), .val (.int c1), .val (.int c2), .val (.ref b140), .unset, .unset, .unset, .unset, .unset, .unset, .unset, .unset, .unset] [(.ref b148)])
    refine own_st (fun t k => XS.astore X148.here hx rfl (hb hby at_63) rfl rfl (l' := #[.val (.int p0), .val (.int p1), .val (.int p2), .val (.int p3), .val (.int p4), .val (.int (2 : Int32)), .val (.int c0), .val (.int c1), .val (.int c2), .val (.ref b140), .val (.ref b148), .unset, .unset, .unset, .unset, .unset, .unset, .unset, .unset]) rfl k) ?_
    show own_Go _ _ _ _ T148 (mkF m 65 #[.val (.int p0), .val (.int p1), .val (.int p2), .val (.int p3), .val (.int p4), .val (.int (2 : Int32)), .val (.int c0), .val (.int c1), .val (.int c2), .val (.ref b140), .val (.ref b148), .unset, .unset, .unset, .unset, .unset, .unset, .unset, .unset] [])
    refine own_st (fun t k => XS.aload X148.here hx rfl (hb hby at_65) rfl rfl k) ?_
    refine own_st (fun t k => XS.iload X148.here hx rfl (hb hby at_67) rfl k) ?_
    refine own_st (fun t k => XS.iconst X148.here hx rfl (hb hby at_69) k) ?_
    refine own_st (fun t k => XS.iadd X148.here hx rfl (hb hby at_70) rfl k) ?_
    show own_Go _ _ _ _ T148 (mkF m 71 #[.val (.int p0), .val (.int p1), .val (.int p2), .val (.int p3), .val (.int p4), .val (.int (2 : Int32)), .val (.int c0), .val (.int c1), .val (.int c2), .val (.ref b140), .val (.ref b148), .unset, .unset, .unset, .unset, .unset, .unset, .unset, .unset] [(.int (c0 + (1 : Int32))), (.ref b148)])
    refine own_st (fun t k => XS.sipush X148.here hx rfl (hb hby at_71) k) ?_
    refine own_st (fun t k => XS.iand X148.here hx rfl (hb hby at_74) rfl k) ?_
    show own_Go _ _ _ _ T148 (mkF m 75 #[.val (.int p0), .val (.int p1), .val (.int p2), .val (.int p3), .val (.int p4), .val (.int (2 : Int32)), .val (.int c0), .val (.int c1), .val (.int c2), .val (.ref b140), .val (.ref b148), .unset, .unset, .unset, .unset, .unset, .unset, .unset, .unset] [(.int ((c0 + (1 : Int32)) &&& (255 : Int32))), (.ref b148)])
    refine own_st (fun t k => XS.iload X148.here hx rfl (hb hby at_75) rfl k) ?_
    refine own_st (fun t k => XS.bipush X148.here hx rfl (hb hby at_77) k) ?_
    refine own_st (fun t k => XS.iand X148.here hx rfl (hb hby at_79) rfl k) ?_
    show own_Go _ _ _ _ T148 (mkF m 80 #[.val (.int p0), .val (.int p1), .val (.int p2), .val (.int p3), .val (.int p4), .val (.int (2 : Int32)), .val (.int c0), .val (.int c1), .val (.int c2), .val (.ref b140), .val (.ref b148), .unset, .unset, .unset, .unset, .unset, .unset, .unset, .unset] [(.int (p4 &&& (8 : Int32))), (.int ((c0 + (1 : Int32)) &&& (255 : Int32))), (.ref b148)])
    suffices hj150 : own_Go p.tables e below (own_Fin below s (Q0 Z p0 p1 p2 p3 p4 ra ch h0 n0) 4 277) T148 (mkF m 88 #[.val (.int p0), .val (.int p1), .val (.int p2), .val (.int p3), .val (.int p4), .val (.int (2 : Int32)), .val (.int c0), .val (.int c1), .val (.int c2), .val (.ref b140), .val (.ref b148), .unset, .unset, .unset, .unset, .unset, .unset, .unset, .unset] [(.int (if (p4 &&& (8 : Int32)) = (0 : Int32) then (0 : Int32) else (1 : Int32))), (.int ((c0 + (1 : Int32)) &&& (255 : Int32))), (.ref b148)]) by
      by_cases c80_150 : (p4 &&& (8 : Int32)) = (0 : Int32)
      · rw [if_pos c80_150] at hj150
        refine own_st (fun t k => XS.ifYes X148.here hx rfl (pc0 := 80) (pc' := 87) rfl (hb hby at_80) rfl ((if0 _ _).trans (teq c80_150).1) (by decide) (by decide) k) ?_
        show own_Go _ _ _ _ T148 (mkF m 87 #[.val (.int p0), .val (.int p1), .val (.int p2), .val (.int p3), .val (.int p4), .val (.int (2 : Int32)), .val (.int c0), .val (.int c1), .val (.int c2), .val (.ref b140), .val (.ref b148), .unset, .unset, .unset, .unset, .unset, .unset, .unset, .unset] [(.int ((c0 + (1 : Int32)) &&& (255 : Int32))), (.ref b148)])
        refine own_st (fun t k => XS.iconst X148.here hx rfl (hb hby at_87) k) ?_
        show own_Go _ _ _ _ T148 (mkF m 88 #[.val (.int p0), .val (.int p1), .val (.int p2), .val (.int p3), .val (.int p4), .val (.int (2 : Int32)), .val (.int c0), .val (.int c1), .val (.int c2), .val (.ref b140), .val (.ref b148), .unset, .unset, .unset, .unset, .unset, .unset, .unset, .unset] [(.int (0 : Int32)), (.int ((c0 + (1 : Int32)) &&& (255 : Int32))), (.ref b148)])
        exact hj150
      · rw [if_neg c80_150] at hj150
        refine own_st (fun t k => XS.ifNo X148.here hx rfl (hb hby at_80) rfl ((if0 _ _).trans (feq c80_150).1) k) ?_
        show own_Go _ _ _ _ T148 (mkF m 83 #[.val (.int p0), .val (.int p1), .val (.int p2), .val (.int p3), .val (.int p4), .val (.int (2 : Int32)), .val (.int c0), .val (.int c1), .val (.int c2), .val (.ref b140), .val (.ref b148), .unset, .unset, .unset, .unset, .unset, .unset, .unset, .unset] [(.int ((c0 + (1 : Int32)) &&& (255 : Int32))), (.ref b148)])
        refine own_st (fun t k => XS.iconst X148.here hx rfl (hb hby at_83) k) ?_
        show own_Go _ _ _ _ T148 (mkF m 84 #[.val (.int p0), .val (.int p1), .val (.int p2), .val (.int p3), .val (.int p4), .val (.int (2 : Int32)), .val (.int c0), .val (.int c1), .val (.int c2), .val (.ref b140), .val (.ref b148), .unset, .unset, .unset, .unset, .unset, .unset, .unset, .unset] [(.int (1 : Int32)), (.int ((c0 + (1 : Int32)) &&& (255 : Int32))), (.ref b148)])
        refine own_st (fun t k => XS.goto X148.here hx rfl (pc0 := 84) (pc' := 88) rfl (hb hby at_84) (by decide) (by decide) k) ?_
        show own_Go _ _ _ _ T148 (mkF m 88 #[.val (.int p0), .val (.int p1), .val (.int p2), .val (.int p3), .val (.int p4), .val (.int (2 : Int32)), .val (.int c0), .val (.int c1), .val (.int c2), .val (.ref b140), .val (.ref b148), .unset, .unset, .unset, .unset, .unset, .unset, .unset, .unset] [(.int (1 : Int32)), (.int ((c0 + (1 : Int32)) &&& (255 : Int32))), (.ref b148)])
        exact hj150
    show own_Go _ _ _ _ T148 (mkF m 88 #[.val (.int p0), .val (.int p1), .val (.int p2), .val (.int p3), .val (.int p4), .val (.int (2 : Int32)), .val (.int c0), .val (.int c1), .val (.int c2), .val (.ref b140), .val (.ref b148), .unset, .unset, .unset, .unset, .unset, .unset, .unset, .unset] [(.int (if (p4 &&& (8 : Int32)) = (0 : Int32) then (0 : Int32) else (1 : Int32))), (.int ((c0 + (1 : Int32)) &&& (255 : Int32))), (.ref b148)])
    have K0_151 := (K0_147.ext E148)
    obtain ⟨cl152, Ar152, Sz152, al152⟩ := B148
    have hin152 : ¬ (((c0 + (1 : Int32)) &&& (255 : Int32)) < 0 ∨ cl152.slots.size ≤ (((c0 + (1 : Int32)) &&& (255 : Int32))).toNatClampNeg) := inb_of Sz152 (own_b255 _)
    obtain ⟨T153, h153, X153, e153, W153, st153⟩ := stZ X148 hx hZ e148 Ar152 (j := ((c0 + (1 : Int32)) &&& (255 : Int32))) hin152 (g := (mkF m 88 #[.val (.int p0), .val (.int p1), .val (.int p2), .val (.int p3), .val (.int p4), .val (.int (2 : Int32)), .val (.int c0), .val (.int c1), .val (.int c2), .val (.ref b140), .val (.ref b148), .unset, .unset, .unset, .unset, .unset, .unset, .unset, .unset] [(.int (if (p4 &&& (8 : Int32)) = (0 : Int32) then (0 : Int32) else (1 : Int32))), (.int ((c0 + (1 : Int32)) &&& (255 : Int32))), (.ref b148)])) rfl rfl (hb hby at_88)
    have B153 := own_B_set Ar152 Sz152 al152 W153
    obtain ⟨_, X153, N153⟩ := own_hide X153 (Fr.snoc X153 N146 g_b148)
    refine own_st st153 ?_
    show own_Go _ _ _ _ T153 (mkF m 89 #[.val (.int p0), .val (.int p1), .val (.int p2), .val (.int p3), .val (.int p4), .val (.int (2 : Int32)), .val (.int c0), .val (.int c1), .val (.int c2), .val (.ref b140), .val (.ref b148), .unset, .unset, .unset, .unset, .unset, .unset, .unset, .unset] [])
    refine own_st (fun t k => XS.aload X153.here hx rfl (hb hby at_89) rfl rfl k) ?_
    refine own_st (fun t k => XS.iload X153.here hx rfl (hb hby at_91) rfl k) ?_
    refine own_st (fun t k => XS.sipush X153.here hx rfl (hb hby at_93) k) ?_
    refine own_st (fun t k => XS.iand X153.here hx rfl (hb hby at_96) rfl k) ?_
    show own_Go _ _ _ _ T153 (mkF m 97 #[.val (.int p0), .val (.int p1), .val (.int p2), .val (.int p3), .val (.int p4), .val (.int (2 : Int32)), .val (.int c0), .val (.int c1), .val (.int c2), .val (.ref b140), .val (.ref b148), .unset, .unset, .unset, .unset, .unset, .unset, .unset, .unset] [(.int (c0 &&& (255 : Int32))), (.ref b148)])
    refine own_st (fun t k => XS.iload X153.here hx rfl (hb hby at_97) rfl k) ?_
    refine own_st (fun t k => XS.iconst X153.here hx rfl (hb hby at_99) k) ?_
    refine own_st (fun t k => XS.iand X153.here hx rfl (hb hby at_100) rfl k) ?_
    show own_Go _ _ _ _ T153 (mkF m 101 #[.val (.int p0), .val (.int p1), .val (.int p2), .val (.int p3), .val (.int p4), .val (.int (2 : Int32)), .val (.int c0), .val (.int c1), .val (.int c2), .val (.ref b140), .val (.ref b148), .unset, .unset, .unset, .unset, .unset, .unset, .unset, .unset] [(.int (p4 &&& (1 : Int32))), (.int (c0 &&& (255 : Int32))), (.ref b148)])
    suffices hj154 : own_Go p.tables e below (own_Fin below s (Q0 Z p0 p1 p2 p3 p4 ra ch h0 n0) 4 277) T153 (mkF m 109 #[.val (.int p0), .val (.int p1), .val (.int p2), .val (.int p3), .val (.int p4), .val (.int (2 : Int32)), .val (.int c0), .val (.int c1), .val (.int c2), .val (.ref b140), .val (.ref b148), .unset, .unset, .unset, .unset, .unset, .unset, .unset, .unset] [(.int (if (p4 &&& (1 : Int32)) = (0 : Int32) then (0 : Int32) else (1 : Int32))), (.int (c0 &&& (255 : Int32))), (.ref b148)]) by
      by_cases c101_154 : (p4 &&& (1 : Int32)) = (0 : Int32)
      · rw [if_pos c101_154] at hj154
        refine own_st (fun t k => XS.ifYes X153.here hx rfl (pc0 := 101) (pc' := 108) rfl (hb hby at_101) rfl ((if0 _ _).trans (teq c101_154).1) (by decide) (by decide) k) ?_
        show own_Go _ _ _ _ T153 (mkF m 108 #[.val (.int p0), .val (.int p1), .val (.int p2), .val (.int p3), .val (.int p4), .val (.int (2 : Int32)), .val (.int c0), .val (.int c1), .val (.int c2), .val (.ref b140), .val (.ref b148), .unset, .unset, .unset, .unset, .unset, .unset, .unset, .unset] [(.int (c0 &&& (255 : Int32))), (.ref b148)])
        refine own_st (fun t k => XS.iconst X153.here hx rfl (hb hby at_108) k) ?_
        show own_Go _ _ _ _ T153 (mkF m 109 #[.val (.int p0), .val (.int p1), .val (.int p2), .val (.int p3), .val (.int p4), .val (.int (2 : Int32)), .val (.int c0), .val (.int c1), .val (.int c2), .val (.ref b140), .val (.ref b148), .unset, .unset, .unset, .unset, .unset, .unset, .unset, .unset] [(.int (0 : Int32)), (.int (c0 &&& (255 : Int32))), (.ref b148)])
        exact hj154
      · rw [if_neg c101_154] at hj154
        refine own_st (fun t k => XS.ifNo X153.here hx rfl (hb hby at_101) rfl ((if0 _ _).trans (feq c101_154).1) k) ?_
        show own_Go _ _ _ _ T153 (mkF m 104 #[.val (.int p0), .val (.int p1), .val (.int p2), .val (.int p3), .val (.int p4), .val (.int (2 : Int32)), .val (.int c0), .val (.int c1), .val (.int c2), .val (.ref b140), .val (.ref b148), .unset, .unset, .unset, .unset, .unset, .unset, .unset, .unset] [(.int (c0 &&& (255 : Int32))), (.ref b148)])
        refine own_st (fun t k => XS.iconst X153.here hx rfl (hb hby at_104) k) ?_
        show own_Go _ _ _ _ T153 (mkF m 105 #[.val (.int p0), .val (.int p1), .val (.int p2), .val (.int p3), .val (.int p4), .val (.int (2 : Int32)), .val (.int c0), .val (.int c1), .val (.int c2), .val (.ref b140), .val (.ref b148), .unset, .unset, .unset, .unset, .unset, .unset, .unset, .unset] [(.int (1 : Int32)), (.int (c0 &&& (255 : Int32))), (.ref b148)])
        refine own_st (fun t k => XS.goto X153.here hx rfl (pc0 := 105) (pc' := 109) rfl (hb hby at_105) (by decide) (by decide) k) ?_
        show own_Go _ _ _ _ T153 (mkF m 109 #[.val (.int p0), .val (.int p1), .val (.int p2), .val (.int p3), .val (.int p4), .val (.int (2 : Int32)), .val (.int c0), .val (.int c1), .val (.int c2), .val (.ref b140), .val (.ref b148), .unset, .unset, .unset, .unset, .unset, .unset, .unset, .unset] [(.int (1 : Int32)), (.int (c0 &&& (255 : Int32))), (.ref b148)])
        exact hj154
    show own_Go _ _ _ _ T153 (mkF m 109 #[.val (.int p0), .val (.int p1), .val (.int p2), .val (.int p3), .val (.int p4), .val (.int (2 : Int32)), .val (.int c0), .val (.int c1), .val (.int c2), .val (.ref b140), .val (.ref b148), .unset, .unset, .unset, .unset, .unset, .unset, .unset, .unset] [(.int (if (p4 &&& (1 : Int32)) = (0 : Int32) then (0 : Int32) else (1 : Int32))), (.int (c0 &&& (255 : Int32))), (.ref b148)])
    have K0_155 := (K0_151.wr W153 (Or.inr sz_b148))
    obtain ⟨cl156, Ar156, Sz156, al156⟩ := B153
    have hin156 : ¬ ((c0 &&& (255 : Int32)) < 0 ∨ cl156.slots.size ≤ ((c0 &&& (255 : Int32))).toNatClampNeg) := inb_of Sz156 (own_b255 _)
    obtain ⟨T157, h157, X157, e157, W157, st157⟩ := stZ X153 hx hZ e153 Ar156 (j := (c0 &&& (255 : Int32))) hin156 (g := (mkF m 109 #[.val (.int p0), .val (.int p1), .val (.int p2), .val (.int p3), .val (.int p4), .val (.int (2 : Int32)), .val (.int c0), .val (.int c1), .val (.int c2), .val (.ref b140), .val (.ref b148), .unset, .unset, .unset, .unset, .unset, .unset, .unset, .unset] [(.int (if (p4 &&& (1 : Int32)) = (0 : Int32) then (0 : Int32) else (1 : Int32))), (.int (c0 &&& (255 : Int32))), (.ref b148)])) rfl rfl (hb hby at_109)
    have B157 := own_B_set Ar156 Sz156 al156 W157
    obtain ⟨_, X157, N157⟩ := own_hide X157 (Fr.snoc X157 N153 g_b148)
    refine own_st st157 ?_
    show own_Go _ _ _ _ T157 (mkF m 110 #[.val (.int p0), .val (.int p1), .val (.int p2), .val (.int p3), .val (.int p4), .val (.int (2 : Int32)), .val (.int c0), .val (.int c1), .val (.int c2), .val (.ref b140), .val (.ref b148), .unset, .unset, .unset, .unset, .unset, .unset, .unset, .unset] [])
    refine own_st (fun t k => XS.aload X157.here hx rfl (hb hby at_110) rfl rfl k) ?_
    refine own_st (fun t k => XS.iload X157.here hx rfl (hb hby at_112) rfl k) ?_
    refine own_st (fun t k => XS.sipush X157.here hx rfl (hb hby at_114) k) ?_
    refine own_st (fun t k => XS.iand X157.here hx rfl (hb hby at_117) rfl k) ?_
    show own_Go _ _ _ _ T157 (mkF m 118 #[.val (.int p0), .val (.int p1), .val (.int p2), .val (.int p3), .val (.int p4), .val (.int (2 : Int32)), .val (.int c0), .val (.int c1), .val (.int c2), .val (.ref b140), .val (.ref b148), .unset, .unset, .unset, .unset, .unset, .unset, .unset, .unset] [(.int (c1 &&& (255 : Int32))), (.ref b148)])
    refine own_st (fun t k => XS.iload X157.here hx rfl (hb hby at_118) rfl k) ?_
    refine own_st (fun t k => XS.iconst X157.here hx rfl (hb hby at_120) k) ?_
    refine own_st (fun t k => XS.iand X157.here hx rfl (hb hby at_121) rfl k) ?_
    show own_Go _ _ _ _ T157 (mkF m 122 #[.val (.int p0), .val (.int p1), .val (.int p2), .val (.int p3), .val (.int p4), .val (.int (2 : Int32)), .val (.int c0), .val (.int c1), .val (.int c2), .val (.ref b140), .val (.ref b148), .unset, .unset, .unset, .unset, .unset, .unset, .unset, .unset] [(.int (p4 &&& (2 : Int32))), (.int (c1 &&& (255 : Int32))), (.ref b148)])
    suffices hj158 : own_Go p.tables e below (own_Fin below s (Q0 Z p0 p1 p2 p3 p4 ra ch h0 n0) 4 277) T157 (mkF m 130 #[.val (.int p0), .val (.int p1), .val (.int p2), .val (.int p3), .val (.int p4), .val (.int (2 : Int32)), .val (.int c0), .val (.int c1), .val (.int c2), .val (.ref b140), .val (.ref b148), .unset, .unset, .unset, .unset, .unset, .unset, .unset, .unset] [(.int (if (p4 &&& (2 : Int32)) = (0 : Int32) then (0 : Int32) else (1 : Int32))), (.int (c1 &&& (255 : Int32))), (.ref b148)]) by
      by_cases c122_158 : (p4 &&& (2 : Int32)) = (0 : Int32)
      · rw [if_pos c122_158] at hj158
        refine own_st (fun t k => XS.ifYes X157.here hx rfl (pc0 := 122) (pc' := 129) rfl (hb hby at_122) rfl ((if0 _ _).trans (teq c122_158).1) (by decide) (by decide) k) ?_
        show own_Go _ _ _ _ T157 (mkF m 129 #[.val (.int p0), .val (.int p1), .val (.int p2), .val (.int p3), .val (.int p4), .val (.int (2 : Int32)), .val (.int c0), .val (.int c1), .val (.int c2), .val (.ref b140), .val (.ref b148), .unset, .unset, .unset, .unset, .unset, .unset, .unset, .unset] [(.int (c1 &&& (255 : Int32))), (.ref b148)])
        refine own_st (fun t k => XS.iconst X157.here hx rfl (hb hby at_129) k) ?_
        show own_Go _ _ _ _ T157 (mkF m 130 #[.val (.int p0), .val (.int p1), .val (.int p2), .val (.int p3), .val (.int p4), .val (.int (2 : Int32)), .val (.int c0), .val (.int c1), .val (.int c2), .val (.ref b140), .val (.ref b148), .unset, .unset, .unset, .unset, .unset, .unset, .unset, .unset] [(.int (0 : Int32)), (.int (c1 &&& (255 : Int32))), (.ref b148)])
        exact hj158
      · rw [if_neg c122_158] at hj158
        refine own_st (fun t k => XS.ifNo X157.here hx rfl (hb hby at_122) rfl ((if0 _ _).trans (feq c122_158).1) k) ?_
        show own_Go _ _ _ _ T157 (mkF m 125 #[.val (.int p0), .val (.int p1), .val (.int p2), .val (.int p3), .val (.int p4), .val (.int (2 : Int32)), .val (.int c0), .val (.int c1), .val (.int c2), .val (.ref b140), .val (.ref b148), .unset, .unset, .unset, .unset, .unset, .unset, .unset, .unset] [(.int (c1 &&& (255 : Int32))), (.ref b148)])
        refine own_st (fun t k => XS.iconst X157.here hx rfl (hb hby at_125) k) ?_
        show own_Go _ _ _ _ T157 (mkF m 126 #[.val (.int p0), .val (.int p1), .val (.int p2), .val (.int p3), .val (.int p4), .val (.int (2 : Int32)), .val (.int c0), .val (.int c1), .val (.int c2), .val (.ref b140), .val (.ref b148), .unset, .unset, .unset, .unset, .unset, .unset, .unset, .unset] [(.int (1 : Int32)), (.int (c1 &&& (255 : Int32))), (.ref b148)])
        refine own_st (fun t k => XS.goto X157.here hx rfl (pc0 := 126) (pc' := 130) rfl (hb hby at_126) (by decide) (by decide) k) ?_
        show own_Go _ _ _ _ T157 (mkF m 130 #[.val (.int p0), .val (.int p1), .val (.int p2), .val (.int p3), .val (.int p4), .val (.int (2 : Int32)), .val (.int c0), .val (.int c1), .val (.int c2), .val (.ref b140), .val (.ref b148), .unset, .unset, .unset, .unset, .unset, .unset, .unset, .unset] [(.int (1 : Int32)), (.int (c1 &&& (255 : Int32))), (.ref b148)])
        exact hj158
    show own_Go _ _ _ _ T157 (mkF m 130 #[.val (.int p0), .val (.int p1), .val (.int p2), .val (.int p3), .val (.int p4), .val (.int (2 : Int32)), .val (.int c0), .val (.int c1), .val (.int c2), .val (.ref b140), .val (.ref b148), .unset, .unset, .unset, .unset, .unset, .unset, .unset, .unset] [(.int (if (p4 &&& (2 : Int32)) = (0 : Int32) then (0 : Int32) else (1 : Int32))), (.int (c1 &&& (255 : Int32))), (.ref b148)])
    have K0_159 := (K0_155.wr W157 (Or.inr sz_b148))
    obtain ⟨cl160, Ar160, Sz160, al160⟩ := B157
    have hin160 : ¬ ((c1 &&& (255 : Int32)) < 0 ∨ cl160.slots.size ≤ ((c1 &&& (255 : Int32))).toNatClampNeg) := inb_of Sz160 (own_b255 _)
    obtain ⟨T161, h161, X161, e161, W161, st161⟩ := stZ X157 hx hZ e157 Ar160 (j := (c1 &&& (255 : Int32))) hin160 (g := (mkF m 130 #[.val (.int p0), .val (.int p1), .val (.int p2), .val (.int p3), .val (.int p4), .val (.int (2 : Int32)), .val (.int c0), .val (.int c1), .val (.int c2), .val (.ref b140), .val (.ref b148), .unset, .unset, .unset, .unset, .unset, .unset, .unset, .unset] [(.int (if (p4 &&& (2 : Int32)) = (0 : Int32) then (0 : Int32) else (1 : Int32))), (.int (c1 &&& (255 : Int32))), (.ref b148)])) rfl rfl (hb hby at_130)
    have B161 := own_B_set Ar160 Sz160 al160 W161
    obtain ⟨_, X161, N161⟩ := own_hide X161 (Fr.snoc X161 N157 g_b148)
    refine own_st st161 ?_
    show own_Go _ _ _ _ T161 (mkF m 131 #[.val (.int p0), .val (.int p1), .val (.int p2), .val (.int p3), .val (.int p4), .val (.int (2 : Int32)), .val (.int c0), .val (.int c1), .val (.int c2), .val (.ref b140), .val (.ref b148), .unset, .unset, .unset, .unset, .unset, .unset, .unset, .unset] [])
    refine own_st (fun t k => XS.aload X161.here hx rfl (hb hby at_131) rfl rfl k) ?_
    refine own_st (fun t k => XS.iload X161.here hx rfl (hb hby at_133) rfl k) ?_
    refine own_st (fun t k => XS.sipush X161.here hx rfl (hb hby at_135) k) ?_
    refine own_st (fun t k => XS.iand X161.here hx rfl (hb hby at_138) rfl k) ?_
    show own_Go _ _ _ _ T161 (mkF m 139 #[.val (.int p0), .val (.int p1), .val (.int p2), .val (.int p3), .val (.int p4), .val (.int (2 : Int32)), .val (.int c0), .val (.int c1), .val (.int c2), .val (.ref b140), .val (.ref b148), .unset, .unset, .unset, .unset, .unset, .unset, .unset, .unset] [(.int (c2 &&& (255 : Int32))), (.ref b148)])
    refine own_st (fun t k => XS.iload X161.here hx rfl (hb hby at_139) rfl k) ?_
    refine own_st (fun t k => XS.iconst X161.here hx rfl (hb hby at_141) k) ?_
    refine own_st (fun t k => XS.iand X161.here hx rfl (hb hby at_142) rfl k) ?_
    show own_Go _ _ _ _ T161 (mkF m 143 #[.val (.int p0), .val (.int p1), .val (.int p2), .val (.int p3), .val (.int p4), .val (.int (2 : Int32)), .val (.int c0), .val (.int c1), .val (.int c2), .val (.ref b140), .val (.ref b148), .unset, .unset, .unset, .unset, .unset, .unset, .unset, .unset] [(.int (p4 &&& (4 : Int32))), (.int (c2 &&& (255 : Int32))), (.ref b148)])
    suffices hj162 : own_Go p.tables e below (own_Fin below s (Q0 Z p0 p1 p2 p3 p4 ra ch h0 n0) 4 277) T161 (mkF m 151 #[.val (.int p0), .val (.int p1), .val (.int p2), .val (.int p3), .val (.int p4), .val (.int (2 : Int32)), .val (.int c0), .val (.int c1), .val (.int c2), .val (.ref b140), .val (.ref b148), .unset, .unset, .unset, .unset, .unset, .unset, .unset, .unset] [(.int (if (p4 &&& (4 : Int32)) = (0 : Int32) then (0 : Int32) else (1 : Int32))), (.int (c2 &&& (255 : Int32))), (.ref b148)]) by
      by_cases c143_162 : (p4 &&& (4 : Int32)) = (0 : Int32)
      · rw [if_pos c143_162] at hj162
        refine own_st (fun t k => XS.ifYes X161.here hx rfl (pc0 := 143) (pc' := 150) rfl (hb hby at_143) rfl ((if0 _ _).trans (teq c143_162).1) (by decide) (by decide) k) ?_
        show own_Go _ _ _ _ T161 (mkF m 150 #[.val (.int p0), .val (.int p1), .val (.int p2), .val (.int p3), .val (.int p4), .val (.int (2 : Int32)), .val (.int c0), .val (.int c1), .val (.int c2), .val (.ref b140), .val (.ref b148), .unset, .unset, .unset, .unset, .unset, .unset, .unset, .unset] [(.int (c2 &&& (255 : Int32))), (.ref b148)])
        refine own_st (fun t k => XS.iconst X161.here hx rfl (hb hby at_150) k) ?_
        show own_Go _ _ _ _ T161 (mkF m 151 #[.val (.int p0), .val (.int p1), .val (.int p2), .val (.int p3), .val (.int p4), .val (.int (2 : Int32)), .val (.int c0), .val (.int c1), .val (.int c2), .val (.ref b140), .val (.ref b148), .unset, .unset, .unset, .unset, .unset, .unset, .unset, .unset] [(.int (0 : Int32)), (.int (c2 &&& (255 : Int32))), (.ref b148)])
        exact hj162
      · rw [if_neg c143_162] at hj162
        refine own_st (fun t k => XS.ifNo X161.here hx rfl (hb hby at_143) rfl ((if0 _ _).trans (feq c143_162).1) k) ?_
        show own_Go _ _ _ _ T161 (mkF m 146 #[.val (.int p0), .val (.int p1), .val (.int p2), .val (.int p3), .val (.int p4), .val (.int (2 : Int32)), .val (.int c0), .val (.int c1), .val (.int c2), .val (.ref b140), .val (.ref b148), .unset, .unset, .unset, .unset, .unset, .unset, .unset, .unset] [(.int (c2 &&& (255 : Int32))), (.ref b148)])
        refine own_st (fun t k => XS.iconst X161.here hx rfl (hb hby at_146) k) ?_
        show own_Go _ _ _ _ T161 (mkF m 147 #[.val (.int p0), .val (.int p1), .val (.int p2), .val (.int p3), .val (.int p4), .val (.int (2 : Int32)), .val (.int c0), .val (.int c1), .val (.int c2), .val (.ref b140), .val (.ref b148), .unset, .unset, .unset, .unset, .unset, .unset, .unset, .unset] [(.int (1 : Int32)), (.int (c2 &&& (255 : Int32))), (.ref b148)])
        refine own_st (fun t k => XS.goto X161.here hx rfl (pc0 := 147) (pc' := 151) rfl (hb hby at_147) (by decide) (by decide) k) ?_
        show own_Go _ _ _ _ T161 (mkF m 151 #[.val (.int p0), .val (.int p1), .val (.int p2), .val (.int p3), .val (.int p4), .val (.int (2 : Int32)), .val (.int c0), .val (.int c1), .val (.int c2), .val (.ref b140), .val (.ref b148), .unset, .unset, .unset, .unset, .unset, .unset, .unset, .unset] [(.int (1 : Int32)), (.int (c2 &&& (255 : Int32))), (.ref b148)])
        exact hj162
    show own_Go _ _ _ _ T161 (mkF m 151 #[.val (.int p0), .val (.int p1), .val (.int p2), .val (.int p3), .val (.int p4), .val (.int (2 : Int32)), .val (.int c0), .val (.int c1), .val (.int c2), .val (.ref b140), .val (.ref b148), .unset, .unset, .unset, .unset, .unset, .unset, .unset, .unset] [(.int (if (p4 &&& (4 : Int32)) = (0 : Int32) then (0 : Int32) else (1 : Int32))), (.int (c2 &&& (255 : Int32))), (.ref b148)])
    have K0_163 := (K0_159.wr W161 (Or.inr sz_b148))
    obtain ⟨cl164, Ar164, Sz164, al164⟩ := B161
    have hin164 : ¬ ((c2 &&& (255 : Int32)) < 0 ∨ cl164.slots.size ≤ ((c2 &&& (255 : Int32))).toNatClampNeg) := inb_of Sz164 (own_b255 _)
    obtain ⟨T165, h165, X165, e165, W165, st165⟩ := stZ X161 hx hZ e161 Ar164 (j := (c2 &&& (255 : Int32))) hin164 (g := (mkF m 151 #[.val (.int p0), .val (.int p1), .val (.int p2), .val (.int p3), .val (.int p4), .val (.int (2 : Int32)), .val (.int c0), .val (.int c1), .val (.int c2), .val (.ref b140), .val (.ref b148), .unset, .unset, .unset, .unset, .unset, .unset, .unset, .unset] [(.int (if (p4 &&& (4 : Int32)) = (0 : Int32) then (0 : Int32) else (1 : Int32))), (.int (c2 &&& (255 : Int32))), (.ref b148)])) rfl rfl (hb hby at_151)
    have B165 := own_B_set Ar164 Sz164 al164 W165
    obtain ⟨_, X165, N165⟩ := own_hide X165 (Fr.snoc X165 N161 g_b148)
    refine own_st st165 ?_
    show own_Go _ _ _ _ T165 (mkF m 152 #[.val (.int p0), .val (.int p1), .val (.int p2), .val (.int p3), .val (.int p4), .val (.int (2 : Int32)), .val (.int c0), .val (.int c1), .val (.int c2), .val (.ref b140), .val (.ref b148), .unset, .unset, .unset, .unset, .unset, .unset, .unset, .unset] [])
    obtain ⟨ck, Tk⟩ := own_B_tab B165
    refine own_st (fun t k => XS.aload X165.here hx rfl (hb hby at_152) rfl rfl k) ?_
    refine own_st (fun t k => XS.iload X165.here hx rfl (hb hby at_154) rfl k) ?_
    refine own_st (fun t k => XS.sipush X165.here hx rfl (hb hby at_156) k) ?_
    refine own_st (fun t k => XS.iand X165.here hx rfl (hb hby at_159) rfl k) ?_
    show own_Go _ _ _ _ T165 (mkF m 160 #[.val (.int p0), .val (.int p1), .val (.int p2), .val (.int p3), .val (.int p4), .val (.int (2 : Int32)), .val (.int c0), .val (.int c1), .val (.int c2), .val (.ref b140), .val (.ref b148), .unset, .unset, .unset, .unset, .unset, .unset, .unset, .unset] [(.int (c0 &&& (255 : Int32))), (.ref b148)])
    have hin166 : ¬ ((c0 &&& (255 : Int32)) < 0 ∨ ck.slots.size ≤ ((c0 &&& (255 : Int32))).toNatClampNeg) := inb_of Tk.2.1 (own_b255 _)
    have hat166 : ck.slots[((c0 &&& (255 : Int32))).toNatClampNeg]? = some (.int (own_kf ck c0)) := Tk.2.2.2 _ hin166
    refine own_st (X165.baloadBooleans hx (j := (c0 &&& (255 : Int32))) (v := (.int (own_kf ck c0))) (by rw [e165]; exact Tk.1.1) (State.isArrayOf_alike hZ.alike Tk.1.2.1) Tk.1.2.2 hin166 hat166 (g := (mkF m 160 #[.val (.int p0), .val (.int p1), .val (.int p2), .val (.int p3), .val (.int p4), .val (.int (2 : Int32)), .val (.int c0), .val (.int c1), .val (.int c2), .val (.ref b140), .val (.ref b148), .unset, .unset, .unset, .unset, .unset, .unset, .unset, .unset] [(.int (c0 &&& (255 : Int32))), (.ref b148)])) rfl rfl (hb hby at_160)) ?_
    show own_Go _ _ _ _ T165 (mkF m 161 #[.val (.int p0), .val (.int p1), .val (.int p2), .val (.int p3), .val (.int p4), .val (.int (2 : Int32)), .val (.int c0), .val (.int c1), .val (.int c2), .val (.ref b140), .val (.ref b148), .unset, .unset, .unset, .unset, .unset, .unset, .unset, .unset] [(.int (own_kf ck c0))])
    refine own_st (fun t k => XS.istore X165.here hx rfl (hb hby at_161) rfl (l' := #[.val (.int p0), .val (.int p1), .val (.int p2), .val (.int p3), .val (.int p4), .val (.int (2 : Int32)), .val (.int c0), .val (.int c1), .val (.int c2), .val (.ref b140), .val (.ref b148), .val (.int (own_kf ck c0)), .unset, .unset, .unset, .unset, .unset, .unset, .unset]) rfl k) ?_
    show own_Go _ _ _ _ T165 (mkF m 163 #[.val (.int p0), .val (.int p1), .val (.int p2), .val (.int p3), .val (.int p4), .val (.int (2 : Int32)), .val (.int c0), .val (.int c1), .val (.int c2), .val (.ref b140), .val (.ref b148), .val (.int (own_kf ck c0)), .unset, .unset, .unset, .unset, .unset, .unset, .unset] [])
    refine own_st (fun t k => XS.aload X165.here hx rfl (hb hby at_163) rfl rfl k) ?_
    refine own_st (fun t k => XS.iload X165.here hx rfl (hb hby at_165) rfl k) ?_
    refine own_st (fun t k => XS.sipush X165.here hx rfl (hb hby at_167) k) ?_
    refine own_st (fun t k => XS.iand X165.here hx rfl (hb hby at_170) rfl k) ?_
    show own_Go _ _ _ _ T165 (mkF m 171 #[.val (.int p0), .val (.int p1), .val (.int p2), .val (.int p3), .val (.int p4), .val (.int (2 : Int32)), .val (.int c0), .val (.int c1), .val (.int c2), .val (.ref b140), .val (.ref b148), .val (.int (own_kf ck c0)), .unset, .unset, .unset, .unset, .unset, .unset, .unset] [(.int (c1 &&& (255 : Int32))), (.ref b148)])
    have hin167 : ¬ ((c1 &&& (255 : Int32)) < 0 ∨ ck.slots.size ≤ ((c1 &&& (255 : Int32))).toNatClampNeg) := inb_of Tk.2.1 (own_b255 _)
    have hat167 : ck.slots[((c1 &&& (255 : Int32))).toNatClampNeg]? = some (.int (own_kf ck c1)) := Tk.2.2.2 _ hin167
    refine own_st (X165.baloadBooleans hx (j := (c1 &&& (255 : Int32))) (v := (.int (own_kf ck c1))) (by rw [e165]; exact Tk.1.1) (State.isArrayOf_alike hZ.alike Tk.1.2.1) Tk.1.2.2 hin167 hat167 (g := (mkF m 171 #[.val (.int p0), .val (.int p1), .val (.int p2), .val (.int p3), .val (.int p4), .val (.int (2 : Int32)), .val (.int c0), .val (.int c1), .val (.int c2), .val (.ref b140), .val (.ref b148), .val (.int (own_kf ck c0)), .unset, .unset, .unset, .unset, .unset, .unset, .unset] [(.int (c1 &&& (255 : Int32))), (.ref b148)])) rfl rfl (hb hby at_171)) ?_
    show own_Go _ _ _ _ T165 (mkF m 172 #[.val (.int p0), .val (.int p1), .val (.int p2), .val (.int p3), .val (.int p4), .val (.int (2 : Int32)), .val (.int c0), .val (.int c1), .val (.int c2), .val (.ref b140), .val (.ref b148), .val (.int (own_kf ck c0)), .unset, .unset, .unset, .unset, .unset, .unset, .unset] [(.int (own_kf ck c1))])
    refine own_st (fun t k => XS.istore X165.here hx rfl (hb hby at_172) rfl (l' := #[.val (.int p0), .val (.int p1), .val (.int p2), .val (.int p3), .val (.int p4), .val (.int (2 : Int32)), .val (.int c0), .val (.int c1), .val (.int c2), .val (.ref b140), .val (.ref b148), .val (.int (own_kf ck c0)), .val (.int (own_kf ck c1)), .unset, .unset, .unset, .unset, .unset, .unset]) rfl k) ?_
    show own_Go _ _ _ _ T165 (mkF m 174 #[.val (.int p0), .val (.int p1), .val (.int p2), .val (.int p3), .val (.int p4), .val (.int (2 : Int32)), .val (.int c0), .val (.int c1), .val (.int c2), .val (.ref b140), .val (.ref b148), .val (.int (own_kf ck c0)), .val (.int (own_kf ck c1)), .unset, .unset, .unset, .unset, .unset, .unset] [])
    refine own_st (fun t k => XS.aload X165.here hx rfl (hb hby at_174) rfl rfl k) ?_
    refine own_st (fun t k => XS.iload X165.here hx rfl (hb hby at_176) rfl k) ?_
    refine own_st (fun t k => XS.sipush X165.here hx rfl (hb hby at_178) k) ?_
    refine own_st (fun t k => XS.iand X165.here hx rfl (hb hby at_181) rfl k) ?_
    show own_Go _ _ _ _ T165 (mkF m 182 #[.val (.int p0), .val (.int p1), .val (.int p2), .val (.int p3), .val (.int p4), .val (.int (2 : Int32)), .val (.int c0), .val (.int c1), .val (.int c2), .val (.ref b140), .val (.ref b148), .val (.int (own_kf ck c0)), .val (.int (own_kf ck c1)), .unset, .unset, .unset, .unset, .unset, .unset] [(.int (c2 &&& (255 : Int32))), (.ref b148)])
    have hin168 : ¬ ((c2 &&& (255 : Int32)) < 0 ∨ ck.slots.size ≤ ((c2 &&& (255 : Int32))).toNatClampNeg) := inb_of Tk.2.1 (own_b255 _)
    have hat168 : ck.slots[((c2 &&& (255 : Int32))).toNatClampNeg]? = some (.int (own_kf ck c2)) := Tk.2.2.2 _ hin168
    refine own_st (X165.baloadBooleans hx (j := (c2 &&& (255 : Int32))) (v := (.int (own_kf ck c2))) (by rw [e165]; exact Tk.1.1) (State.isArrayOf_alike hZ.alike Tk.1.2.1) Tk.1.2.2 hin168 hat168 (g := (mkF m 182 #[.val (.int p0), .val (.int p1), .val (.int p2), .val (.int p3), .val (.int p4), .val (.int (2 : Int32)), .val (.int c0), .val (.int c1), .val (.int c2), .val (.ref b140), .val (.ref b148), .val (.int (own_kf ck c0)), .val (.int (own_kf ck c1)), .unset, .unset, .unset, .unset, .unset, .unset] [(.int (c2 &&& (255 : Int32))), (.ref b148)])) rfl rfl (hb hby at_182)) ?_
    show own_Go _ _ _ _ T165 (mkF m 183 #[.val (.int p0), .val (.int p1), .val (.int p2), .val (.int p3), .val (.int p4), .val (.int (2 : Int32)), .val (.int c0), .val (.int c1), .val (.int c2), .val (.ref b140), .val (.ref b148), .val (.int (own_kf ck c0)), .val (.int (own_kf ck c1)), .unset, .unset, .unset, .unset, .unset, .unset] [(.int (own_kf ck c2))])
    refine own_st (fun t k => XS.istore X165.here hx rfl (hb hby at_183) rfl (l' := #[.val (.int p0), .val (.int p1), .val (.int p2), .val (.int p3), .val (.int p4), .val (.int (2 : Int32)), .val (.int c0), .val (.int c1), .val (.int c2), .val (.ref b140), .val (.ref b148), .val (.int (own_kf ck c0)), .val (.int (own_kf ck c1)), .val (.int (own_kf ck c2)), .unset, .unset, .unset, .unset, .unset]) rfl k) ?_
    show own_Go _ _ _ _ T165 (mkF m 185 #[.val (.int p0), .val (.int p1), .val (.int p2), .val (.int p3), .val (.int p4), .val (.int (2 : Int32)), .val (.int c0), .val (.int c1), .val (.int c2), .val (.ref b140), .val (.ref b148), .val (.int (own_kf ck c0)), .val (.int (own_kf ck c1)), .val (.int (own_kf ck c2)), .unset, .unset, .unset, .unset, .unset] [])
    refine own_st (fun t k => XS.bipush X165.here hx rfl (hb hby at_185) k) ?_
    show own_Go _ _ _ _ T165 (mkF m 187 #[.val (.int p0), .val (.int p1), .val (.int p2), .val (.int p3), .val (.int p4), .val (.int (2 : Int32)), .val (.int c0), .val (.int c1), .val (.int c2), .val (.ref b140), .val (.ref b148), .val (.int (own_kf ck c0)), .val (.int (own_kf ck c1)), .val (.int (own_kf ck c2)), .unset, .unset, .unset, .unset, .unset] [(.int (9 : Int32))])
    have K0_169 := (K0_163.wr W165 (Or.inr sz_b148))
    obtain ⟨T170, h170, k170, X170, e170, E170, A170, st170⟩ := newP X165 hx hZ (hw _ (List.mem_of_getElem? (i := 0) rfl)) e165 (g := (mkF m 187 #[.val (.int p0), .val (.int p1), .val (.int p2), .val (.int p3), .val (.int p4), .val (.int (2 : Int32)), .val (.int c0), .val (.int c1), .val (.int c2), .val (.ref b140), .val (.ref b148), .val (.int (own_kf ck c0)), .val (.int (own_kf ck c1)), .val (.int (own_kf ck c2)), .unset, .unset, .unset, .unset, .unset] [(.int (9 : Int32))])) rfl (hb hby at_187) rfl (by decide) (cap := 9) (by decide) (by decide) (by decide) (by decide)
    obtain ⟨b170, g170⟩ : ∃ z, z = h165.size := ⟨_, rfl⟩
    rw [← g170] at A170 st170
    have sz_b170 : h0.size ≤ b170 := Nat.le_trans K0_169.1 (Nat.le_of_eq g170.symm)
    have g_b170 : n0 ≤ b170 := Nat.le_trans Z0 sz_b170
    have Arh_171 := (((((Arh_149.ext E148).other W153 ne_ra_b148).other W157 ne_ra_b148).other W161 ne_ra_b148).other W165 ne_ra_b148)
    have ne_ra_b170 : ra ≠ b170 := Nat.ne_of_lt (Nat.lt_of_lt_of_le Arh_171.lt (Nat.le_of_eq g170.symm))
    have V146_172 := (((((V146.ext E148).other W153 ne_b140_b148).other W157 ne_b140_b148).other W161 ne_b140_b148).other W165 ne_b140_b148)
    have ne_b140_b170 : b140 ≠ b170 := Nat.ne_of_lt (Nat.lt_of_lt_of_le V146_172.lt (Nat.le_of_eq g170.symm))
    have ne_b148_b170 : b148 ≠ b170 := Nat.ne_of_lt (Nat.lt_of_lt_of_le Tk.1.lt (Nat.le_of_eq g170.symm))
    have V170 : own_X Z h170 b170 k170 9 [] := own_new (n := 9) A170 (by decide)
    refine own_st st170 ?_
    show own_Go _ _ _ _ T170 (mkF m 189 #[.val (.int p0), .val (.int p1), .val (.int p2), .val (.int p3), .val (.int p4), .val (.int (2 : Int32)), .val (.int c0), .val (.int c1), .val (.int c2), .val (.ref b140), .val (.ref b148), .val (.int (own_kf ck c0)), .val (.int (own_kf ck c1)), .val (.int (own_kf ck c2)), .unset, .unset, .unset, .unset, .unset] [(.ref b170)])
    refine own_st (fun t k => XS.astore X170.here hx rfl (hb hby at_189) rfl rfl (l' := #[.val (.int p0), .val (.int p1), .val (.int p2), .val (.int p3), .val (.int p4), .val (.int (2 : Int32)), .val (.int c0), .val (.int c1), .val (.int c2), .val (.ref b140), .val (.ref b148), .val (.int (own_kf ck c0)), .val (.int (own_kf ck c1)), .val (.int (own_kf ck c2)), .val (.ref b170), .unset, .unset, .unset, .unset]) rfl k) ?_
    show own_Go _ _ _ _ T170 (mkF m 191 #[.val (.int p0), .val (.int p1), .val (.int p2), .val (.int p3), .val (.int p4), .val (.int (2 : Int32)), .val (.int c0), .val (.int c1), .val (.int c2), .val (.ref b140), .val (.ref b148), .val (.int (own_kf ck c0)), .val (.int (own_kf ck c1)), .val (.int (own_kf ck c2)), .val (.ref b170), .unset, .unset, .unset, .unset] [])
    refine own_st (fun t k => XS.iconst X170.here hx rfl (hb hby at_191) k) ?_
    refine own_st (fun t k => XS.istore X170.here hx rfl (hb hby at_192) rfl (l' := #[.val (.int p0), .val (.int p1), .val (.int p2), .val (.int p3), .val (.int p4), .val (.int (2 : Int32)), .val (.int c0), .val (.int c1), .val (.int c2), .val (.ref b140), .val (.ref b148), .val (.int (own_kf ck c0)), .val (.int (own_kf ck c1)), .val (.int (own_kf ck c2)), .val (.ref b170), .val (.int (0 : Int32)), .unset, .unset, .unset]) rfl k) ?_
    show own_Go _ _ _ _ T170 (mkF m 194 #[.val (.int p0), .val (.int p1), .val (.int p2), .val (.int p3), .val (.int p4), .val (.int (2 : Int32)), .val (.int c0), .val (.int c1), .val (.int c2), .val (.ref b140), .val (.ref b148), .val (.int (own_kf ck c0)), .val (.int (own_kf ck c1)), .val (.int (own_kf ck c2)), .val (.ref b170), .val (.int (0 : Int32)), .unset, .unset, .unset] [])
    refine own_st (fun t k => XS.iload X170.here hx rfl (hb hby at_194) rfl k) ?_
    refine own_st (fun t k => XS.ifNo X170.here hx rfl (hb hby at_196) rfl ((if0 _ _).trans (tlt (by decide : (0 : Int32) < (2 : Int32))).2.2.2) k) ?_
    show own_Go _ _ _ _ T170 (mkF m 199 #[.val (.int p0), .val (.int p1), .val (.int p2), .val (.int p3), .val (.int p4), .val (.int (2 : Int32)), .val (.int c0), .val (.int c1), .val (.int c2), .val (.ref b140), .val (.ref b148), .val (.int (own_kf ck c0)), .val (.int (own_kf ck c1)), .val (.int (own_kf ck c2)), .val (.ref b170), .val (.int (0 : Int32)), .unset, .unset, .unset] [])
    refine own_st (fun t k => XS.aload X170.here hx rfl (hb hby at_199) rfl rfl k) ?_
    refine own_st (fun t k => XS.iload X170.here hx rfl (hb hby at_201) rfl k) ?_
    refine own_st (fun t k => XS.iload X170.here hx rfl (hb hby at_203) rfl k) ?_
    refine own_st (fun t k => XS.iload X170.here hx rfl (hb hby at_205) rfl k) ?_
    show own_Go _ _ _ _ T170 (mkF m 207 #[.val (.int p0), .val (.int p1), .val (.int p2), .val (.int p3), .val (.int p4), .val (.int (2 : Int32)), .val (.int c0), .val (.int c1), .val (.int c2), .val (.ref b140), .val (.ref b148), .val (.int (own_kf ck c0)), .val (.int (own_kf ck c1)), .val (.int (own_kf ck c2)), .val (.ref b170), .val (.int (0 : Int32)), .unset, .unset, .unset] [(.int (own_kf ck c0)), (.int c0), (.int (0 : Int32)), (.ref b170)])
    have K0_174 := (K0_169.ext E170)
    obtain ⟨_, _, ⟨T173, L173, k173, n173⟩, -, X173, ⟨Lc173, hQ173, l173, y173, z173⟩, st173⟩ := Jvm.LawKit.callS X170 hx (y := (⟨"shelfmark/IriPatternPercentEncodedPinLaw", "put", "([BIBZ)I"⟩ : MethodName)) hown (mvT hZ (hw _ (List.mem_of_getElem? (i := 2) rfl))) (mvT hZ (hw _ (List.mem_of_getElem? (i := 3) rfl))) (mvT hZ (hw _ (List.mem_of_getElem? (i := 4) rfl))) (mvT hZ (hw _ (List.mem_of_getElem? (i := 5) rfl))) (by decide) (backOf (W := 0) (rm1 l Z a0 hw [] b170 (0 : Int32) c0 (own_kf ck c0) k170 []  h170 n0 (Nat.le_trans Z0 K0_174.1) V170 rfl (by decide) g_b170) hZ (hw _ (List.mem_of_getElem? (i := 5) rfl)) (hw _ (List.mem_of_getElem? (i := 4) rfl)) (by decide) (by decide)) (g := (mkF m 207 #[.val (.int p0), .val (.int p1), .val (.int p2), .val (.int p3), .val (.int p4), .val (.int (2 : Int32)), .val (.int c0), .val (.int c1), .val (.int c2), .val (.ref b140), .val (.ref b148), .val (.int (own_kf ck c0)), .val (.int (own_kf ck c1)), .val (.int (own_kf ck c2)), .val (.ref b170), .val (.int (0 : Int32)), .unset, .unset, .unset] [(.int (own_kf ck c0)), (.int c0), (.int (0 : Int32)), (.ref b170)])) rfl (by rw [hml]; rfl) (argsL := [(.ref b170), (.int (0 : Int32)), (.int c0), (.int (own_kf ck c0))]) (rest := []) (lenOf pd__28_5bBIBZ_29I rfl) rfl (by show 2 * 0 + _ ≤ _; exact Nat.le_of_eq rfl) (hb hby at_207) (fun _ _ => ⟨rfl, e170, (by decide : 3 + 0 ≤ _), (by decide : 267 + 0 ≤ _)⟩)
    dsimp only [Pt.U, Pt.locs, Pt.cells, Pt.slots] at X173 l173 y173 z173 st173 hQ173
    subst l173 y173 z173
    have ns173 : ∀ x ∈ [b170], ∀ cl : Cell, h170[x]? = some cl → cl.vm.isStatics = false := allS (Arv.nostat V170) all0
    obtain ⟨rfl, N173q, K173, V173⟩ := hQ173
    obtain ⟨_, X173, N173⟩ := own_hide X173 (Fr.app N165 N173q)
    refine own_st st173 ?_
    show own_Go _ _ _ _ T173 (mkF m 210 #[.val (.int p0), .val (.int p1), .val (.int p2), .val (.int p3), .val (.int p4), .val (.int (2 : Int32)), .val (.int c0), .val (.int c1), .val (.int c2), .val (.ref b140), .val (.ref b148), .val (.int (own_kf ck c0)), .val (.int (own_kf ck c1)), .val (.int (own_kf ck c2)), .val (.ref b170), .val (.int (0 : Int32)), .unset, .unset, .unset] [(.int (Int32.ofNat ([] ++ own_enc c0 (own_kf ck c0)).length))])
    refine own_st (fun t k => XS.istore X173.here hx rfl (hb hby at_210) rfl (l' := #[.val (.int p0), .val (.int p1), .val (.int p2), .val (.int p3), .val (.int p4), .val (.int (2 : Int32)), .val (.int c0), .val (.int c1), .val (.int c2), .val (.ref b140), .val (.ref b148), .val (.int (own_kf ck c0)), .val (.int (own_kf ck c1)), .val (.int (own_kf ck c2)), .val (.ref b170), .val (.int (Int32.ofNat ([] ++ own_enc c0 (own_kf ck c0)).length)), .unset, .unset, .unset]) rfl k) ?_
    show own_Go _ _ _ _ T173 (mkF m 212 #[.val (.int p0), .val (.int p1), .val (.int p2), .val (.int p3), .val (.int p4), .val (.int (2 : Int32)), .val (.int c0), .val (.int c1), .val (.int c2), .val (.ref b140), .val (.ref b148), .val (.int (own_kf ck c0)), .val (.int (own_kf ck c1)), .val (.int (own_kf ck c2)), .val (.ref b170), .val (.int (Int32.ofNat ([] ++ own_enc c0 (own_kf ck c0)).length)), .unset, .unset, .unset] [])
    refine own_st (fun t k => XS.iload X173.here hx rfl (hb hby at_212) rfl k) ?_
    refine own_st (fun t k => XS.iconst X173.here hx rfl (hb hby at_214) k) ?_
    refine own_st (fun t k => XS.icmpNo X173.here hx rfl (hb hby at_215) rfl (tlt (by decide : (1 : Int32) < (2 : Int32))).2.2.2 k) ?_
    show own_Go _ _ _ _ T173 (mkF m 218 #[.val (.int p0), .val (.int p1), .val (.int p2), .val (.int p3), .val (.int p4), .val (.int (2 : Int32)), .val (.int c0), .val (.int c1), .val (.int c2), .val (.ref b140), .val (.ref b148), .val (.int (own_kf ck c0)), .val (.int (own_kf ck c1)), .val (.int (own_kf ck c2)), .val (.ref b170), .val (.int (Int32.ofNat ([] ++ own_enc c0 (own_kf ck c0)).length)), .unset, .unset, .unset] [])
    refine own_st (fun t k => XS.aload X173.here hx rfl (hb hby at_218) rfl rfl k) ?_
    refine own_st (fun t k => XS.iload X173.here hx rfl (hb hby at_220) rfl k) ?_
    refine own_st (fun t k => XS.iload X173.here hx rfl (hb hby at_222) rfl k) ?_
    refine own_st (fun t k => XS.iload X173.here hx rfl (hb hby at_224) rfl k) ?_
    show own_Go _ _ _ _ T173 (mkF m 226 #[.val (.int p0), .val (.int p1), .val (.int p2), .val (.int p3), .val (.int p4), .val (.int (2 : Int32)), .val (.int c0), .val (.int c1), .val (.int c2), .val (.ref b140), .val (.ref b148), .val (.int (own_kf ck c0)), .val (.int (own_kf ck c1)), .val (.int (own_kf ck c2)), .val (.ref b170), .val (.int (Int32.ofNat ([] ++ own_enc c0 (own_kf ck c0)).length)), .unset, .unset, .unset] [(.int (own_kf ck c1)), (.int c1), (.int (Int32.ofNat ([] ++ own_enc c0 (own_kf ck c0)).length)), (.ref b170)])
    have K0_176 := (K0_174.trans K173 (allS ((Or.inr sz_b170)) all0))
    obtain ⟨_, _, ⟨T175, L175, k175, n175⟩, -, X175, ⟨Lc175, hQ175, l175, y175, z175⟩, st175⟩ := Jvm.LawKit.callS X173 hx (y := (⟨"shelfmark/IriPatternPercentEncodedPinLaw", "put", "([BIBZ)I"⟩ : MethodName)) hown (mvT hZ (hw _ (List.mem_of_getElem? (i := 2) rfl))) (mvT hZ (hw _ (List.mem_of_getElem? (i := 3) rfl))) (mvT hZ (hw _ (List.mem_of_getElem? (i := 4) rfl))) (mvT hZ (hw _ (List.mem_of_getElem? (i := 5) rfl))) (by decide) (backOf (W := 0) (rm1 l Z a0 hw [] b170 (Int32.ofNat ([] ++ own_enc c0 (own_kf ck c0)).length) c1 (own_kf ck c1) k170 ([] ++ own_enc c0 (own_kf ck c0))  T173.heap n0 (Nat.le_trans Z0 K0_176.1) V173 rfl (by have e0 := own_el3 c0 (own_kf ck c0); have e1 := own_el3 c1 (own_kf ck c1); simp only [List.length_append, List.length_nil]; omega) g_b170) hZ (hw _ (List.mem_of_getElem? (i := 5) rfl)) (hw _ (List.mem_of_getElem? (i := 4) rfl)) (by decide) (by decide)) (g := (mkF m 226 #[.val (.int p0), .val (.int p1), .val (.int p2), .val (.int p3), .val (.int p4), .val (.int (2 : Int32)), .val (.int c0), .val (.int c1), .val (.int c2), .val (.ref b140), .val (.ref b148), .val (.int (own_kf ck c0)), .val (.int (own_kf ck c1)), .val (.int (own_kf ck c2)), .val (.ref b170), .val (.int (Int32.ofNat ([] ++ own_enc c0 (own_kf ck c0)).length)), .unset, .unset, .unset] [(.int (own_kf ck c1)), (.int c1), (.int (Int32.ofNat ([] ++ own_enc c0 (own_kf ck c0)).length)), (.ref b170)])) rfl (by rw [hml]; rfl) (argsL := [(.ref b170), (.int (Int32.ofNat ([] ++ own_enc c0 (own_kf ck c0)).length)), (.int c1), (.int (own_kf ck c1))]) (rest := []) (lenOf pd__28_5bBIBZ_29I rfl) rfl (by show 2 * 0 + _ ≤ _; exact Nat.le_of_eq rfl) (hb hby at_226) (fun _ _ => ⟨rfl, rfl, (by decide : 3 + 0 ≤ _), (by decide : 267 + 0 ≤ _)⟩)
    dsimp only [Pt.U, Pt.locs, Pt.cells, Pt.slots] at X175 l175 y175 z175 st175 hQ175
    subst l175 y175 z175
    have ns175 : ∀ x ∈ [b170], ∀ cl : Cell, T173.heap[x]? = some cl → cl.vm.isStatics = false := allS (Arv.nostat V173) all0
    obtain ⟨rfl, N175q, K175, V175⟩ := hQ175
    obtain ⟨_, X175, N175⟩ := own_hide X175 (Fr.app N173 N175q)
    refine own_st st175 ?_
    show own_Go _ _ _ _ T175 (mkF m 229 #[.val (.int p0), .val (.int p1), .val (.int p2), .val (.int p3), .val (.int p4), .val (.int (2 : Int32)), .val (.int c0), .val (.int c1), .val (.int c2), .val (.ref b140), .val (.ref b148), .val (.int (own_kf ck c0)), .val (.int (own_kf ck c1)), .val (.int (own_kf ck c2)), .val (.ref b170), .val (.int (Int32.ofNat ([] ++ own_enc c0 (own_kf ck c0)).length)), .unset, .unset, .unset] [(.int (Int32.ofNat (([] ++ own_enc c0 (own_kf ck c0)) ++ own_enc c1 (own_kf ck c1)).length))])
    refine own_st (fun t k => XS.istore X175.here hx rfl (hb hby at_229) rfl (l' := #[.val (.int p0), .val (.int p1), .val (.int p2), .val (.int p3), .val (.int p4), .val (.int (2 : Int32)), .val (.int c0), .val (.int c1), .val (.int c2), .val (.ref b140), .val (.ref b148), .val (.int (own_kf ck c0)), .val (.int (own_kf ck c1)), .val (.int (own_kf ck c2)), .val (.ref b170), .val (.int (Int32.ofNat (([] ++ own_enc c0 (own_kf ck c0)) ++ own_enc c1 (own_kf ck c1)).length)), .unset, .unset, .unset]) rfl k) ?_
    show own_Go _ _ _ _ T175 (mkF m 231 #[.val (.int p0), .val (.int p1), .val (.int p2), .val (.int p3), .val (.int p4), .val (.int (2 : Int32)), .val (.int c0), .val (.int c1), .val (.int c2), .val (.ref b140), .val (.ref b148), .val (.int (own_kf ck c0)), .val (.int (own_kf ck c1)), .val (.int (own_kf ck c2)), .val (.ref b170), .val (.int (Int32.ofNat (([] ++ own_enc c0 (own_kf ck c0)) ++ own_enc c1 (own_kf ck c1)).length)), .unset, .unset, .unset] [])
    refine own_st (fun t k => XS.iload X175.here hx rfl (hb hby at_231) rfl k) ?_
    refine own_st (fun t k => XS.iconst X175.here hx rfl (hb hby at_233) k) ?_
    refine own_st (fun t k => XS.icmpYes X175.here hx rfl (pc0 := 234) (pc' := 250) rfl (hb hby at_234) rfl (flt (by decide : ¬ ((2 : Int32) < (2 : Int32)))).2.2.2 (by decide) (by decide) k) ?_
    show own_Go _ _ _ _ T175 (mkF m 250 #[.val (.int p0), .val (.int p1), .val (.int p2), .val (.int p3), .val (.int p4), .val (.int (2 : Int32)), .val (.int c0), .val (.int c1), .val (.int c2), .val (.ref b140), .val (.ref b148), .val (.int (own_kf ck c0)), .val (.int (own_kf ck c1)), .val (.int (own_kf ck c2)), .val (.ref b170), .val (.int (Int32.ofNat (([] ++ own_enc c0 (own_kf ck c0)) ++ own_enc c1 (own_kf ck c1)).length)), .unset, .unset, .unset] [])
    have hfl177 : (([] ++ own_enc c0 (own_kf ck c0)) ++ own_enc c1 (own_kf ck c1)) = (own_flat (own_kf ck) [c0, c1]) := by simp [own_flat]
    have Vx : own_X Z T175.heap b170 k170 9 (own_flat (own_kf ck) [c0, c1]) := hfl177 ▸ V175
    rw [hfl177]
    show own_Go _ _ _ _ T175 (mkF m 250 #[.val (.int p0), .val (.int p1), .val (.int p2), .val (.int p3), .val (.int p4), .val (.int (2 : Int32)), .val (.int c0), .val (.int c1), .val (.int c2), .val (.ref b140), .val (.ref b148), .val (.int (own_kf ck c0)), .val (.int (own_kf ck c1)), .val (.int (own_kf ck c2)), .val (.ref b170), .val (.int (Int32.ofNat (own_flat (own_kf ck) [c0, c1]).length)), .unset, .unset, .unset] [])
    obtain ⟨mm, hmm⟩ : ∃ z, z = Int32.ofNat (own_flat (own_kf ck) [c0, c1]).length := ⟨_, rfl⟩
    rw [← hmm]
    obtain ⟨d0, hd0⟩ : ∃ z, z = own_kf ck c0 := ⟨_, rfl⟩
    rw [← hd0]
    obtain ⟨d1, hd1⟩ : ∃ z, z = own_kf ck c1 := ⟨_, rfl⟩
    rw [← hd1]
    obtain ⟨d2, hd2⟩ : ∃ z, z = own_kf ck c2 := ⟨_, rfl⟩
    rw [← hd2]
    show own_Go _ _ _ _ T175 (mkF m 250 #[.val (.int p0), .val (.int p1), .val (.int p2), .val (.int p3), .val (.int p4), .val (.int (2 : Int32)), .val (.int c0), .val (.int c1), .val (.int c2), .val (.ref b140), .val (.ref b148), .val (.int d0), .val (.int d1), .val (.int d2), .val (.ref b170), .val (.int mm), .unset, .unset, .unset] [])
    refine own_st (fun t k => XS.iload X175.here hx rfl (hb hby at_250) rfl k) ?_
    refine own_st (fun t k => XS.iload X175.here hx rfl (hb hby at_252) rfl k) ?_
    by_cases c254_178 : mm = (2 : Int32)
    ·
      refine own_st (fun t k => XS.icmpNo X175.here hx rfl (hb hby at_254) rfl (teq c254_178).2 k) ?_
      show own_Go _ _ _ _ T175 (mkF m 257 #[.val (.int p0), .val (.int p1), .val (.int p2), .val (.int p3), .val (.int p4), .val (.int (2 : Int32)), .val (.int c0), .val (.int c1), .val (.int c2), .val (.ref b140), .val (.ref b148), .val (.int d0), .val (.int d1), .val (.int d2), .val (.ref b170), .val (.int mm), .unset, .unset, .unset] [])
      refine own_st (fun t k => XS.iconst X175.here hx rfl (hb hby at_257) k) ?_
      refine own_st (fun t k => XS.goto X175.here hx rfl (pc0 := 258) (pc' := 262) rfl (hb hby at_258) (by decide) (by decide) k) ?_
      show own_Go _ _ _ _ T175 (mkF m 262 #[.val (.int p0), .val (.int p1), .val (.int p2), .val (.int p3), .val (.int p4), .val (.int (2 : Int32)), .val (.int c0), .val (.int c1), .val (.int c2), .val (.ref b140), .val (.ref b148), .val (.int d0), .val (.int d1), .val (.int d2), .val (.ref b170), .val (.int mm), .unset, .unset, .unset] [(.int (1 : Int32))])
      refine own_st (fun t k => XS.istore X175.here hx rfl (hb hby at_262) rfl (l' := #[.val (.int p0), .val (.int p1), .val (.int p2), .val (.int p3), .val (.int p4), .val (.int (2 : Int32)), .val (.int c0), .val (.int c1), .val (.int c2), .val (.ref b140), .val (.ref b148), .val (.int d0), .val (.int d1), .val (.int d2), .val (.ref b170), .val (.int mm), .val (.int (1 : Int32)), .unset, .unset]) rfl k) ?_
      show own_Go _ _ _ _ T175 (mkF m 264 #[.val (.int p0), .val (.int p1), .val (.int p2), .val (.int p3), .val (.int p4), .val (.int (2 : Int32)), .val (.int c0), .val (.int c1), .val (.int c2), .val (.ref b140), .val (.ref b148), .val (.int d0), .val (.int d1), .val (.int d2), .val (.ref b170), .val (.int mm), .val (.int (1 : Int32)), .unset, .unset] [])
      refine own_st (fun t k => XS.aload X175.here hx rfl (hb hby at_264) rfl rfl k) ?_
      refine own_st (fun t k => XS.aload X175.here hx rfl (hb hby at_266) rfl rfl k) ?_
      show own_Go _ _ _ _ T175 (mkF m 268 #[.val (.int p0), .val (.int p1), .val (.int p2), .val (.int p3), .val (.int p4), .val (.int (2 : Int32)), .val (.int c0), .val (.int c1), .val (.int c2), .val (.ref b140), .val (.ref b148), .val (.int d0), .val (.int d1), .val (.int d2), .val (.ref b170), .val (.int mm), .val (.int (1 : Int32)), .unset, .unset] [(.ref b148), (.ref b140)])
      have V146_179 := (((V146_172.ext E170).keep K173 (ninS ne_b140_b170 nin0)).keep K175 (ninS ne_b140_b170 nin0))
      have Ark_180 := (own_arr_keep (own_arr_keep (Tk.1.ext E170) K173 (ninS ne_b148_b170 nin0)) K175 (ninS ne_b148_b170 nin0))
      have Sh_181 := (own_sta_keep (own_sta_keep (((((((((S_H.ext E140).wr W143).wr W146).ext E148).wr W153).wr W157).wr W161).wr W165).ext E170) K173 ns173) K175 ns175)
      have Arh_182 := (own_arr_keep (own_arr_keep (Arh_171.ext E170) K173 (ninS ne_ra_b170 nin0)) K175 (ninS ne_ra_b170 nin0))
      have K0_184 := (K0_176.trans K175 (allS ((Or.inr sz_b170)) all0))
      obtain ⟨_, _, ⟨T183, L183, k183, n183⟩, -, X183, ⟨Lc183, hQ183, l183, y183, z183⟩, st183⟩ := Jvm.LawKit.callS X175 hx (y := (⟨"shelfmark/IriPattern", "percentEncoded", "([B[Z)[B"⟩ : MethodName)) hown (mvT hZ (hw _ (List.mem_of_getElem? (i := 9) rfl))) (mvT hZ (hw _ (List.mem_of_getElem? (i := 10) rfl))) (mvT hZ (hw _ (List.mem_of_getElem? (i := 11) rfl))) (mvT hZ (hw _ (List.mem_of_getElem? (i := 12) rfl))) (by decide) (backOf (W := 0) (rm3 l Z a0 hw [] b140 b148 k140 [c0, c1] ck ra ch  T175.heap n0 (Nat.le_trans Z0 K0_184.1) V146_179 (Nat.le_of_ble_eq_true rfl) (by intro b hb; simp only [List.mem_cons, List.not_mem_nil, or_false] at hb; rcases hb with rfl | rfl; all_goals assumption) ⟨Ark_180, Tk.2⟩ Sh_181 Arh_182 hH) hZ (hw _ (List.mem_of_getElem? (i := 12) rfl)) (hw _ (List.mem_of_getElem? (i := 11) rfl)) (by decide) (by decide)) (g := (mkF m 268 #[.val (.int p0), .val (.int p1), .val (.int p2), .val (.int p3), .val (.int p4), .val (.int (2 : Int32)), .val (.int c0), .val (.int c1), .val (.int c2), .val (.ref b140), .val (.ref b148), .val (.int d0), .val (.int d1), .val (.int d2), .val (.ref b170), .val (.int mm), .val (.int (1 : Int32)), .unset, .unset] [(.ref b148), (.ref b140)])) rfl (by rw [hml]; rfl) (argsL := [(.ref b140), (.ref b148)]) (rest := []) (lenOf pd__28_5bB_5bZ_29_5bB rfl) rfl (by show 2 * 0 + _ ≤ _; exact Nat.le_of_eq rfl) (hb hby at_268) (fun _ _ => ⟨rfl, rfl, (by decide : 3 + 1 ≤ _), (by decide : 267 + 9 ≤ _)⟩)
      dsimp only [Pt.U, Pt.locs, Pt.cells, Pt.slots] at X183 l183 y183 z183 st183 hQ183
      subst l183 y183 z183
      obtain ⟨b183, k183, rfl, N183q, K183, hbu, V183⟩ := hQ183
      obtain ⟨_, X183, N183⟩ := own_hide X183 (Fr.app N175 N183q)
      refine own_st st183 ?_
      show own_Go _ _ _ _ T183 (mkF m 271 #[.val (.int p0), .val (.int p1), .val (.int p2), .val (.int p3), .val (.int p4), .val (.int (2 : Int32)), .val (.int c0), .val (.int c1), .val (.int c2), .val (.ref b140), .val (.ref b148), .val (.int d0), .val (.int d1), .val (.int d2), .val (.ref b170), .val (.int mm), .val (.int (1 : Int32)), .unset, .unset] [(.ref b183)])
      refine own_st (fun t k => XS.astore X183.here hx rfl (hb hby at_271) rfl rfl (l' := #[.val (.int p0), .val (.int p1), .val (.int p2), .val (.int p3), .val (.int p4), .val (.int (2 : Int32)), .val (.int c0), .val (.int c1), .val (.int c2), .val (.ref b140), .val (.ref b148), .val (.int d0), .val (.int d1), .val (.int d2), .val (.ref b170), .val (.int mm), .val (.int (1 : Int32)), .val (.ref b183), .unset]) rfl k) ?_
      show own_Go _ _ _ _ T183 (mkF m 273 #[.val (.int p0), .val (.int p1), .val (.int p2), .val (.int p3), .val (.int p4), .val (.int (2 : Int32)), .val (.int c0), .val (.int c1), .val (.int c2), .val (.ref b140), .val (.ref b148), .val (.int d0), .val (.int d1), .val (.int d2), .val (.ref b170), .val (.int mm), .val (.int (1 : Int32)), .val (.ref b183), .unset] [])
      refine own_st (fun t k => XS.aload X183.here hx rfl (hb hby at_273) rfl rfl k) ?_
      show own_Go _ _ _ _ T183 (mkF m 275 #[.val (.int p0), .val (.int p1), .val (.int p2), .val (.int p3), .val (.int p4), .val (.int (2 : Int32)), .val (.int c0), .val (.int c1), .val (.int c2), .val (.ref b140), .val (.ref b148), .val (.int d0), .val (.int d1), .val (.int d2), .val (.ref b170), .val (.int mm), .val (.int (1 : Int32)), .val (.ref b183), .unset] [(.ref b183)])
      refine own_st (fun t k => XS.ifnullNo X183.here hx rfl (hb hby at_275) rfl k) ?_
      show own_Go _ _ _ _ T183 (mkF m 278 #[.val (.int p0), .val (.int p1), .val (.int p2), .val (.int p3), .val (.int p4), .val (.int (2 : Int32)), .val (.int c0), .val (.int c1), .val (.int c2), .val (.ref b140), .val (.ref b148), .val (.int d0), .val (.int d1), .val (.int d2), .val (.ref b170), .val (.int mm), .val (.int (1 : Int32)), .val (.ref b183), .unset] [])
      refine own_st (fun t k => XS.aload X183.here hx rfl (hb hby at_278) rfl rfl k) ?_
      show own_Go _ _ _ _ T183 (mkF m 280 #[.val (.int p0), .val (.int p1), .val (.int p2), .val (.int p3), .val (.int p4), .val (.int (2 : Int32)), .val (.int c0), .val (.int c1), .val (.int c2), .val (.ref b140), .val (.ref b148), .val (.int d0), .val (.int d1), .val (.int d2), .val (.ref b170), .val (.int mm), .val (.int (1 : Int32)), .val (.ref b183), .unset] [(.ref b183)])
      obtain ⟨cl185, Ar185, qk185, Sz185, Nn185, Hs185, Gf185⟩ := id V183
      refine own_st (X183.arraylength hx (id Ar185.1) (State.isArrayOf_alike hZ.alike Ar185.2.1) (g := (mkF m 280 #[.val (.int p0), .val (.int p1), .val (.int p2), .val (.int p3), .val (.int p4), .val (.int (2 : Int32)), .val (.int c0), .val (.int c1), .val (.int c2), .val (.ref b140), .val (.ref b148), .val (.int d0), .val (.int d1), .val (.int d2), .val (.ref b170), .val (.int mm), .val (.int (1 : Int32)), .val (.ref b183), .unset] [(.ref b183)])) rfl rfl (hb hby at_280)) ?_
      rw [len_of Sz185 Nn185]
      show own_Go _ _ _ _ T183 (mkF m 281 #[.val (.int p0), .val (.int p1), .val (.int p2), .val (.int p3), .val (.int p4), .val (.int (2 : Int32)), .val (.int c0), .val (.int c1), .val (.int c2), .val (.ref b140), .val (.ref b148), .val (.int d0), .val (.int d1), .val (.int d2), .val (.ref b170), .val (.int mm), .val (.int (1 : Int32)), .val (.ref b183), .unset] [(.int (Int32.ofNat (own_flat (own_kf ck) [c0, c1]).length))])
      refine own_st (fun t k => XS.iload X183.here hx rfl (hb hby at_281) rfl k) ?_
      refine own_st (fun t k => XS.icmpYes X183.here hx rfl (pc0 := 283) (pc' := 288) rfl (hb hby at_283) rfl (teq hmm.symm).1 (by decide) (by decide) k) ?_
      show own_Go _ _ _ _ T183 (mkF m 288 #[.val (.int p0), .val (.int p1), .val (.int p2), .val (.int p3), .val (.int p4), .val (.int (2 : Int32)), .val (.int c0), .val (.int c1), .val (.int c2), .val (.ref b140), .val (.ref b148), .val (.int d0), .val (.int d1), .val (.int d2), .val (.ref b170), .val (.int mm), .val (.int (1 : Int32)), .val (.ref b183), .unset] [])
      refine own_st (fun t k => XS.iload X183.here hx rfl (hb hby at_288) rfl k) ?_
      refine own_st (fun t k => XS.ifNo X183.here hx rfl (hb hby at_290) rfl ((if0 _ _).trans (feq (by decide : ¬ ((1 : Int32) = (0 : Int32)))).1) k) ?_
      show own_Go _ _ _ _ T183 (mkF m 293 #[.val (.int p0), .val (.int p1), .val (.int p2), .val (.int p3), .val (.int p4), .val (.int (2 : Int32)), .val (.int c0), .val (.int c1), .val (.int c2), .val (.ref b140), .val (.ref b148), .val (.int d0), .val (.int d1), .val (.int d2), .val (.ref b170), .val (.int mm), .val (.int (1 : Int32)), .val (.ref b183), .unset] [])
      refine own_st (fun t k => XS.aload X183.here hx rfl (hb hby at_293) rfl rfl k) ?_
      refine own_st (fun t k => XS.aload X183.here hx rfl (hb hby at_295) rfl rfl k) ?_
      show own_Go _ _ _ _ T183 (mkF m 297 #[.val (.int p0), .val (.int p1), .val (.int p2), .val (.int p3), .val (.int p4), .val (.int (2 : Int32)), .val (.int c0), .val (.int c1), .val (.int c2), .val (.ref b140), .val (.ref b148), .val (.int d0), .val (.int d1), .val (.int d2), .val (.ref b170), .val (.int mm), .val (.int (1 : Int32)), .val (.ref b183), .unset] [(.ref b140), (.ref b183)])
      refine own_st (fun t k => Jvm.RoadKit.acmp (g := (mkF m 297 #[.val (.int p0), .val (.int p1), .val (.int p2), .val (.int p3), .val (.int p4), .val (.int (2 : Int32)), .val (.int c0), .val (.int c1), .val (.int c2), .val (.ref b140), .val (.ref b148), .val (.int d0), .val (.int d1), .val (.int d2), .val (.ref b170), .val (.int mm), .val (.int (1 : Int32)), .val (.ref b183), .unset] [(.ref b140), (.ref b183)])) X183 hx rfl rfl rfl (pc0 := 297) (pc' := 302) (same := true) rfl (hb hby at_297) rfl (decide_eq_true (congrArg Value.ref ((hbu (own_cnt0 (own_kf ck) [c0, c1] (Nat.le_of_ble_eq_true rfl) (hmm.symm.trans c254_178))) : b183 = b140))) (by decide) (by decide) k) ?_
      show own_Go _ _ _ _ T183 (mkF m 302 #[.val (.int p0), .val (.int p1), .val (.int p2), .val (.int p3), .val (.int p4), .val (.int (2 : Int32)), .val (.int c0), .val (.int c1), .val (.int c2), .val (.ref b140), .val (.ref b148), .val (.int d0), .val (.int d1), .val (.int d2), .val (.ref b170), .val (.int mm), .val (.int (1 : Int32)), .val (.ref b183), .unset] [])
      refine own_st (fun t k => XS.iload X183.here hx rfl (hb hby at_302) rfl k) ?_
      refine own_st (fun t k => XS.iconst X183.here hx rfl (hb hby at_304) k) ?_
      refine own_st (fun t k => XS.icmpNo X183.here hx rfl (hb hby at_305) rfl (flt (by decide : ¬ ((2 : Int32) < (1 : Int32)))).1 k) ?_
      show own_Go _ _ _ _ T183 (mkF m 308 #[.val (.int p0), .val (.int p1), .val (.int p2), .val (.int p3), .val (.int p4), .val (.int (2 : Int32)), .val (.int c0), .val (.int c1), .val (.int c2), .val (.ref b140), .val (.ref b148), .val (.int d0), .val (.int d1), .val (.int d2), .val (.ref b170), .val (.int mm), .val (.int (1 : Int32)), .val (.ref b183), .unset] [])
      refine own_st (fun t k => XS.aload X183.here hx rfl (hb hby at_308) rfl rfl k) ?_
      refine own_st (fun t k => XS.iconst X183.here hx rfl (hb hby at_310) k) ?_
      show own_Go _ _ _ _ T183 (mkF m 311 #[.val (.int p0), .val (.int p1), .val (.int p2), .val (.int p3), .val (.int p4), .val (.int (2 : Int32)), .val (.int c0), .val (.int c1), .val (.int c2), .val (.ref b140), .val (.ref b148), .val (.int d0), .val (.int d1), .val (.int d2), .val (.ref b170), .val (.int mm), .val (.int (1 : Int32)), .val (.ref b183), .unset] [(.int (0 : Int32)), (.ref b140)])
      have V146_187 := (V146_179.keep K183 nin0)
      obtain ⟨cl186, Ar186, qk186, Sz186, Nn186, Hs186, Gf186⟩ := id V146_187
      have hin186 : ¬ ((0 : Int32) < 0 ∨ cl186.slots.size ≤ ((0 : Int32)).toNatClampNeg) := inb_of Sz186 ⟨by decide, by decide⟩
      have hat186 : cl186.slots[((0 : Int32)).toNatClampNeg]? = some (.int c0) := Has.at Hs186 hin186 rfl
      refine own_st (X183.baloadBytes hx (j := (0 : Int32)) (v := (.int c0)) (id Ar186.1) (State.isArrayOf_alike hZ.alike Ar186.2.1) Ar186.2.2 hin186 hat186 (g := (mkF m 311 #[.val (.int p0), .val (.int p1), .val (.int p2), .val (.int p3), .val (.int p4), .val (.int (2 : Int32)), .val (.int c0), .val (.int c1), .val (.int c2), .val (.ref b140), .val (.ref b148), .val (.int d0), .val (.int d1), .val (.int d2), .val (.ref b170), .val (.int mm), .val (.int (1 : Int32)), .val (.ref b183), .unset] [(.int (0 : Int32)), (.ref b140)])) rfl rfl (hb hby at_311)) ?_
      show own_Go _ _ _ _ T183 (mkF m 312 #[.val (.int p0), .val (.int p1), .val (.int p2), .val (.int p3), .val (.int p4), .val (.int (2 : Int32)), .val (.int c0), .val (.int c1), .val (.int c2), .val (.ref b140), .val (.ref b148), .val (.int d0), .val (.int d1), .val (.int d2), .val (.ref b170), .val (.int mm), .val (.int (1 : Int32)), .val (.ref b183), .unset] [(.int c0)])
      refine own_st (fun t k => XS.iload X183.here hx rfl (hb hby at_312) rfl k) ?_
      refine own_st (fun t k => XS.icmpNo X183.here hx rfl (hb hby at_314) rfl (teq rfl).2 k) ?_
      show own_Go _ _ _ _ T183 (mkF m 317 #[.val (.int p0), .val (.int p1), .val (.int p2), .val (.int p3), .val (.int p4), .val (.int (2 : Int32)), .val (.int c0), .val (.int c1), .val (.int c2), .val (.ref b140), .val (.ref b148), .val (.int d0), .val (.int d1), .val (.int d2), .val (.ref b170), .val (.int mm), .val (.int (1 : Int32)), .val (.ref b183), .unset] [])
      refine own_st (fun t k => XS.iload X183.here hx rfl (hb hby at_317) rfl k) ?_
      refine own_st (fun t k => XS.iconst X183.here hx rfl (hb hby at_319) k) ?_
      refine own_st (fun t k => XS.icmpNo X183.here hx rfl (hb hby at_320) rfl (flt (by decide : ¬ ((2 : Int32) < (2 : Int32)))).1 k) ?_
      show own_Go _ _ _ _ T183 (mkF m 323 #[.val (.int p0), .val (.int p1), .val (.int p2), .val (.int p3), .val (.int p4), .val (.int (2 : Int32)), .val (.int c0), .val (.int c1), .val (.int c2), .val (.ref b140), .val (.ref b148), .val (.int d0), .val (.int d1), .val (.int d2), .val (.ref b170), .val (.int mm), .val (.int (1 : Int32)), .val (.ref b183), .unset] [])
      refine own_st (fun t k => XS.aload X183.here hx rfl (hb hby at_323) rfl rfl k) ?_
      refine own_st (fun t k => XS.iconst X183.here hx rfl (hb hby at_325) k) ?_
      show own_Go _ _ _ _ T183 (mkF m 326 #[.val (.int p0), .val (.int p1), .val (.int p2), .val (.int p3), .val (.int p4), .val (.int (2 : Int32)), .val (.int c0), .val (.int c1), .val (.int c2), .val (.ref b140), .val (.ref b148), .val (.int d0), .val (.int d1), .val (.int d2), .val (.ref b170), .val (.int mm), .val (.int (1 : Int32)), .val (.ref b183), .unset] [(.int (1 : Int32)), (.ref b140)])
      obtain ⟨cl188, Ar188, qk188, Sz188, Nn188, Hs188, Gf188⟩ := id V146_187
      have hin188 : ¬ ((1 : Int32) < 0 ∨ cl188.slots.size ≤ ((1 : Int32)).toNatClampNeg) := inb_of Sz188 ⟨by decide, by decide⟩
      have hat188 : cl188.slots[((1 : Int32)).toNatClampNeg]? = some (.int c1) := Has.at Hs188 hin188 rfl
      refine own_st (X183.baloadBytes hx (j := (1 : Int32)) (v := (.int c1)) (id Ar188.1) (State.isArrayOf_alike hZ.alike Ar188.2.1) Ar188.2.2 hin188 hat188 (g := (mkF m 326 #[.val (.int p0), .val (.int p1), .val (.int p2), .val (.int p3), .val (.int p4), .val (.int (2 : Int32)), .val (.int c0), .val (.int c1), .val (.int c2), .val (.ref b140), .val (.ref b148), .val (.int d0), .val (.int d1), .val (.int d2), .val (.ref b170), .val (.int mm), .val (.int (1 : Int32)), .val (.ref b183), .unset] [(.int (1 : Int32)), (.ref b140)])) rfl rfl (hb hby at_326)) ?_
      show own_Go _ _ _ _ T183 (mkF m 327 #[.val (.int p0), .val (.int p1), .val (.int p2), .val (.int p3), .val (.int p4), .val (.int (2 : Int32)), .val (.int c0), .val (.int c1), .val (.int c2), .val (.ref b140), .val (.ref b148), .val (.int d0), .val (.int d1), .val (.int d2), .val (.ref b170), .val (.int mm), .val (.int (1 : Int32)), .val (.ref b183), .unset] [(.int c1)])
      refine own_st (fun t k => XS.iload X183.here hx rfl (hb hby at_327) rfl k) ?_
      refine own_st (fun t k => XS.icmpNo X183.here hx rfl (hb hby at_329) rfl (teq rfl).2 k) ?_
      show own_Go _ _ _ _ T183 (mkF m 332 #[.val (.int p0), .val (.int p1), .val (.int p2), .val (.int p3), .val (.int p4), .val (.int (2 : Int32)), .val (.int c0), .val (.int c1), .val (.int c2), .val (.ref b140), .val (.ref b148), .val (.int d0), .val (.int d1), .val (.int d2), .val (.ref b170), .val (.int mm), .val (.int (1 : Int32)), .val (.ref b183), .unset] [])
      refine own_st (fun t k => XS.iload X183.here hx rfl (hb hby at_332) rfl k) ?_
      refine own_st (fun t k => XS.iconst X183.here hx rfl (hb hby at_334) k) ?_
      refine own_st (fun t k => XS.icmpYes X183.here hx rfl (pc0 := 335) (pc' := 347) rfl (hb hby at_335) rfl (tlt (by decide : (2 : Int32) < (3 : Int32))).1 (by decide) (by decide) k) ?_
      show own_Go _ _ _ _ T183 (mkF m 347 #[.val (.int p0), .val (.int p1), .val (.int p2), .val (.int p3), .val (.int p4), .val (.int (2 : Int32)), .val (.int c0), .val (.int c1), .val (.int c2), .val (.ref b140), .val (.ref b148), .val (.int d0), .val (.int d1), .val (.int d2), .val (.ref b170), .val (.int mm), .val (.int (1 : Int32)), .val (.ref b183), .unset] [])
      refine own_st (fun t k => XS.iconst X183.here hx rfl (hb hby at_347) k) ?_
      refine own_st (fun t k => XS.goto X183.here hx rfl (pc0 := 348) (pc' := 352) rfl (hb hby at_348) (by decide) (by decide) k) ?_
      show own_Go _ _ _ _ T183 (mkF m 352 #[.val (.int p0), .val (.int p1), .val (.int p2), .val (.int p3), .val (.int p4), .val (.int (2 : Int32)), .val (.int c0), .val (.int c1), .val (.int c2), .val (.ref b140), .val (.ref b148), .val (.int d0), .val (.int d1), .val (.int d2), .val (.ref b170), .val (.int mm), .val (.int (1 : Int32)), .val (.ref b183), .unset] [(.int (1 : Int32))])
      refine own_st (fun t k => XS.istore X183.here hx rfl (hb hby at_352) rfl (l' := #[.val (.int p0), .val (.int p1), .val (.int p2), .val (.int p3), .val (.int p4), .val (.int (2 : Int32)), .val (.int c0), .val (.int c1), .val (.int c2), .val (.ref b140), .val (.ref b148), .val (.int d0), .val (.int d1), .val (.int d2), .val (.ref b170), .val (.int mm), .val (.int (1 : Int32)), .val (.ref b183), .val (.int (1 : Int32))]) rfl k) ?_
      show own_Go _ _ _ _ T183 (mkF m 354 #[.val (.int p0), .val (.int p1), .val (.int p2), .val (.int p3), .val (.int p4), .val (.int (2 : Int32)), .val (.int c0), .val (.int c1), .val (.int c2), .val (.ref b140), .val (.ref b148), .val (.int d0), .val (.int d1), .val (.int d2), .val (.ref b170), .val (.int mm), .val (.int (1 : Int32)), .val (.ref b183), .val (.int (1 : Int32))] [])
      obtain ⟨cr, Arr_r, -, Szr, -, Hsr, -⟩ := id V183
      have Vx_189 := (Vx.keep K183 nin0)
      obtain ⟨ce, Arr_e, -, Sze, -, Hse, -⟩ := id Vx_189
      have h9 := own_flat9 (own_kf ck) (bs := [c0, c1]) (Nat.le_of_ble_eq_true rfl)
      refine own_st (fun t k => XS.iload X183.here hx rfl (hb hby at_354) rfl k) ?_
      refine own_st (fun t k => XS.ifNo X183.here hx rfl (hb hby at_356) rfl ((if0 _ _).trans (feq (by decide : ¬ ((1 : Int32) = (0 : Int32)))).1) k) ?_
      show own_Go _ _ _ _ T183 (mkF m 359 #[.val (.int p0), .val (.int p1), .val (.int p2), .val (.int p3), .val (.int p4), .val (.int (2 : Int32)), .val (.int c0), .val (.int c1), .val (.int c2), .val (.ref b140), .val (.ref b148), .val (.int d0), .val (.int d1), .val (.int d2), .val (.ref b170), .val (.int mm), .val (.int (1 : Int32)), .val (.ref b183), .val (.int (1 : Int32))] [])
      refine own_st (fun t k => XS.aload X183.here hx rfl (hb hby at_359) rfl rfl k) ?_
      refine own_st (fun t k => XS.aload X183.here hx rfl (hb hby at_361) rfl rfl k) ?_
      refine own_st (fun t k => XS.iconst X183.here hx rfl (hb hby at_363) k) ?_
      refine own_st (fun t k => XS.iload X183.here hx rfl (hb hby at_364) rfl k) ?_
      show own_Go _ _ _ _ T183 (mkF m 366 #[.val (.int p0), .val (.int p1), .val (.int p2), .val (.int p3), .val (.int p4), .val (.int (2 : Int32)), .val (.int c0), .val (.int c1), .val (.int c2), .val (.ref b140), .val (.ref b148), .val (.int d0), .val (.int d1), .val (.int d2), .val (.ref b170), .val (.int mm), .val (.int (1 : Int32)), .val (.ref b183), .val (.int (1 : Int32))] [(.int mm), (.int (0 : Int32)), (.ref b170), (.ref b183)])
      have K0_191 := (K0_184.trans K183 (all0))
      obtain ⟨_, _, ⟨T190, L190, k190, n190⟩, -, X190, ⟨Lc190, hQ190, l190, y190, z190⟩, st190⟩ := Jvm.LawKit.callS X183 hx (y := (⟨"shelfmark/IriPatternPercentEncodedPinLaw", "same", "([B[BII)Z"⟩ : MethodName)) hown (mvT hZ (hw _ (List.mem_of_getElem? (i := 15) rfl))) (mvT hZ (hw _ (List.mem_of_getElem? (i := 16) rfl))) (mvT hZ (hw _ (List.mem_of_getElem? (i := 4) rfl))) (mvT hZ (hw _ (List.mem_of_getElem? (i := 17) rfl))) (by decide) (backOf (W := 0) (rm4 l Z a0 hw [] b183 b170 (0 : Int32) mm cr ce  T183.heap n0 (Nat.le_trans Z0 K0_191.1) Arr_r Arr_e (by rw [hmm]; exact own_hs h9 Szr Hsr Sze Hse 0 (by decide))) hZ (hw _ (List.mem_of_getElem? (i := 17) rfl)) (hw _ (List.mem_of_getElem? (i := 4) rfl)) (by decide) (by decide)) (g := (mkF m 366 #[.val (.int p0), .val (.int p1), .val (.int p2), .val (.int p3), .val (.int p4), .val (.int (2 : Int32)), .val (.int c0), .val (.int c1), .val (.int c2), .val (.ref b140), .val (.ref b148), .val (.int d0), .val (.int d1), .val (.int d2), .val (.ref b170), .val (.int mm), .val (.int (1 : Int32)), .val (.ref b183), .val (.int (1 : Int32))] [(.int mm), (.int (0 : Int32)), (.ref b170), (.ref b183)])) rfl (by rw [hml]; rfl) (argsL := [(.ref b183), (.ref b170), (.int (0 : Int32)), (.int mm)]) (rest := []) (lenOf pd__28_5bB_5bBII_29Z rfl) rfl (by show 2 * 0 + _ ≤ _; exact Nat.le_of_eq rfl) (hb hby at_366) (fun _ _ => ⟨rfl, rfl, (by decide : 4 + 0 ≤ _), (by decide : 276 + 0 ≤ _)⟩)
      dsimp only [Pt.U, Pt.locs, Pt.cells, Pt.slots] at X190 l190 y190 z190 st190 hQ190
      subst l190 y190 z190
      obtain ⟨rfl, N190q, e190⟩ := hQ190
      obtain ⟨_, X190, N190⟩ := own_hide X190 (Fr.app N183 N190q)
      refine own_st st190 ?_
      show own_Go _ _ _ _ T190 (mkF m 369 #[.val (.int p0), .val (.int p1), .val (.int p2), .val (.int p3), .val (.int p4), .val (.int (2 : Int32)), .val (.int c0), .val (.int c1), .val (.int c2), .val (.ref b140), .val (.ref b148), .val (.int d0), .val (.int d1), .val (.int d2), .val (.ref b170), .val (.int mm), .val (.int (1 : Int32)), .val (.ref b183), .val (.int (1 : Int32))] [(.int (1 : Int32))])
      refine own_st (fun t k => XS.ifNo X190.here hx rfl (hb hby at_369) rfl ((if0 _ _).trans (feq (by decide : ¬ ((1 : Int32) = (0 : Int32)))).1) k) ?_
      show own_Go _ _ _ _ T190 (mkF m 372 #[.val (.int p0), .val (.int p1), .val (.int p2), .val (.int p3), .val (.int p4), .val (.int (2 : Int32)), .val (.int c0), .val (.int c1), .val (.int c2), .val (.ref b140), .val (.ref b148), .val (.int d0), .val (.int d1), .val (.int d2), .val (.ref b170), .val (.int mm), .val (.int (1 : Int32)), .val (.ref b183), .val (.int (1 : Int32))] [])
      refine own_st (fun t k => XS.aload X190.here hx rfl (hb hby at_372) rfl rfl k) ?_
      refine own_st (fun t k => XS.aload X190.here hx rfl (hb hby at_374) rfl rfl k) ?_
      refine own_st (fun t k => XS.iconst X190.here hx rfl (hb hby at_376) k) ?_
      refine own_st (fun t k => XS.iload X190.here hx rfl (hb hby at_377) rfl k) ?_
      show own_Go _ _ _ _ T190 (mkF m 379 #[.val (.int p0), .val (.int p1), .val (.int p2), .val (.int p3), .val (.int p4), .val (.int (2 : Int32)), .val (.int c0), .val (.int c1), .val (.int c2), .val (.ref b140), .val (.ref b148), .val (.int d0), .val (.int d1), .val (.int d2), .val (.ref b170), .val (.int mm), .val (.int (1 : Int32)), .val (.ref b183), .val (.int (1 : Int32))] [(.int mm), (.int (1 : Int32)), (.ref b170), (.ref b183)])
      obtain ⟨_, _, ⟨T192, L192, k192, n192⟩, -, X192, ⟨Lc192, hQ192, l192, y192, z192⟩, st192⟩ := Jvm.LawKit.callS X190 hx (y := (⟨"shelfmark/IriPatternPercentEncodedPinLaw", "same", "([B[BII)Z"⟩ : MethodName)) hown (mvT hZ (hw _ (List.mem_of_getElem? (i := 15) rfl))) (mvT hZ (hw _ (List.mem_of_getElem? (i := 16) rfl))) (mvT hZ (hw _ (List.mem_of_getElem? (i := 4) rfl))) (mvT hZ (hw _ (List.mem_of_getElem? (i := 17) rfl))) (by decide) (backOf (W := 0) (rm4 l Z a0 hw [] b183 b170 (1 : Int32) mm cr ce  T183.heap n0 (Nat.le_trans Z0 K0_191.1) Arr_r Arr_e (by rw [hmm]; exact own_hs h9 Szr Hsr Sze Hse 1 (by decide))) hZ (hw _ (List.mem_of_getElem? (i := 17) rfl)) (hw _ (List.mem_of_getElem? (i := 4) rfl)) (by decide) (by decide)) (g := (mkF m 379 #[.val (.int p0), .val (.int p1), .val (.int p2), .val (.int p3), .val (.int p4), .val (.int (2 : Int32)), .val (.int c0), .val (.int c1), .val (.int c2), .val (.ref b140), .val (.ref b148), .val (.int d0), .val (.int d1), .val (.int d2), .val (.ref b170), .val (.int mm), .val (.int (1 : Int32)), .val (.ref b183), .val (.int (1 : Int32))] [(.int mm), (.int (1 : Int32)), (.ref b170), (.ref b183)])) rfl (by rw [hml]; rfl) (argsL := [(.ref b183), (.ref b170), (.int (1 : Int32)), (.int mm)]) (rest := []) (lenOf pd__28_5bB_5bBII_29Z rfl) rfl (by show 2 * 0 + _ ≤ _; exact Nat.le_of_eq rfl) (hb hby at_379) (fun _ _ => ⟨rfl, e190, (by decide : 4 + 0 ≤ _), (by decide : 276 + 0 ≤ _)⟩)
      dsimp only [Pt.U, Pt.locs, Pt.cells, Pt.slots] at X192 l192 y192 z192 st192 hQ192
      subst l192 y192 z192
      obtain ⟨rfl, N192q, e192⟩ := hQ192
      obtain ⟨_, X192, N192⟩ := own_hide X192 (Fr.app N190 N192q)
      refine own_st st192 ?_
      show own_Go _ _ _ _ T192 (mkF m 382 #[.val (.int p0), .val (.int p1), .val (.int p2), .val (.int p3), .val (.int p4), .val (.int (2 : Int32)), .val (.int c0), .val (.int c1), .val (.int c2), .val (.ref b140), .val (.ref b148), .val (.int d0), .val (.int d1), .val (.int d2), .val (.ref b170), .val (.int mm), .val (.int (1 : Int32)), .val (.ref b183), .val (.int (1 : Int32))] [(.int (1 : Int32))])
      refine own_st (fun t k => XS.ifNo X192.here hx rfl (hb hby at_382) rfl ((if0 _ _).trans (feq (by decide : ¬ ((1 : Int32) = (0 : Int32)))).1) k) ?_
      show own_Go _ _ _ _ T192 (mkF m 385 #[.val (.int p0), .val (.int p1), .val (.int p2), .val (.int p3), .val (.int p4), .val (.int (2 : Int32)), .val (.int c0), .val (.int c1), .val (.int c2), .val (.ref b140), .val (.ref b148), .val (.int d0), .val (.int d1), .val (.int d2), .val (.ref b170), .val (.int mm), .val (.int (1 : Int32)), .val (.ref b183), .val (.int (1 : Int32))] [])
      refine own_st (fun t k => XS.aload X192.here hx rfl (hb hby at_385) rfl rfl k) ?_
      refine own_st (fun t k => XS.aload X192.here hx rfl (hb hby at_387) rfl rfl k) ?_
      refine own_st (fun t k => XS.iconst X192.here hx rfl (hb hby at_389) k) ?_
      refine own_st (fun t k => XS.iload X192.here hx rfl (hb hby at_390) rfl k) ?_
      show own_Go _ _ _ _ T192 (mkF m 392 #[.val (.int p0), .val (.int p1), .val (.int p2), .val (.int p3), .val (.int p4), .val (.int (2 : Int32)), .val (.int c0), .val (.int c1), .val (.int c2), .val (.ref b140), .val (.ref b148), .val (.int d0), .val (.int d1), .val (.int d2), .val (.ref b170), .val (.int mm), .val (.int (1 : Int32)), .val (.ref b183), .val (.int (1 : Int32))] [(.int mm), (.int (2 : Int32)), (.ref b170), (.ref b183)])
      obtain ⟨_, _, ⟨T193, L193, k193, n193⟩, -, X193, ⟨Lc193, hQ193, l193, y193, z193⟩, st193⟩ := Jvm.LawKit.callS X192 hx (y := (⟨"shelfmark/IriPatternPercentEncodedPinLaw", "same", "([B[BII)Z"⟩ : MethodName)) hown (mvT hZ (hw _ (List.mem_of_getElem? (i := 15) rfl))) (mvT hZ (hw _ (List.mem_of_getElem? (i := 16) rfl))) (mvT hZ (hw _ (List.mem_of_getElem? (i := 4) rfl))) (mvT hZ (hw _ (List.mem_of_getElem? (i := 17) rfl))) (by decide) (backOf (W := 0) (rm4 l Z a0 hw [] b183 b170 (2 : Int32) mm cr ce  T183.heap n0 (Nat.le_trans Z0 K0_191.1) Arr_r Arr_e (by rw [hmm]; exact own_hs h9 Szr Hsr Sze Hse 2 (by decide))) hZ (hw _ (List.mem_of_getElem? (i := 17) rfl)) (hw _ (List.mem_of_getElem? (i := 4) rfl)) (by decide) (by decide)) (g := (mkF m 392 #[.val (.int p0), .val (.int p1), .val (.int p2), .val (.int p3), .val (.int p4), .val (.int (2 : Int32)), .val (.int c0), .val (.int c1), .val (.int c2), .val (.ref b140), .val (.ref b148), .val (.int d0), .val (.int d1), .val (.int d2), .val (.ref b170), .val (.int mm), .val (.int (1 : Int32)), .val (.ref b183), .val (.int (1 : Int32))] [(.int mm), (.int (2 : Int32)), (.ref b170), (.ref b183)])) rfl (by rw [hml]; rfl) (argsL := [(.ref b183), (.ref b170), (.int (2 : Int32)), (.int mm)]) (rest := []) (lenOf pd__28_5bB_5bBII_29Z rfl) rfl (by show 2 * 0 + _ ≤ _; exact Nat.le_of_eq rfl) (hb hby at_392) (fun _ _ => ⟨rfl, e192, (by decide : 4 + 0 ≤ _), (by decide : 276 + 0 ≤ _)⟩)
      dsimp only [Pt.U, Pt.locs, Pt.cells, Pt.slots] at X193 l193 y193 z193 st193 hQ193
      subst l193 y193 z193
      obtain ⟨rfl, N193q, e193⟩ := hQ193
      obtain ⟨_, X193, N193⟩ := own_hide X193 (Fr.app N192 N193q)
      refine own_st st193 ?_
      show own_Go _ _ _ _ T193 (mkF m 395 #[.val (.int p0), .val (.int p1), .val (.int p2), .val (.int p3), .val (.int p4), .val (.int (2 : Int32)), .val (.int c0), .val (.int c1), .val (.int c2), .val (.ref b140), .val (.ref b148), .val (.int d0), .val (.int d1), .val (.int d2), .val (.ref b170), .val (.int mm), .val (.int (1 : Int32)), .val (.ref b183), .val (.int (1 : Int32))] [(.int (1 : Int32))])
      refine own_st (fun t k => XS.ifNo X193.here hx rfl (hb hby at_395) rfl ((if0 _ _).trans (feq (by decide : ¬ ((1 : Int32) = (0 : Int32)))).1) k) ?_
      show own_Go _ _ _ _ T193 (mkF m 398 #[.val (.int p0), .val (.int p1), .val (.int p2), .val (.int p3), .val (.int p4), .val (.int (2 : Int32)), .val (.int c0), .val (.int c1), .val (.int c2), .val (.ref b140), .val (.ref b148), .val (.int d0), .val (.int d1), .val (.int d2), .val (.ref b170), .val (.int mm), .val (.int (1 : Int32)), .val (.ref b183), .val (.int (1 : Int32))] [])
      refine own_st (fun t k => XS.aload X193.here hx rfl (hb hby at_398) rfl rfl k) ?_
      refine own_st (fun t k => XS.aload X193.here hx rfl (hb hby at_400) rfl rfl k) ?_
      refine own_st (fun t k => XS.iconst X193.here hx rfl (hb hby at_402) k) ?_
      refine own_st (fun t k => XS.iload X193.here hx rfl (hb hby at_403) rfl k) ?_
      show own_Go _ _ _ _ T193 (mkF m 405 #[.val (.int p0), .val (.int p1), .val (.int p2), .val (.int p3), .val (.int p4), .val (.int (2 : Int32)), .val (.int c0), .val (.int c1), .val (.int c2), .val (.ref b140), .val (.ref b148), .val (.int d0), .val (.int d1), .val (.int d2), .val (.ref b170), .val (.int mm), .val (.int (1 : Int32)), .val (.ref b183), .val (.int (1 : Int32))] [(.int mm), (.int (3 : Int32)), (.ref b170), (.ref b183)])
      obtain ⟨_, _, ⟨T194, L194, k194, n194⟩, -, X194, ⟨Lc194, hQ194, l194, y194, z194⟩, st194⟩ := Jvm.LawKit.callS X193 hx (y := (⟨"shelfmark/IriPatternPercentEncodedPinLaw", "same", "([B[BII)Z"⟩ : MethodName)) hown (mvT hZ (hw _ (List.mem_of_getElem? (i := 15) rfl))) (mvT hZ (hw _ (List.mem_of_getElem? (i := 16) rfl))) (mvT hZ (hw _ (List.mem_of_getElem? (i := 4) rfl))) (mvT hZ (hw _ (List.mem_of_getElem? (i := 17) rfl))) (by decide) (backOf (W := 0) (rm4 l Z a0 hw [] b183 b170 (3 : Int32) mm cr ce  T183.heap n0 (Nat.le_trans Z0 K0_191.1) Arr_r Arr_e (by rw [hmm]; exact own_hs h9 Szr Hsr Sze Hse 3 (by decide))) hZ (hw _ (List.mem_of_getElem? (i := 17) rfl)) (hw _ (List.mem_of_getElem? (i := 4) rfl)) (by decide) (by decide)) (g := (mkF m 405 #[.val (.int p0), .val (.int p1), .val (.int p2), .val (.int p3), .val (.int p4), .val (.int (2 : Int32)), .val (.int c0), .val (.int c1), .val (.int c2), .val (.ref b140), .val (.ref b148), .val (.int d0), .val (.int d1), .val (.int d2), .val (.ref b170), .val (.int mm), .val (.int (1 : Int32)), .val (.ref b183), .val (.int (1 : Int32))] [(.int mm), (.int (3 : Int32)), (.ref b170), (.ref b183)])) rfl (by rw [hml]; rfl) (argsL := [(.ref b183), (.ref b170), (.int (3 : Int32)), (.int mm)]) (rest := []) (lenOf pd__28_5bB_5bBII_29Z rfl) rfl (by show 2 * 0 + _ ≤ _; exact Nat.le_of_eq rfl) (hb hby at_405) (fun _ _ => ⟨rfl, e193, (by decide : 4 + 0 ≤ _), (by decide : 276 + 0 ≤ _)⟩)
      dsimp only [Pt.U, Pt.locs, Pt.cells, Pt.slots] at X194 l194 y194 z194 st194 hQ194
      subst l194 y194 z194
      obtain ⟨rfl, N194q, e194⟩ := hQ194
      obtain ⟨_, X194, N194⟩ := own_hide X194 (Fr.app N193 N194q)
      refine own_st st194 ?_
      show own_Go _ _ _ _ T194 (mkF m 408 #[.val (.int p0), .val (.int p1), .val (.int p2), .val (.int p3), .val (.int p4), .val (.int (2 : Int32)), .val (.int c0), .val (.int c1), .val (.int c2), .val (.ref b140), .val (.ref b148), .val (.int d0), .val (.int d1), .val (.int d2), .val (.ref b170), .val (.int mm), .val (.int (1 : Int32)), .val (.ref b183), .val (.int (1 : Int32))] [(.int (1 : Int32))])
      refine own_st (fun t k => XS.ifNo X194.here hx rfl (hb hby at_408) rfl ((if0 _ _).trans (feq (by decide : ¬ ((1 : Int32) = (0 : Int32)))).1) k) ?_
      show own_Go _ _ _ _ T194 (mkF m 411 #[.val (.int p0), .val (.int p1), .val (.int p2), .val (.int p3), .val (.int p4), .val (.int (2 : Int32)), .val (.int c0), .val (.int c1), .val (.int c2), .val (.ref b140), .val (.ref b148), .val (.int d0), .val (.int d1), .val (.int d2), .val (.ref b170), .val (.int mm), .val (.int (1 : Int32)), .val (.ref b183), .val (.int (1 : Int32))] [])
      refine own_st (fun t k => XS.aload X194.here hx rfl (hb hby at_411) rfl rfl k) ?_
      refine own_st (fun t k => XS.aload X194.here hx rfl (hb hby at_413) rfl rfl k) ?_
      refine own_st (fun t k => XS.iconst X194.here hx rfl (hb hby at_415) k) ?_
      refine own_st (fun t k => XS.iload X194.here hx rfl (hb hby at_416) rfl k) ?_
      show own_Go _ _ _ _ T194 (mkF m 418 #[.val (.int p0), .val (.int p1), .val (.int p2), .val (.int p3), .val (.int p4), .val (.int (2 : Int32)), .val (.int c0), .val (.int c1), .val (.int c2), .val (.ref b140), .val (.ref b148), .val (.int d0), .val (.int d1), .val (.int d2), .val (.ref b170), .val (.int mm), .val (.int (1 : Int32)), .val (.ref b183), .val (.int (1 : Int32))] [(.int mm), (.int (4 : Int32)), (.ref b170), (.ref b183)])
      obtain ⟨_, _, ⟨T195, L195, k195, n195⟩, -, X195, ⟨Lc195, hQ195, l195, y195, z195⟩, st195⟩ := Jvm.LawKit.callS X194 hx (y := (⟨"shelfmark/IriPatternPercentEncodedPinLaw", "same", "([B[BII)Z"⟩ : MethodName)) hown (mvT hZ (hw _ (List.mem_of_getElem? (i := 15) rfl))) (mvT hZ (hw _ (List.mem_of_getElem? (i := 16) rfl))) (mvT hZ (hw _ (List.mem_of_getElem? (i := 4) rfl))) (mvT hZ (hw _ (List.mem_of_getElem? (i := 17) rfl))) (by decide) (backOf (W := 0) (rm4 l Z a0 hw [] b183 b170 (4 : Int32) mm cr ce  T183.heap n0 (Nat.le_trans Z0 K0_191.1) Arr_r Arr_e (by rw [hmm]; exact own_hs h9 Szr Hsr Sze Hse 4 (by decide))) hZ (hw _ (List.mem_of_getElem? (i := 17) rfl)) (hw _ (List.mem_of_getElem? (i := 4) rfl)) (by decide) (by decide)) (g := (mkF m 418 #[.val (.int p0), .val (.int p1), .val (.int p2), .val (.int p3), .val (.int p4), .val (.int (2 : Int32)), .val (.int c0), .val (.int c1), .val (.int c2), .val (.ref b140), .val (.ref b148), .val (.int d0), .val (.int d1), .val (.int d2), .val (.ref b170), .val (.int mm), .val (.int (1 : Int32)), .val (.ref b183), .val (.int (1 : Int32))] [(.int mm), (.int (4 : Int32)), (.ref b170), (.ref b183)])) rfl (by rw [hml]; rfl) (argsL := [(.ref b183), (.ref b170), (.int (4 : Int32)), (.int mm)]) (rest := []) (lenOf pd__28_5bB_5bBII_29Z rfl) rfl (by show 2 * 0 + _ ≤ _; exact Nat.le_of_eq rfl) (hb hby at_418) (fun _ _ => ⟨rfl, e194, (by decide : 4 + 0 ≤ _), (by decide : 276 + 0 ≤ _)⟩)
      dsimp only [Pt.U, Pt.locs, Pt.cells, Pt.slots] at X195 l195 y195 z195 st195 hQ195
      subst l195 y195 z195
      obtain ⟨rfl, N195q, e195⟩ := hQ195
      obtain ⟨_, X195, N195⟩ := own_hide X195 (Fr.app N194 N195q)
      refine own_st st195 ?_
      show own_Go _ _ _ _ T195 (mkF m 421 #[.val (.int p0), .val (.int p1), .val (.int p2), .val (.int p3), .val (.int p4), .val (.int (2 : Int32)), .val (.int c0), .val (.int c1), .val (.int c2), .val (.ref b140), .val (.ref b148), .val (.int d0), .val (.int d1), .val (.int d2), .val (.ref b170), .val (.int mm), .val (.int (1 : Int32)), .val (.ref b183), .val (.int (1 : Int32))] [(.int (1 : Int32))])
      refine own_st (fun t k => XS.ifNo X195.here hx rfl (hb hby at_421) rfl ((if0 _ _).trans (feq (by decide : ¬ ((1 : Int32) = (0 : Int32)))).1) k) ?_
      show own_Go _ _ _ _ T195 (mkF m 424 #[.val (.int p0), .val (.int p1), .val (.int p2), .val (.int p3), .val (.int p4), .val (.int (2 : Int32)), .val (.int c0), .val (.int c1), .val (.int c2), .val (.ref b140), .val (.ref b148), .val (.int d0), .val (.int d1), .val (.int d2), .val (.ref b170), .val (.int mm), .val (.int (1 : Int32)), .val (.ref b183), .val (.int (1 : Int32))] [])
      refine own_st (fun t k => XS.aload X195.here hx rfl (hb hby at_424) rfl rfl k) ?_
      refine own_st (fun t k => XS.aload X195.here hx rfl (hb hby at_426) rfl rfl k) ?_
      refine own_st (fun t k => XS.iconst X195.here hx rfl (hb hby at_428) k) ?_
      refine own_st (fun t k => XS.iload X195.here hx rfl (hb hby at_429) rfl k) ?_
      show own_Go _ _ _ _ T195 (mkF m 431 #[.val (.int p0), .val (.int p1), .val (.int p2), .val (.int p3), .val (.int p4), .val (.int (2 : Int32)), .val (.int c0), .val (.int c1), .val (.int c2), .val (.ref b140), .val (.ref b148), .val (.int d0), .val (.int d1), .val (.int d2), .val (.ref b170), .val (.int mm), .val (.int (1 : Int32)), .val (.ref b183), .val (.int (1 : Int32))] [(.int mm), (.int (5 : Int32)), (.ref b170), (.ref b183)])
      obtain ⟨_, _, ⟨T196, L196, k196, n196⟩, -, X196, ⟨Lc196, hQ196, l196, y196, z196⟩, st196⟩ := Jvm.LawKit.callS X195 hx (y := (⟨"shelfmark/IriPatternPercentEncodedPinLaw", "same", "([B[BII)Z"⟩ : MethodName)) hown (mvT hZ (hw _ (List.mem_of_getElem? (i := 15) rfl))) (mvT hZ (hw _ (List.mem_of_getElem? (i := 16) rfl))) (mvT hZ (hw _ (List.mem_of_getElem? (i := 4) rfl))) (mvT hZ (hw _ (List.mem_of_getElem? (i := 17) rfl))) (by decide) (backOf (W := 0) (rm4 l Z a0 hw [] b183 b170 (5 : Int32) mm cr ce  T183.heap n0 (Nat.le_trans Z0 K0_191.1) Arr_r Arr_e (by rw [hmm]; exact own_hs h9 Szr Hsr Sze Hse 5 (by decide))) hZ (hw _ (List.mem_of_getElem? (i := 17) rfl)) (hw _ (List.mem_of_getElem? (i := 4) rfl)) (by decide) (by decide)) (g := (mkF m 431 #[.val (.int p0), .val (.int p1), .val (.int p2), .val (.int p3), .val (.int p4), .val (.int (2 : Int32)), .val (.int c0), .val (.int c1), .val (.int c2), .val (.ref b140), .val (.ref b148), .val (.int d0), .val (.int d1), .val (.int d2), .val (.ref b170), .val (.int mm), .val (.int (1 : Int32)), .val (.ref b183), .val (.int (1 : Int32))] [(.int mm), (.int (5 : Int32)), (.ref b170), (.ref b183)])) rfl (by rw [hml]; rfl) (argsL := [(.ref b183), (.ref b170), (.int (5 : Int32)), (.int mm)]) (rest := []) (lenOf pd__28_5bB_5bBII_29Z rfl) rfl (by show 2 * 0 + _ ≤ _; exact Nat.le_of_eq rfl) (hb hby at_431) (fun _ _ => ⟨rfl, e195, (by decide : 4 + 0 ≤ _), (by decide : 276 + 0 ≤ _)⟩)
      dsimp only [Pt.U, Pt.locs, Pt.cells, Pt.slots] at X196 l196 y196 z196 st196 hQ196
      subst l196 y196 z196
      obtain ⟨rfl, N196q, e196⟩ := hQ196
      obtain ⟨_, X196, N196⟩ := own_hide X196 (Fr.app N195 N196q)
      refine own_st st196 ?_
      show own_Go _ _ _ _ T196 (mkF m 434 #[.val (.int p0), .val (.int p1), .val (.int p2), .val (.int p3), .val (.int p4), .val (.int (2 : Int32)), .val (.int c0), .val (.int c1), .val (.int c2), .val (.ref b140), .val (.ref b148), .val (.int d0), .val (.int d1), .val (.int d2), .val (.ref b170), .val (.int mm), .val (.int (1 : Int32)), .val (.ref b183), .val (.int (1 : Int32))] [(.int (1 : Int32))])
      refine own_st (fun t k => XS.ifNo X196.here hx rfl (hb hby at_434) rfl ((if0 _ _).trans (feq (by decide : ¬ ((1 : Int32) = (0 : Int32)))).1) k) ?_
      show own_Go _ _ _ _ T196 (mkF m 437 #[.val (.int p0), .val (.int p1), .val (.int p2), .val (.int p3), .val (.int p4), .val (.int (2 : Int32)), .val (.int c0), .val (.int c1), .val (.int c2), .val (.ref b140), .val (.ref b148), .val (.int d0), .val (.int d1), .val (.int d2), .val (.ref b170), .val (.int mm), .val (.int (1 : Int32)), .val (.ref b183), .val (.int (1 : Int32))] [])
      refine own_st (fun t k => XS.aload X196.here hx rfl (hb hby at_437) rfl rfl k) ?_
      refine own_st (fun t k => XS.aload X196.here hx rfl (hb hby at_439) rfl rfl k) ?_
      refine own_st (fun t k => XS.bipush X196.here hx rfl (hb hby at_441) k) ?_
      refine own_st (fun t k => XS.iload X196.here hx rfl (hb hby at_443) rfl k) ?_
      show own_Go _ _ _ _ T196 (mkF m 445 #[.val (.int p0), .val (.int p1), .val (.int p2), .val (.int p3), .val (.int p4), .val (.int (2 : Int32)), .val (.int c0), .val (.int c1), .val (.int c2), .val (.ref b140), .val (.ref b148), .val (.int d0), .val (.int d1), .val (.int d2), .val (.ref b170), .val (.int mm), .val (.int (1 : Int32)), .val (.ref b183), .val (.int (1 : Int32))] [(.int mm), (.int (6 : Int32)), (.ref b170), (.ref b183)])
      obtain ⟨_, _, ⟨T197, L197, k197, n197⟩, -, X197, ⟨Lc197, hQ197, l197, y197, z197⟩, st197⟩ := Jvm.LawKit.callS X196 hx (y := (⟨"shelfmark/IriPatternPercentEncodedPinLaw", "same", "([B[BII)Z"⟩ : MethodName)) hown (mvT hZ (hw _ (List.mem_of_getElem? (i := 15) rfl))) (mvT hZ (hw _ (List.mem_of_getElem? (i := 16) rfl))) (mvT hZ (hw _ (List.mem_of_getElem? (i := 4) rfl))) (mvT hZ (hw _ (List.mem_of_getElem? (i := 17) rfl))) (by decide) (backOf (W := 0) (rm4 l Z a0 hw [] b183 b170 (6 : Int32) mm cr ce  T183.heap n0 (Nat.le_trans Z0 K0_191.1) Arr_r Arr_e (by rw [hmm]; exact own_hs h9 Szr Hsr Sze Hse 6 (by decide))) hZ (hw _ (List.mem_of_getElem? (i := 17) rfl)) (hw _ (List.mem_of_getElem? (i := 4) rfl)) (by decide) (by decide)) (g := (mkF m 445 #[.val (.int p0), .val (.int p1), .val (.int p2), .val (.int p3), .val (.int p4), .val (.int (2 : Int32)), .val (.int c0), .val (.int c1), .val (.int c2), .val (.ref b140), .val (.ref b148), .val (.int d0), .val (.int d1), .val (.int d2), .val (.ref b170), .val (.int mm), .val (.int (1 : Int32)), .val (.ref b183), .val (.int (1 : Int32))] [(.int mm), (.int (6 : Int32)), (.ref b170), (.ref b183)])) rfl (by rw [hml]; rfl) (argsL := [(.ref b183), (.ref b170), (.int (6 : Int32)), (.int mm)]) (rest := []) (lenOf pd__28_5bB_5bBII_29Z rfl) rfl (by show 2 * 0 + _ ≤ _; exact Nat.le_of_eq rfl) (hb hby at_445) (fun _ _ => ⟨rfl, e196, (by decide : 4 + 0 ≤ _), (by decide : 276 + 0 ≤ _)⟩)
      dsimp only [Pt.U, Pt.locs, Pt.cells, Pt.slots] at X197 l197 y197 z197 st197 hQ197
      subst l197 y197 z197
      obtain ⟨rfl, N197q, e197⟩ := hQ197
      obtain ⟨_, X197, N197⟩ := own_hide X197 (Fr.app N196 N197q)
      refine own_st st197 ?_
      show own_Go _ _ _ _ T197 (mkF m 448 #[.val (.int p0), .val (.int p1), .val (.int p2), .val (.int p3), .val (.int p4), .val (.int (2 : Int32)), .val (.int c0), .val (.int c1), .val (.int c2), .val (.ref b140), .val (.ref b148), .val (.int d0), .val (.int d1), .val (.int d2), .val (.ref b170), .val (.int mm), .val (.int (1 : Int32)), .val (.ref b183), .val (.int (1 : Int32))] [(.int (1 : Int32))])
      refine own_st (fun t k => XS.ifNo X197.here hx rfl (hb hby at_448) rfl ((if0 _ _).trans (feq (by decide : ¬ ((1 : Int32) = (0 : Int32)))).1) k) ?_
      show own_Go _ _ _ _ T197 (mkF m 451 #[.val (.int p0), .val (.int p1), .val (.int p2), .val (.int p3), .val (.int p4), .val (.int (2 : Int32)), .val (.int c0), .val (.int c1), .val (.int c2), .val (.ref b140), .val (.ref b148), .val (.int d0), .val (.int d1), .val (.int d2), .val (.ref b170), .val (.int mm), .val (.int (1 : Int32)), .val (.ref b183), .val (.int (1 : Int32))] [])
      refine own_st (fun t k => XS.aload X197.here hx rfl (hb hby at_451) rfl rfl k) ?_
      refine own_st (fun t k => XS.aload X197.here hx rfl (hb hby at_453) rfl rfl k) ?_
      refine own_st (fun t k => XS.bipush X197.here hx rfl (hb hby at_455) k) ?_
      refine own_st (fun t k => XS.iload X197.here hx rfl (hb hby at_457) rfl k) ?_
      show own_Go _ _ _ _ T197 (mkF m 459 #[.val (.int p0), .val (.int p1), .val (.int p2), .val (.int p3), .val (.int p4), .val (.int (2 : Int32)), .val (.int c0), .val (.int c1), .val (.int c2), .val (.ref b140), .val (.ref b148), .val (.int d0), .val (.int d1), .val (.int d2), .val (.ref b170), .val (.int mm), .val (.int (1 : Int32)), .val (.ref b183), .val (.int (1 : Int32))] [(.int mm), (.int (7 : Int32)), (.ref b170), (.ref b183)])
      obtain ⟨_, _, ⟨T198, L198, k198, n198⟩, -, X198, ⟨Lc198, hQ198, l198, y198, z198⟩, st198⟩ := Jvm.LawKit.callS X197 hx (y := (⟨"shelfmark/IriPatternPercentEncodedPinLaw", "same", "([B[BII)Z"⟩ : MethodName)) hown (mvT hZ (hw _ (List.mem_of_getElem? (i := 15) rfl))) (mvT hZ (hw _ (List.mem_of_getElem? (i := 16) rfl))) (mvT hZ (hw _ (List.mem_of_getElem? (i := 4) rfl))) (mvT hZ (hw _ (List.mem_of_getElem? (i := 17) rfl))) (by decide) (backOf (W := 0) (rm4 l Z a0 hw [] b183 b170 (7 : Int32) mm cr ce  T183.heap n0 (Nat.le_trans Z0 K0_191.1) Arr_r Arr_e (by rw [hmm]; exact own_hs h9 Szr Hsr Sze Hse 7 (by decide))) hZ (hw _ (List.mem_of_getElem? (i := 17) rfl)) (hw _ (List.mem_of_getElem? (i := 4) rfl)) (by decide) (by decide)) (g := (mkF m 459 #[.val (.int p0), .val (.int p1), .val (.int p2), .val (.int p3), .val (.int p4), .val (.int (2 : Int32)), .val (.int c0), .val (.int c1), .val (.int c2), .val (.ref b140), .val (.ref b148), .val (.int d0), .val (.int d1), .val (.int d2), .val (.ref b170), .val (.int mm), .val (.int (1 : Int32)), .val (.ref b183), .val (.int (1 : Int32))] [(.int mm), (.int (7 : Int32)), (.ref b170), (.ref b183)])) rfl (by rw [hml]; rfl) (argsL := [(.ref b183), (.ref b170), (.int (7 : Int32)), (.int mm)]) (rest := []) (lenOf pd__28_5bB_5bBII_29Z rfl) rfl (by show 2 * 0 + _ ≤ _; exact Nat.le_of_eq rfl) (hb hby at_459) (fun _ _ => ⟨rfl, e197, (by decide : 4 + 0 ≤ _), (by decide : 276 + 0 ≤ _)⟩)
      dsimp only [Pt.U, Pt.locs, Pt.cells, Pt.slots] at X198 l198 y198 z198 st198 hQ198
      subst l198 y198 z198
      obtain ⟨rfl, N198q, e198⟩ := hQ198
      obtain ⟨_, X198, N198⟩ := own_hide X198 (Fr.app N197 N198q)
      refine own_st st198 ?_
      show own_Go _ _ _ _ T198 (mkF m 462 #[.val (.int p0), .val (.int p1), .val (.int p2), .val (.int p3), .val (.int p4), .val (.int (2 : Int32)), .val (.int c0), .val (.int c1), .val (.int c2), .val (.ref b140), .val (.ref b148), .val (.int d0), .val (.int d1), .val (.int d2), .val (.ref b170), .val (.int mm), .val (.int (1 : Int32)), .val (.ref b183), .val (.int (1 : Int32))] [(.int (1 : Int32))])
      refine own_st (fun t k => XS.ifNo X198.here hx rfl (hb hby at_462) rfl ((if0 _ _).trans (feq (by decide : ¬ ((1 : Int32) = (0 : Int32)))).1) k) ?_
      show own_Go _ _ _ _ T198 (mkF m 465 #[.val (.int p0), .val (.int p1), .val (.int p2), .val (.int p3), .val (.int p4), .val (.int (2 : Int32)), .val (.int c0), .val (.int c1), .val (.int c2), .val (.ref b140), .val (.ref b148), .val (.int d0), .val (.int d1), .val (.int d2), .val (.ref b170), .val (.int mm), .val (.int (1 : Int32)), .val (.ref b183), .val (.int (1 : Int32))] [])
      refine own_st (fun t k => XS.aload X198.here hx rfl (hb hby at_465) rfl rfl k) ?_
      refine own_st (fun t k => XS.aload X198.here hx rfl (hb hby at_467) rfl rfl k) ?_
      refine own_st (fun t k => XS.bipush X198.here hx rfl (hb hby at_469) k) ?_
      refine own_st (fun t k => XS.iload X198.here hx rfl (hb hby at_471) rfl k) ?_
      show own_Go _ _ _ _ T198 (mkF m 473 #[.val (.int p0), .val (.int p1), .val (.int p2), .val (.int p3), .val (.int p4), .val (.int (2 : Int32)), .val (.int c0), .val (.int c1), .val (.int c2), .val (.ref b140), .val (.ref b148), .val (.int d0), .val (.int d1), .val (.int d2), .val (.ref b170), .val (.int mm), .val (.int (1 : Int32)), .val (.ref b183), .val (.int (1 : Int32))] [(.int mm), (.int (8 : Int32)), (.ref b170), (.ref b183)])
      obtain ⟨_, _, ⟨T199, L199, k199, n199⟩, -, X199, ⟨Lc199, hQ199, l199, y199, z199⟩, st199⟩ := Jvm.LawKit.callS X198 hx (y := (⟨"shelfmark/IriPatternPercentEncodedPinLaw", "same", "([B[BII)Z"⟩ : MethodName)) hown (mvT hZ (hw _ (List.mem_of_getElem? (i := 15) rfl))) (mvT hZ (hw _ (List.mem_of_getElem? (i := 16) rfl))) (mvT hZ (hw _ (List.mem_of_getElem? (i := 4) rfl))) (mvT hZ (hw _ (List.mem_of_getElem? (i := 17) rfl))) (by decide) (backOf (W := 0) (rm4 l Z a0 hw [] b183 b170 (8 : Int32) mm cr ce  T183.heap n0 (Nat.le_trans Z0 K0_191.1) Arr_r Arr_e (by rw [hmm]; exact own_hs h9 Szr Hsr Sze Hse 8 (by decide))) hZ (hw _ (List.mem_of_getElem? (i := 17) rfl)) (hw _ (List.mem_of_getElem? (i := 4) rfl)) (by decide) (by decide)) (g := (mkF m 473 #[.val (.int p0), .val (.int p1), .val (.int p2), .val (.int p3), .val (.int p4), .val (.int (2 : Int32)), .val (.int c0), .val (.int c1), .val (.int c2), .val (.ref b140), .val (.ref b148), .val (.int d0), .val (.int d1), .val (.int d2), .val (.ref b170), .val (.int mm), .val (.int (1 : Int32)), .val (.ref b183), .val (.int (1 : Int32))] [(.int mm), (.int (8 : Int32)), (.ref b170), (.ref b183)])) rfl (by rw [hml]; rfl) (argsL := [(.ref b183), (.ref b170), (.int (8 : Int32)), (.int mm)]) (rest := []) (lenOf pd__28_5bB_5bBII_29Z rfl) rfl (by show 2 * 0 + _ ≤ _; exact Nat.le_of_eq rfl) (hb hby at_473) (fun _ _ => ⟨rfl, e198, (by decide : 4 + 0 ≤ _), (by decide : 276 + 0 ≤ _)⟩)
      dsimp only [Pt.U, Pt.locs, Pt.cells, Pt.slots] at X199 l199 y199 z199 st199 hQ199
      subst l199 y199 z199
      obtain ⟨rfl, N199q, e199⟩ := hQ199
      obtain ⟨_, X199, N199⟩ := own_hide X199 (Fr.app N198 N199q)
      refine own_st st199 ?_
      show own_Go _ _ _ _ T199 (mkF m 476 #[.val (.int p0), .val (.int p1), .val (.int p2), .val (.int p3), .val (.int p4), .val (.int (2 : Int32)), .val (.int c0), .val (.int c1), .val (.int c2), .val (.ref b140), .val (.ref b148), .val (.int d0), .val (.int d1), .val (.int d2), .val (.ref b170), .val (.int mm), .val (.int (1 : Int32)), .val (.ref b183), .val (.int (1 : Int32))] [(.int (1 : Int32))])
      refine own_st (fun t k => XS.ifNo X199.here hx rfl (hb hby at_476) rfl ((if0 _ _).trans (feq (by decide : ¬ ((1 : Int32) = (0 : Int32)))).1) k) ?_
      show own_Go _ _ _ _ T199 (mkF m 479 #[.val (.int p0), .val (.int p1), .val (.int p2), .val (.int p3), .val (.int p4), .val (.int (2 : Int32)), .val (.int c0), .val (.int c1), .val (.int c2), .val (.ref b140), .val (.ref b148), .val (.int d0), .val (.int d1), .val (.int d2), .val (.ref b170), .val (.int mm), .val (.int (1 : Int32)), .val (.ref b183), .val (.int (1 : Int32))] [])
      refine own_st (fun t k => XS.iconst X199.here hx rfl (hb hby at_479) k) ?_
      refine own_st (fun t k => XS.goto X199.here hx rfl (pc0 := 480) (pc' := 484) rfl (hb hby at_480) (by decide) (by decide) k) ?_
      show own_Go _ _ _ _ T199 (mkF m 484 #[.val (.int p0), .val (.int p1), .val (.int p2), .val (.int p3), .val (.int p4), .val (.int (2 : Int32)), .val (.int c0), .val (.int c1), .val (.int c2), .val (.ref b140), .val (.ref b148), .val (.int d0), .val (.int d1), .val (.int d2), .val (.ref b170), .val (.int mm), .val (.int (1 : Int32)), .val (.ref b183), .val (.int (1 : Int32))] [(.int (1 : Int32))])
      exact own_retN X199 hx hlk (t := .boolean) hrt (by simp) (hb hby at_484) ⟨rfl, N199⟩ (by decide) (by decide)
    ·
      refine own_st (fun t k => XS.icmpYes X175.here hx rfl (pc0 := 254) (pc' := 261) rfl (hb hby at_254) rfl (feq c254_178).2 (by decide) (by decide) k) ?_
      show own_Go _ _ _ _ T175 (mkF m 261 #[.val (.int p0), .val (.int p1), .val (.int p2), .val (.int p3), .val (.int p4), .val (.int (2 : Int32)), .val (.int c0), .val (.int c1), .val (.int c2), .val (.ref b140), .val (.ref b148), .val (.int d0), .val (.int d1), .val (.int d2), .val (.ref b170), .val (.int mm), .unset, .unset, .unset] [])
      refine own_st (fun t k => XS.iconst X175.here hx rfl (hb hby at_261) k) ?_
      refine own_st (fun t k => XS.istore X175.here hx rfl (hb hby at_262) rfl (l' := #[.val (.int p0), .val (.int p1), .val (.int p2), .val (.int p3), .val (.int p4), .val (.int (2 : Int32)), .val (.int c0), .val (.int c1), .val (.int c2), .val (.ref b140), .val (.ref b148), .val (.int d0), .val (.int d1), .val (.int d2), .val (.ref b170), .val (.int mm), .val (.int (0 : Int32)), .unset, .unset]) rfl k) ?_
      show own_Go _ _ _ _ T175 (mkF m 264 #[.val (.int p0), .val (.int p1), .val (.int p2), .val (.int p3), .val (.int p4), .val (.int (2 : Int32)), .val (.int c0), .val (.int c1), .val (.int c2), .val (.ref b140), .val (.ref b148), .val (.int d0), .val (.int d1), .val (.int d2), .val (.ref b170), .val (.int mm), .val (.int (0 : Int32)), .unset, .unset] [])
      refine own_st (fun t k => XS.aload X175.here hx rfl (hb hby at_264) rfl rfl k) ?_
      refine own_st (fun t k => XS.aload X175.here hx rfl (hb hby at_266) rfl rfl k) ?_
      show own_Go _ _ _ _ T175 (mkF m 268 #[.val (.int p0), .val (.int p1), .val (.int p2), .val (.int p3), .val (.int p4), .val (.int (2 : Int32)), .val (.int c0), .val (.int c1), .val (.int c2), .val (.ref b140), .val (.ref b148), .val (.int d0), .val (.int d1), .val (.int d2), .val (.ref b170), .val (.int mm), .val (.int (0 : Int32)), .unset, .unset] [(.ref b148), (.ref b140)])
      have V146_200 := (((V146_172.ext E170).keep K173 (ninS ne_b140_b170 nin0)).keep K175 (ninS ne_b140_b170 nin0))
      have Ark_201 := (own_arr_keep (own_arr_keep (Tk.1.ext E170) K173 (ninS ne_b148_b170 nin0)) K175 (ninS ne_b148_b170 nin0))
      have Sh_202 := (own_sta_keep (own_sta_keep (((((((((S_H.ext E140).wr W143).wr W146).ext E148).wr W153).wr W157).wr W161).wr W165).ext E170) K173 ns173) K175 ns175)
      have Arh_203 := (own_arr_keep (own_arr_keep (Arh_171.ext E170) K173 (ninS ne_ra_b170 nin0)) K175 (ninS ne_ra_b170 nin0))
      have K0_205 := (K0_176.trans K175 (allS ((Or.inr sz_b170)) all0))
      obtain ⟨_, _, ⟨T204, L204, k204, n204⟩, -, X204, ⟨Lc204, hQ204, l204, y204, z204⟩, st204⟩ := Jvm.LawKit.callS X175 hx (y := (⟨"shelfmark/IriPattern", "percentEncoded", "([B[Z)[B"⟩ : MethodName)) hown (mvT hZ (hw _ (List.mem_of_getElem? (i := 9) rfl))) (mvT hZ (hw _ (List.mem_of_getElem? (i := 10) rfl))) (mvT hZ (hw _ (List.mem_of_getElem? (i := 11) rfl))) (mvT hZ (hw _ (List.mem_of_getElem? (i := 12) rfl))) (by decide) (backOf (W := 0) (rm3 l Z a0 hw [] b140 b148 k140 [c0, c1] ck ra ch  T175.heap n0 (Nat.le_trans Z0 K0_205.1) V146_200 (Nat.le_of_ble_eq_true rfl) (by intro b hb; simp only [List.mem_cons, List.not_mem_nil, or_false] at hb; rcases hb with rfl | rfl; all_goals assumption) ⟨Ark_201, Tk.2⟩ Sh_202 Arh_203 hH) hZ (hw _ (List.mem_of_getElem? (i := 12) rfl)) (hw _ (List.mem_of_getElem? (i := 11) rfl)) (by decide) (by decide)) (g := (mkF m 268 #[.val (.int p0), .val (.int p1), .val (.int p2), .val (.int p3), .val (.int p4), .val (.int (2 : Int32)), .val (.int c0), .val (.int c1), .val (.int c2), .val (.ref b140), .val (.ref b148), .val (.int d0), .val (.int d1), .val (.int d2), .val (.ref b170), .val (.int mm), .val (.int (0 : Int32)), .unset, .unset] [(.ref b148), (.ref b140)])) rfl (by rw [hml]; rfl) (argsL := [(.ref b140), (.ref b148)]) (rest := []) (lenOf pd__28_5bB_5bZ_29_5bB rfl) rfl (by show 2 * 0 + _ ≤ _; exact Nat.le_of_eq rfl) (hb hby at_268) (fun _ _ => ⟨rfl, rfl, (by decide : 3 + 1 ≤ _), (by decide : 267 + 9 ≤ _)⟩)
      dsimp only [Pt.U, Pt.locs, Pt.cells, Pt.slots] at X204 l204 y204 z204 st204 hQ204
      subst l204 y204 z204
      obtain ⟨b204, k204, rfl, N204q, K204, hbu, V204⟩ := hQ204
      obtain ⟨_, X204, N204⟩ := own_hide X204 (Fr.app N175 N204q)
      refine own_st st204 ?_
      show own_Go _ _ _ _ T204 (mkF m 271 #[.val (.int p0), .val (.int p1), .val (.int p2), .val (.int p3), .val (.int p4), .val (.int (2 : Int32)), .val (.int c0), .val (.int c1), .val (.int c2), .val (.ref b140), .val (.ref b148), .val (.int d0), .val (.int d1), .val (.int d2), .val (.ref b170), .val (.int mm), .val (.int (0 : Int32)), .unset, .unset] [(.ref b204)])
      refine own_st (fun t k => XS.astore X204.here hx rfl (hb hby at_271) rfl rfl (l' := #[.val (.int p0), .val (.int p1), .val (.int p2), .val (.int p3), .val (.int p4), .val (.int (2 : Int32)), .val (.int c0), .val (.int c1), .val (.int c2), .val (.ref b140), .val (.ref b148), .val (.int d0), .val (.int d1), .val (.int d2), .val (.ref b170), .val (.int mm), .val (.int (0 : Int32)), .val (.ref b204), .unset]) rfl k) ?_
      show own_Go _ _ _ _ T204 (mkF m 273 #[.val (.int p0), .val (.int p1), .val (.int p2), .val (.int p3), .val (.int p4), .val (.int (2 : Int32)), .val (.int c0), .val (.int c1), .val (.int c2), .val (.ref b140), .val (.ref b148), .val (.int d0), .val (.int d1), .val (.int d2), .val (.ref b170), .val (.int mm), .val (.int (0 : Int32)), .val (.ref b204), .unset] [])
      refine own_st (fun t k => XS.aload X204.here hx rfl (hb hby at_273) rfl rfl k) ?_
      show own_Go _ _ _ _ T204 (mkF m 275 #[.val (.int p0), .val (.int p1), .val (.int p2), .val (.int p3), .val (.int p4), .val (.int (2 : Int32)), .val (.int c0), .val (.int c1), .val (.int c2), .val (.ref b140), .val (.ref b148), .val (.int d0), .val (.int d1), .val (.int d2), .val (.ref b170), .val (.int mm), .val (.int (0 : Int32)), .val (.ref b204), .unset] [(.ref b204)])
      refine own_st (fun t k => XS.ifnullNo X204.here hx rfl (hb hby at_275) rfl k) ?_
      show own_Go _ _ _ _ T204 (mkF m 278 #[.val (.int p0), .val (.int p1), .val (.int p2), .val (.int p3), .val (.int p4), .val (.int (2 : Int32)), .val (.int c0), .val (.int c1), .val (.int c2), .val (.ref b140), .val (.ref b148), .val (.int d0), .val (.int d1), .val (.int d2), .val (.ref b170), .val (.int mm), .val (.int (0 : Int32)), .val (.ref b204), .unset] [])
      refine own_st (fun t k => XS.aload X204.here hx rfl (hb hby at_278) rfl rfl k) ?_
      show own_Go _ _ _ _ T204 (mkF m 280 #[.val (.int p0), .val (.int p1), .val (.int p2), .val (.int p3), .val (.int p4), .val (.int (2 : Int32)), .val (.int c0), .val (.int c1), .val (.int c2), .val (.ref b140), .val (.ref b148), .val (.int d0), .val (.int d1), .val (.int d2), .val (.ref b170), .val (.int mm), .val (.int (0 : Int32)), .val (.ref b204), .unset] [(.ref b204)])
      obtain ⟨cl206, Ar206, qk206, Sz206, Nn206, Hs206, Gf206⟩ := id V204
      refine own_st (X204.arraylength hx (id Ar206.1) (State.isArrayOf_alike hZ.alike Ar206.2.1) (g := (mkF m 280 #[.val (.int p0), .val (.int p1), .val (.int p2), .val (.int p3), .val (.int p4), .val (.int (2 : Int32)), .val (.int c0), .val (.int c1), .val (.int c2), .val (.ref b140), .val (.ref b148), .val (.int d0), .val (.int d1), .val (.int d2), .val (.ref b170), .val (.int mm), .val (.int (0 : Int32)), .val (.ref b204), .unset] [(.ref b204)])) rfl rfl (hb hby at_280)) ?_
      rw [len_of Sz206 Nn206]
      show own_Go _ _ _ _ T204 (mkF m 281 #[.val (.int p0), .val (.int p1), .val (.int p2), .val (.int p3), .val (.int p4), .val (.int (2 : Int32)), .val (.int c0), .val (.int c1), .val (.int c2), .val (.ref b140), .val (.ref b148), .val (.int d0), .val (.int d1), .val (.int d2), .val (.ref b170), .val (.int mm), .val (.int (0 : Int32)), .val (.ref b204), .unset] [(.int (Int32.ofNat (own_flat (own_kf ck) [c0, c1]).length))])
      refine own_st (fun t k => XS.iload X204.here hx rfl (hb hby at_281) rfl k) ?_
      refine own_st (fun t k => XS.icmpYes X204.here hx rfl (pc0 := 283) (pc' := 288) rfl (hb hby at_283) rfl (teq hmm.symm).1 (by decide) (by decide) k) ?_
      show own_Go _ _ _ _ T204 (mkF m 288 #[.val (.int p0), .val (.int p1), .val (.int p2), .val (.int p3), .val (.int p4), .val (.int (2 : Int32)), .val (.int c0), .val (.int c1), .val (.int c2), .val (.ref b140), .val (.ref b148), .val (.int d0), .val (.int d1), .val (.int d2), .val (.ref b170), .val (.int mm), .val (.int (0 : Int32)), .val (.ref b204), .unset] [])
      refine own_st (fun t k => XS.iload X204.here hx rfl (hb hby at_288) rfl k) ?_
      refine own_st (fun t k => XS.ifYes X204.here hx rfl (pc0 := 290) (pc' := 302) rfl (hb hby at_290) rfl ((if0 _ _).trans (teq (by decide : (0 : Int32) = (0 : Int32))).1) (by decide) (by decide) k) ?_
      show own_Go _ _ _ _ T204 (mkF m 302 #[.val (.int p0), .val (.int p1), .val (.int p2), .val (.int p3), .val (.int p4), .val (.int (2 : Int32)), .val (.int c0), .val (.int c1), .val (.int c2), .val (.ref b140), .val (.ref b148), .val (.int d0), .val (.int d1), .val (.int d2), .val (.ref b170), .val (.int mm), .val (.int (0 : Int32)), .val (.ref b204), .unset] [])
      refine own_st (fun t k => XS.iload X204.here hx rfl (hb hby at_302) rfl k) ?_
      refine own_st (fun t k => XS.iconst X204.here hx rfl (hb hby at_304) k) ?_
      refine own_st (fun t k => XS.icmpNo X204.here hx rfl (hb hby at_305) rfl (flt (by decide : ¬ ((2 : Int32) < (1 : Int32)))).1 k) ?_
      show own_Go _ _ _ _ T204 (mkF m 308 #[.val (.int p0), .val (.int p1), .val (.int p2), .val (.int p3), .val (.int p4), .val (.int (2 : Int32)), .val (.int c0), .val (.int c1), .val (.int c2), .val (.ref b140), .val (.ref b148), .val (.int d0), .val (.int d1), .val (.int d2), .val (.ref b170), .val (.int mm), .val (.int (0 : Int32)), .val (.ref b204), .unset] [])
      refine own_st (fun t k => XS.aload X204.here hx rfl (hb hby at_308) rfl rfl k) ?_
      refine own_st (fun t k => XS.iconst X204.here hx rfl (hb hby at_310) k) ?_
      show own_Go _ _ _ _ T204 (mkF m 311 #[.val (.int p0), .val (.int p1), .val (.int p2), .val (.int p3), .val (.int p4), .val (.int (2 : Int32)), .val (.int c0), .val (.int c1), .val (.int c2), .val (.ref b140), .val (.ref b148), .val (.int d0), .val (.int d1), .val (.int d2), .val (.ref b170), .val (.int mm), .val (.int (0 : Int32)), .val (.ref b204), .unset] [(.int (0 : Int32)), (.ref b140)])
      have V146_208 := (V146_200.keep K204 nin0)
      obtain ⟨cl207, Ar207, qk207, Sz207, Nn207, Hs207, Gf207⟩ := id V146_208
      have hin207 : ¬ ((0 : Int32) < 0 ∨ cl207.slots.size ≤ ((0 : Int32)).toNatClampNeg) := inb_of Sz207 ⟨by decide, by decide⟩
      have hat207 : cl207.slots[((0 : Int32)).toNatClampNeg]? = some (.int c0) := Has.at Hs207 hin207 rfl
      refine own_st (X204.baloadBytes hx (j := (0 : Int32)) (v := (.int c0)) (id Ar207.1) (State.isArrayOf_alike hZ.alike Ar207.2.1) Ar207.2.2 hin207 hat207 (g := (mkF m 311 #[.val (.int p0), .val (.int p1), .val (.int p2), .val (.int p3), .val (.int p4), .val (.int (2 : Int32)), .val (.int c0), .val (.int c1), .val (.int c2), .val (.ref b140), .val (.ref b148), .val (.int d0), .val (.int d1), .val (.int d2), .val (.ref b170), .val (.int mm), .val (.int (0 : Int32)), .val (.ref b204), .unset] [(.int (0 : Int32)), (.ref b140)])) rfl rfl (hb hby at_311)) ?_
      show own_Go _ _ _ _ T204 (mkF m 312 #[.val (.int p0), .val (.int p1), .val (.int p2), .val (.int p3), .val (.int p4), .val (.int (2 : Int32)), .val (.int c0), .val (.int c1), .val (.int c2), .val (.ref b140), .val (.ref b148), .val (.int d0), .val (.int d1), .val (.int d2), .val (.ref b170), .val (.int mm), .val (.int (0 : Int32)), .val (.ref b204), .unset] [(.int c0)])
      refine own_st (fun t k => XS.iload X204.here hx rfl (hb hby at_312) rfl k) ?_
      refine own_st (fun t k => XS.icmpNo X204.here hx rfl (hb hby at_314) rfl (teq rfl).2 k) ?_
      show own_Go _ _ _ _ T204 (mkF m 317 #[.val (.int p0), .val (.int p1), .val (.int p2), .val (.int p3), .val (.int p4), .val (.int (2 : Int32)), .val (.int c0), .val (.int c1), .val (.int c2), .val (.ref b140), .val (.ref b148), .val (.int d0), .val (.int d1), .val (.int d2), .val (.ref b170), .val (.int mm), .val (.int (0 : Int32)), .val (.ref b204), .unset] [])
      refine own_st (fun t k => XS.iload X204.here hx rfl (hb hby at_317) rfl k) ?_
      refine own_st (fun t k => XS.iconst X204.here hx rfl (hb hby at_319) k) ?_
      refine own_st (fun t k => XS.icmpNo X204.here hx rfl (hb hby at_320) rfl (flt (by decide : ¬ ((2 : Int32) < (2 : Int32)))).1 k) ?_
      show own_Go _ _ _ _ T204 (mkF m 323 #[.val (.int p0), .val (.int p1), .val (.int p2), .val (.int p3), .val (.int p4), .val (.int (2 : Int32)), .val (.int c0), .val (.int c1), .val (.int c2), .val (.ref b140), .val (.ref b148), .val (.int d0), .val (.int d1), .val (.int d2), .val (.ref b170), .val (.int mm), .val (.int (0 : Int32)), .val (.ref b204), .unset] [])
      refine own_st (fun t k => XS.aload X204.here hx rfl (hb hby at_323) rfl rfl k) ?_
      refine own_st (fun t k => XS.iconst X204.here hx rfl (hb hby at_325) k) ?_
      show own_Go _ _ _ _ T204 (mkF m 326 #[.val (.int p0), .val (.int p1), .val (.int p2), .val (.int p3), .val (.int p4), .val (.int (2 : Int32)), .val (.int c0), .val (.int c1), .val (.int c2), .val (.ref b140), .val (.ref b148), .val (.int d0), .val (.int d1), .val (.int d2), .val (.ref b170), .val (.int mm), .val (.int (0 : Int32)), .val (.ref b204), .unset] [(.int (1 : Int32)), (.ref b140)])
      obtain ⟨cl209, Ar209, qk209, Sz209, Nn209, Hs209, Gf209⟩ := id V146_208
      have hin209 : ¬ ((1 : Int32) < 0 ∨ cl209.slots.size ≤ ((1 : Int32)).toNatClampNeg) := inb_of Sz209 ⟨by decide, by decide⟩
      have hat209 : cl209.slots[((1 : Int32)).toNatClampNeg]? = some (.int c1) := Has.at Hs209 hin209 rfl
      refine own_st (X204.baloadBytes hx (j := (1 : Int32)) (v := (.int c1)) (id Ar209.1) (State.isArrayOf_alike hZ.alike Ar209.2.1) Ar209.2.2 hin209 hat209 (g := (mkF m 326 #[.val (.int p0), .val (.int p1), .val (.int p2), .val (.int p3), .val (.int p4), .val (.int (2 : Int32)), .val (.int c0), .val (.int c1), .val (.int c2), .val (.ref b140), .val (.ref b148), .val (.int d0), .val (.int d1), .val (.int d2), .val (.ref b170), .val (.int mm), .val (.int (0 : Int32)), .val (.ref b204), .unset] [(.int (1 : Int32)), (.ref b140)])) rfl rfl (hb hby at_326)) ?_
      show own_Go _ _ _ _ T204 (mkF m 327 #[.val (.int p0), .val (.int p1), .val (.int p2), .val (.int p3), .val (.int p4), .val (.int (2 : Int32)), .val (.int c0), .val (.int c1), .val (.int c2), .val (.ref b140), .val (.ref b148), .val (.int d0), .val (.int d1), .val (.int d2), .val (.ref b170), .val (.int mm), .val (.int (0 : Int32)), .val (.ref b204), .unset] [(.int c1)])
      refine own_st (fun t k => XS.iload X204.here hx rfl (hb hby at_327) rfl k) ?_
      refine own_st (fun t k => XS.icmpNo X204.here hx rfl (hb hby at_329) rfl (teq rfl).2 k) ?_
      show own_Go _ _ _ _ T204 (mkF m 332 #[.val (.int p0), .val (.int p1), .val (.int p2), .val (.int p3), .val (.int p4), .val (.int (2 : Int32)), .val (.int c0), .val (.int c1), .val (.int c2), .val (.ref b140), .val (.ref b148), .val (.int d0), .val (.int d1), .val (.int d2), .val (.ref b170), .val (.int mm), .val (.int (0 : Int32)), .val (.ref b204), .unset] [])
      refine own_st (fun t k => XS.iload X204.here hx rfl (hb hby at_332) rfl k) ?_
      refine own_st (fun t k => XS.iconst X204.here hx rfl (hb hby at_334) k) ?_
      refine own_st (fun t k => XS.icmpYes X204.here hx rfl (pc0 := 335) (pc' := 347) rfl (hb hby at_335) rfl (tlt (by decide : (2 : Int32) < (3 : Int32))).1 (by decide) (by decide) k) ?_
      show own_Go _ _ _ _ T204 (mkF m 347 #[.val (.int p0), .val (.int p1), .val (.int p2), .val (.int p3), .val (.int p4), .val (.int (2 : Int32)), .val (.int c0), .val (.int c1), .val (.int c2), .val (.ref b140), .val (.ref b148), .val (.int d0), .val (.int d1), .val (.int d2), .val (.ref b170), .val (.int mm), .val (.int (0 : Int32)), .val (.ref b204), .unset] [])
      refine own_st (fun t k => XS.iconst X204.here hx rfl (hb hby at_347) k) ?_
      refine own_st (fun t k => XS.goto X204.here hx rfl (pc0 := 348) (pc' := 352) rfl (hb hby at_348) (by decide) (by decide) k) ?_
      show own_Go _ _ _ _ T204 (mkF m 352 #[.val (.int p0), .val (.int p1), .val (.int p2), .val (.int p3), .val (.int p4), .val (.int (2 : Int32)), .val (.int c0), .val (.int c1), .val (.int c2), .val (.ref b140), .val (.ref b148), .val (.int d0), .val (.int d1), .val (.int d2), .val (.ref b170), .val (.int mm), .val (.int (0 : Int32)), .val (.ref b204), .unset] [(.int (1 : Int32))])
      refine own_st (fun t k => XS.istore X204.here hx rfl (hb hby at_352) rfl (l' := #[.val (.int p0), .val (.int p1), .val (.int p2), .val (.int p3), .val (.int p4), .val (.int (2 : Int32)), .val (.int c0), .val (.int c1), .val (.int c2), .val (.ref b140), .val (.ref b148), .val (.int d0), .val (.int d1), .val (.int d2), .val (.ref b170), .val (.int mm), .val (.int (0 : Int32)), .val (.ref b204), .val (.int (1 : Int32))]) rfl k) ?_
      show own_Go _ _ _ _ T204 (mkF m 354 #[.val (.int p0), .val (.int p1), .val (.int p2), .val (.int p3), .val (.int p4), .val (.int (2 : Int32)), .val (.int c0), .val (.int c1), .val (.int c2), .val (.ref b140), .val (.ref b148), .val (.int d0), .val (.int d1), .val (.int d2), .val (.ref b170), .val (.int mm), .val (.int (0 : Int32)), .val (.ref b204), .val (.int (1 : Int32))] [])
      obtain ⟨cr, Arr_r, -, Szr, -, Hsr, -⟩ := id V204
      have Vx_210 := (Vx.keep K204 nin0)
      obtain ⟨ce, Arr_e, -, Sze, -, Hse, -⟩ := id Vx_210
      have h9 := own_flat9 (own_kf ck) (bs := [c0, c1]) (Nat.le_of_ble_eq_true rfl)
      refine own_st (fun t k => XS.iload X204.here hx rfl (hb hby at_354) rfl k) ?_
      refine own_st (fun t k => XS.ifNo X204.here hx rfl (hb hby at_356) rfl ((if0 _ _).trans (feq (by decide : ¬ ((1 : Int32) = (0 : Int32)))).1) k) ?_
      show own_Go _ _ _ _ T204 (mkF m 359 #[.val (.int p0), .val (.int p1), .val (.int p2), .val (.int p3), .val (.int p4), .val (.int (2 : Int32)), .val (.int c0), .val (.int c1), .val (.int c2), .val (.ref b140), .val (.ref b148), .val (.int d0), .val (.int d1), .val (.int d2), .val (.ref b170), .val (.int mm), .val (.int (0 : Int32)), .val (.ref b204), .val (.int (1 : Int32))] [])
      refine own_st (fun t k => XS.aload X204.here hx rfl (hb hby at_359) rfl rfl k) ?_
      refine own_st (fun t k => XS.aload X204.here hx rfl (hb hby at_361) rfl rfl k) ?_
      refine own_st (fun t k => XS.iconst X204.here hx rfl (hb hby at_363) k) ?_
      refine own_st (fun t k => XS.iload X204.here hx rfl (hb hby at_364) rfl k) ?_
      show own_Go _ _ _ _ T204 (mkF m 366 #[.val (.int p0), .val (.int p1), .val (.int p2), .val (.int p3), .val (.int p4), .val (.int (2 : Int32)), .val (.int c0), .val (.int c1), .val (.int c2), .val (.ref b140), .val (.ref b148), .val (.int d0), .val (.int d1), .val (.int d2), .val (.ref b170), .val (.int mm), .val (.int (0 : Int32)), .val (.ref b204), .val (.int (1 : Int32))] [(.int mm), (.int (0 : Int32)), (.ref b170), (.ref b204)])
      have K0_212 := (K0_205.trans K204 (all0))
      obtain ⟨_, _, ⟨T211, L211, k211, n211⟩, -, X211, ⟨Lc211, hQ211, l211, y211, z211⟩, st211⟩ := Jvm.LawKit.callS X204 hx (y := (⟨"shelfmark/IriPatternPercentEncodedPinLaw", "same", "([B[BII)Z"⟩ : MethodName)) hown (mvT hZ (hw _ (List.mem_of_getElem? (i := 15) rfl))) (mvT hZ (hw _ (List.mem_of_getElem? (i := 16) rfl))) (mvT hZ (hw _ (List.mem_of_getElem? (i := 4) rfl))) (mvT hZ (hw _ (List.mem_of_getElem? (i := 17) rfl))) (by decide) (backOf (W := 0) (rm4 l Z a0 hw [] b204 b170 (0 : Int32) mm cr ce  T204.heap n0 (Nat.le_trans Z0 K0_212.1) Arr_r Arr_e (by rw [hmm]; exact own_hs h9 Szr Hsr Sze Hse 0 (by decide))) hZ (hw _ (List.mem_of_getElem? (i := 17) rfl)) (hw _ (List.mem_of_getElem? (i := 4) rfl)) (by decide) (by decide)) (g := (mkF m 366 #[.val (.int p0), .val (.int p1), .val (.int p2), .val (.int p3), .val (.int p4), .val (.int (2 : Int32)), .val (.int c0), .val (.int c1), .val (.int c2), .val (.ref b140), .val (.ref b148), .val (.int d0), .val (.int d1), .val (.int d2), .val (.ref b170), .val (.int mm), .val (.int (0 : Int32)), .val (.ref b204), .val (.int (1 : Int32))] [(.int mm), (.int (0 : Int32)), (.ref b170), (.ref b204)])) rfl (by rw [hml]; rfl) (argsL := [(.ref b204), (.ref b170), (.int (0 : Int32)), (.int mm)]) (rest := []) (lenOf pd__28_5bB_5bBII_29Z rfl) rfl (by show 2 * 0 + _ ≤ _; exact Nat.le_of_eq rfl) (hb hby at_366) (fun _ _ => ⟨rfl, rfl, (by decide : 4 + 0 ≤ _), (by decide : 276 + 0 ≤ _)⟩)
      dsimp only [Pt.U, Pt.locs, Pt.cells, Pt.slots] at X211 l211 y211 z211 st211 hQ211
      subst l211 y211 z211
      obtain ⟨rfl, N211q, e211⟩ := hQ211
      obtain ⟨_, X211, N211⟩ := own_hide X211 (Fr.app N204 N211q)
      refine own_st st211 ?_
      show own_Go _ _ _ _ T211 (mkF m 369 #[.val (.int p0), .val (.int p1), .val (.int p2), .val (.int p3), .val (.int p4), .val (.int (2 : Int32)), .val (.int c0), .val (.int c1), .val (.int c2), .val (.ref b140), .val (.ref b148), .val (.int d0), .val (.int d1), .val (.int d2), .val (.ref b170), .val (.int mm), .val (.int (0 : Int32)), .val (.ref b204), .val (.int (1 : Int32))] [(.int (1 : Int32))])
      refine own_st (fun t k => XS.ifNo X211.here hx rfl (hb hby at_369) rfl ((if0 _ _).trans (feq (by decide : ¬ ((1 : Int32) = (0 : Int32)))).1) k) ?_
      show own_Go _ _ _ _ T211 (mkF m 372 #[.val (.int p0), .val (.int p1), .val (.int p2), .val (.int p3), .val (.int p4), .val (.int (2 : Int32)), .val (.int c0), .val (.int c1), .val (.int c2), .val (.ref b140), .val (.ref b148), .val (.int d0), .val (.int d1), .val (.int d2), .val (.ref b170), .val (.int mm), .val (.int (0 : Int32)), .val (.ref b204), .val (.int (1 : Int32))] [])
      refine own_st (fun t k => XS.aload X211.here hx rfl (hb hby at_372) rfl rfl k) ?_
      refine own_st (fun t k => XS.aload X211.here hx rfl (hb hby at_374) rfl rfl k) ?_
      refine own_st (fun t k => XS.iconst X211.here hx rfl (hb hby at_376) k) ?_
      refine own_st (fun t k => XS.iload X211.here hx rfl (hb hby at_377) rfl k) ?_
      show own_Go _ _ _ _ T211 (mkF m 379 #[.val (.int p0), .val (.int p1), .val (.int p2), .val (.int p3), .val (.int p4), .val (.int (2 : Int32)), .val (.int c0), .val (.int c1), .val (.int c2), .val (.ref b140), .val (.ref b148), .val (.int d0), .val (.int d1), .val (.int d2), .val (.ref b170), .val (.int mm), .val (.int (0 : Int32)), .val (.ref b204), .val (.int (1 : Int32))] [(.int mm), (.int (1 : Int32)), (.ref b170), (.ref b204)])
      obtain ⟨_, _, ⟨T213, L213, k213, n213⟩, -, X213, ⟨Lc213, hQ213, l213, y213, z213⟩, st213⟩ := Jvm.LawKit.callS X211 hx (y := (⟨"shelfmark/IriPatternPercentEncodedPinLaw", "same", "([B[BII)Z"⟩ : MethodName)) hown (mvT hZ (hw _ (List.mem_of_getElem? (i := 15) rfl))) (mvT hZ (hw _ (List.mem_of_getElem? (i := 16) rfl))) (mvT hZ (hw _ (List.mem_of_getElem? (i := 4) rfl))) (mvT hZ (hw _ (List.mem_of_getElem? (i := 17) rfl))) (by decide) (backOf (W := 0) (rm4 l Z a0 hw [] b204 b170 (1 : Int32) mm cr ce  T204.heap n0 (Nat.le_trans Z0 K0_212.1) Arr_r Arr_e (by rw [hmm]; exact own_hs h9 Szr Hsr Sze Hse 1 (by decide))) hZ (hw _ (List.mem_of_getElem? (i := 17) rfl)) (hw _ (List.mem_of_getElem? (i := 4) rfl)) (by decide) (by decide)) (g := (mkF m 379 #[.val (.int p0), .val (.int p1), .val (.int p2), .val (.int p3), .val (.int p4), .val (.int (2 : Int32)), .val (.int c0), .val (.int c1), .val (.int c2), .val (.ref b140), .val (.ref b148), .val (.int d0), .val (.int d1), .val (.int d2), .val (.ref b170), .val (.int mm), .val (.int (0 : Int32)), .val (.ref b204), .val (.int (1 : Int32))] [(.int mm), (.int (1 : Int32)), (.ref b170), (.ref b204)])) rfl (by rw [hml]; rfl) (argsL := [(.ref b204), (.ref b170), (.int (1 : Int32)), (.int mm)]) (rest := []) (lenOf pd__28_5bB_5bBII_29Z rfl) rfl (by show 2 * 0 + _ ≤ _; exact Nat.le_of_eq rfl) (hb hby at_379) (fun _ _ => ⟨rfl, e211, (by decide : 4 + 0 ≤ _), (by decide : 276 + 0 ≤ _)⟩)
      dsimp only [Pt.U, Pt.locs, Pt.cells, Pt.slots] at X213 l213 y213 z213 st213 hQ213
      subst l213 y213 z213
      obtain ⟨rfl, N213q, e213⟩ := hQ213
      obtain ⟨_, X213, N213⟩ := own_hide X213 (Fr.app N211 N213q)
      refine own_st st213 ?_
      show own_Go _ _ _ _ T213 (mkF m 382 #[.val (.int p0), .val (.int p1), .val (.int p2), .val (.int p3), .val (.int p4), .val (.int (2 : Int32)), .val (.int c0), .val (.int c1), .val (.int c2), .val (.ref b140), .val (.ref b148), .val (.int d0), .val (.int d1), .val (.int d2), .val (.ref b170), .val (.int mm), .val (.int (0 : Int32)), .val (.ref b204), .val (.int (1 : Int32))] [(.int (1 : Int32))])
      refine own_st (fun t k => XS.ifNo X213.here hx rfl (hb hby at_382) rfl ((if0 _ _).trans (feq (by decide : ¬ ((1 : Int32) = (0 : Int32)))).1) k) ?_
      show own_Go _ _ _ _ T213 (mkF m 385 #[.val (.int p0), .val (.int p1), .val (.int p2), .val (.int p3), .val (.int p4), .val (.int (2 : Int32)), .val (.int c0), .val (.int c1), .val (.int c2), .val (.ref b140), .val (.ref b148), .val (.int d0), .val (.int d1), .val (.int d2), .val (.ref b170), .val (.int mm), .val (.int (0 : Int32)), .val (.ref b204), .val (.int (1 : Int32))] [])
      refine own_st (fun t k => XS.aload X213.here hx rfl (hb hby at_385) rfl rfl k) ?_
      refine own_st (fun t k => XS.aload X213.here hx rfl (hb hby at_387) rfl rfl k) ?_
      refine own_st (fun t k => XS.iconst X213.here hx rfl (hb hby at_389) k) ?_
      refine own_st (fun t k => XS.iload X213.here hx rfl (hb hby at_390) rfl k) ?_
      show own_Go _ _ _ _ T213 (mkF m 392 #[.val (.int p0), .val (.int p1), .val (.int p2), .val (.int p3), .val (.int p4), .val (.int (2 : Int32)), .val (.int c0), .val (.int c1), .val (.int c2), .val (.ref b140), .val (.ref b148), .val (.int d0), .val (.int d1), .val (.int d2), .val (.ref b170), .val (.int mm), .val (.int (0 : Int32)), .val (.ref b204), .val (.int (1 : Int32))] [(.int mm), (.int (2 : Int32)), (.ref b170), (.ref b204)])
      obtain ⟨_, _, ⟨T214, L214, k214, n214⟩, -, X214, ⟨Lc214, hQ214, l214, y214, z214⟩, st214⟩ := Jvm.LawKit.callS X213 hx (y := (⟨"shelfmark/IriPatternPercentEncodedPinLaw", "same", "([B[BII)Z"⟩ : MethodName)) hown (mvT hZ (hw _ (List.mem_of_getElem? (i := 15) rfl))) (mvT hZ (hw _ (List.mem_of_getElem? (i := 16) rfl))) (mvT hZ (hw _ (List.mem_of_getElem? (i := 4) rfl))) (mvT hZ (hw _ (List.mem_of_getElem? (i := 17) rfl))) (by decide) (backOf (W := 0) (rm4 l Z a0 hw [] b204 b170 (2 : Int32) mm cr ce  T204.heap n0 (Nat.le_trans Z0 K0_212.1) Arr_r Arr_e (by rw [hmm]; exact own_hs h9 Szr Hsr Sze Hse 2 (by decide))) hZ (hw _ (List.mem_of_getElem? (i := 17) rfl)) (hw _ (List.mem_of_getElem? (i := 4) rfl)) (by decide) (by decide)) (g := (mkF m 392 #[.val (.int p0), .val (.int p1), .val (.int p2), .val (.int p3), .val (.int p4), .val (.int (2 : Int32)), .val (.int c0), .val (.int c1), .val (.int c2), .val (.ref b140), .val (.ref b148), .val (.int d0), .val (.int d1), .val (.int d2), .val (.ref b170), .val (.int mm), .val (.int (0 : Int32)), .val (.ref b204), .val (.int (1 : Int32))] [(.int mm), (.int (2 : Int32)), (.ref b170), (.ref b204)])) rfl (by rw [hml]; rfl) (argsL := [(.ref b204), (.ref b170), (.int (2 : Int32)), (.int mm)]) (rest := []) (lenOf pd__28_5bB_5bBII_29Z rfl) rfl (by show 2 * 0 + _ ≤ _; exact Nat.le_of_eq rfl) (hb hby at_392) (fun _ _ => ⟨rfl, e213, (by decide : 4 + 0 ≤ _), (by decide : 276 + 0 ≤ _)⟩)
      dsimp only [Pt.U, Pt.locs, Pt.cells, Pt.slots] at X214 l214 y214 z214 st214 hQ214
      subst l214 y214 z214
      obtain ⟨rfl, N214q, e214⟩ := hQ214
      obtain ⟨_, X214, N214⟩ := own_hide X214 (Fr.app N213 N214q)
      refine own_st st214 ?_
      show own_Go _ _ _ _ T214 (mkF m 395 #[.val (.int p0), .val (.int p1), .val (.int p2), .val (.int p3), .val (.int p4), .val (.int (2 : Int32)), .val (.int c0), .val (.int c1), .val (.int c2), .val (.ref b140), .val (.ref b148), .val (.int d0), .val (.int d1), .val (.int d2), .val (.ref b170), .val (.int mm), .val (.int (0 : Int32)), .val (.ref b204), .val (.int (1 : Int32))] [(.int (1 : Int32))])
      refine own_st (fun t k => XS.ifNo X214.here hx rfl (hb hby at_395) rfl ((if0 _ _).trans (feq (by decide : ¬ ((1 : Int32) = (0 : Int32)))).1) k) ?_
      show own_Go _ _ _ _ T214 (mkF m 398 #[.val (.int p0), .val (.int p1), .val (.int p2), .val (.int p3), .val (.int p4), .val (.int (2 : Int32)), .val (.int c0), .val (.int c1), .val (.int c2), .val (.ref b140), .val (.ref b148), .val (.int d0), .val (.int d1), .val (.int d2), .val (.ref b170), .val (.int mm), .val (.int (0 : Int32)), .val (.ref b204), .val (.int (1 : Int32))] [])
      refine own_st (fun t k => XS.aload X214.here hx rfl (hb hby at_398) rfl rfl k) ?_
      refine own_st (fun t k => XS.aload X214.here hx rfl (hb hby at_400) rfl rfl k) ?_
      refine own_st (fun t k => XS.iconst X214.here hx rfl (hb hby at_402) k) ?_
      refine own_st (fun t k => XS.iload X214.here hx rfl (hb hby at_403) rfl k) ?_
      show own_Go _ _ _ _ T214 (mkF m 405 #[.val (.int p0), .val (.int p1), .val (.int p2), .val (.int p3), .val (.int p4), .val (.int (2 : Int32)), .val (.int c0), .val (.int c1), .val (.int c2), .val (.ref b140), .val (.ref b148), .val (.int d0), .val (.int d1), .val (.int d2), .val (.ref b170), .val (.int mm), .val (.int (0 : Int32)), .val (.ref b204), .val (.int (1 : Int32))] [(.int mm), (.int (3 : Int32)), (.ref b170), (.ref b204)])
      obtain ⟨_, _, ⟨T215, L215, k215, n215⟩, -, X215, ⟨Lc215, hQ215, l215, y215, z215⟩, st215⟩ := Jvm.LawKit.callS X214 hx (y := (⟨"shelfmark/IriPatternPercentEncodedPinLaw", "same", "([B[BII)Z"⟩ : MethodName)) hown (mvT hZ (hw _ (List.mem_of_getElem? (i := 15) rfl))) (mvT hZ (hw _ (List.mem_of_getElem? (i := 16) rfl))) (mvT hZ (hw _ (List.mem_of_getElem? (i := 4) rfl))) (mvT hZ (hw _ (List.mem_of_getElem? (i := 17) rfl))) (by decide) (backOf (W := 0) (rm4 l Z a0 hw [] b204 b170 (3 : Int32) mm cr ce  T204.heap n0 (Nat.le_trans Z0 K0_212.1) Arr_r Arr_e (by rw [hmm]; exact own_hs h9 Szr Hsr Sze Hse 3 (by decide))) hZ (hw _ (List.mem_of_getElem? (i := 17) rfl)) (hw _ (List.mem_of_getElem? (i := 4) rfl)) (by decide) (by decide)) (g := (mkF m 405 #[.val (.int p0), .val (.int p1), .val (.int p2), .val (.int p3), .val (.int p4), .val (.int (2 : Int32)), .val (.int c0), .val (.int c1), .val (.int c2), .val (.ref b140), .val (.ref b148), .val (.int d0), .val (.int d1), .val (.int d2), .val (.ref b170), .val (.int mm), .val (.int (0 : Int32)), .val (.ref b204), .val (.int (1 : Int32))] [(.int mm), (.int (3 : Int32)), (.ref b170), (.ref b204)])) rfl (by rw [hml]; rfl) (argsL := [(.ref b204), (.ref b170), (.int (3 : Int32)), (.int mm)]) (rest := []) (lenOf pd__28_5bB_5bBII_29Z rfl) rfl (by show 2 * 0 + _ ≤ _; exact Nat.le_of_eq rfl) (hb hby at_405) (fun _ _ => ⟨rfl, e214, (by decide : 4 + 0 ≤ _), (by decide : 276 + 0 ≤ _)⟩)
      dsimp only [Pt.U, Pt.locs, Pt.cells, Pt.slots] at X215 l215 y215 z215 st215 hQ215
      subst l215 y215 z215
      obtain ⟨rfl, N215q, e215⟩ := hQ215
      obtain ⟨_, X215, N215⟩ := own_hide X215 (Fr.app N214 N215q)
      refine own_st st215 ?_
      show own_Go _ _ _ _ T215 (mkF m 408 #[.val (.int p0), .val (.int p1), .val (.int p2), .val (.int p3), .val (.int p4), .val (.int (2 : Int32)), .val (.int c0), .val (.int c1), .val (.int c2), .val (.ref b140), .val (.ref b148), .val (.int d0), .val (.int d1), .val (.int d2), .val (.ref b170), .val (.int mm), .val (.int (0 : Int32)), .val (.ref b204), .val (.int (1 : Int32))] [(.int (1 : Int32))])
      refine own_st (fun t k => XS.ifNo X215.here hx rfl (hb hby at_408) rfl ((if0 _ _).trans (feq (by decide : ¬ ((1 : Int32) = (0 : Int32)))).1) k) ?_
      show own_Go _ _ _ _ T215 (mkF m 411 #[.val (.int p0), .val (.int p1), .val (.int p2), .val (.int p3), .val (.int p4), .val (.int (2 : Int32)), .val (.int c0), .val (.int c1), .val (.int c2), .val (.ref b140), .val (.ref b148), .val (.int d0), .val (.int d1), .val (.int d2), .val (.ref b170), .val (.int mm), .val (.int (0 : Int32)), .val (.ref b204), .val (.int (1 : Int32))] [])
      refine own_st (fun t k => XS.aload X215.here hx rfl (hb hby at_411) rfl rfl k) ?_
      refine own_st (fun t k => XS.aload X215.here hx rfl (hb hby at_413) rfl rfl k) ?_
      refine own_st (fun t k => XS.iconst X215.here hx rfl (hb hby at_415) k) ?_
      refine own_st (fun t k => XS.iload X215.here hx rfl (hb hby at_416) rfl k) ?_
      show own_Go _ _ _ _ T215 (mkF m 418 #[.val (.int p0), .val (.int p1), .val (.int p2), .val (.int p3), .val (.int p4), .val (.int (2 : Int32)), .val (.int c0), .val (.int c1), .val (.int c2), .val (.ref b140), .val (.ref b148), .val (.int d0), .val (.int d1), .val (.int d2), .val (.ref b170), .val (.int mm), .val (.int (0 : Int32)), .val (.ref b204), .val (.int (1 : Int32))] [(.int mm), (.int (4 : Int32)), (.ref b170), (.ref b204)])
      obtain ⟨_, _, ⟨T216, L216, k216, n216⟩, -, X216, ⟨Lc216, hQ216, l216, y216, z216⟩, st216⟩ := Jvm.LawKit.callS X215 hx (y := (⟨"shelfmark/IriPatternPercentEncodedPinLaw", "same", "([B[BII)Z"⟩ : MethodName)) hown (mvT hZ (hw _ (List.mem_of_getElem? (i := 15) rfl))) (mvT hZ (hw _ (List.mem_of_getElem? (i := 16) rfl))) (mvT hZ (hw _ (List.mem_of_getElem? (i := 4) rfl))) (mvT hZ (hw _ (List.mem_of_getElem? (i := 17) rfl))) (by decide) (backOf (W := 0) (rm4 l Z a0 hw [] b204 b170 (4 : Int32) mm cr ce  T204.heap n0 (Nat.le_trans Z0 K0_212.1) Arr_r Arr_e (by rw [hmm]; exact own_hs h9 Szr Hsr Sze Hse 4 (by decide))) hZ (hw _ (List.mem_of_getElem? (i := 17) rfl)) (hw _ (List.mem_of_getElem? (i := 4) rfl)) (by decide) (by decide)) (g := (mkF m 418 #[.val (.int p0), .val (.int p1), .val (.int p2), .val (.int p3), .val (.int p4), .val (.int (2 : Int32)), .val (.int c0), .val (.int c1), .val (.int c2), .val (.ref b140), .val (.ref b148), .val (.int d0), .val (.int d1), .val (.int d2), .val (.ref b170), .val (.int mm), .val (.int (0 : Int32)), .val (.ref b204), .val (.int (1 : Int32))] [(.int mm), (.int (4 : Int32)), (.ref b170), (.ref b204)])) rfl (by rw [hml]; rfl) (argsL := [(.ref b204), (.ref b170), (.int (4 : Int32)), (.int mm)]) (rest := []) (lenOf pd__28_5bB_5bBII_29Z rfl) rfl (by show 2 * 0 + _ ≤ _; exact Nat.le_of_eq rfl) (hb hby at_418) (fun _ _ => ⟨rfl, e215, (by decide : 4 + 0 ≤ _), (by decide : 276 + 0 ≤ _)⟩)
      dsimp only [Pt.U, Pt.locs, Pt.cells, Pt.slots] at X216 l216 y216 z216 st216 hQ216
      subst l216 y216 z216
      obtain ⟨rfl, N216q, e216⟩ := hQ216
      obtain ⟨_, X216, N216⟩ := own_hide X216 (Fr.app N215 N216q)
      refine own_st st216 ?_
      show own_Go _ _ _ _ T216 (mkF m 421 #[.val (.int p0), .val (.int p1), .val (.int p2), .val (.int p3), .val (.int p4), .val (.int (2 : Int32)), .val (.int c0), .val (.int c1), .val (.int c2), .val (.ref b140), .val (.ref b148), .val (.int d0), .val (.int d1), .val (.int d2), .val (.ref b170), .val (.int mm), .val (.int (0 : Int32)), .val (.ref b204), .val (.int (1 : Int32))] [(.int (1 : Int32))])
      refine own_st (fun t k => XS.ifNo X216.here hx rfl (hb hby at_421) rfl ((if0 _ _).trans (feq (by decide : ¬ ((1 : Int32) = (0 : Int32)))).1) k) ?_
      show own_Go _ _ _ _ T216 (mkF m 424 #[.val (.int p0), .val (.int p1), .val (.int p2), .val (.int p3), .val (.int p4), .val (.int (2 : Int32)), .val (.int c0), .val (.int c1), .val (.int c2), .val (.ref b140), .val (.ref b148), .val (.int d0), .val (.int d1), .val (.int d2), .val (.ref b170), .val (.int mm), .val (.int (0 : Int32)), .val (.ref b204), .val (.int (1 : Int32))] [])
      refine own_st (fun t k => XS.aload X216.here hx rfl (hb hby at_424) rfl rfl k) ?_
      refine own_st (fun t k => XS.aload X216.here hx rfl (hb hby at_426) rfl rfl k) ?_
      refine own_st (fun t k => XS.iconst X216.here hx rfl (hb hby at_428) k) ?_
      refine own_st (fun t k => XS.iload X216.here hx rfl (hb hby at_429) rfl k) ?_
      show own_Go _ _ _ _ T216 (mkF m 431 #[.val (.int p0), .val (.int p1), .val (.int p2), .val (.int p3), .val (.int p4), .val (.int (2 : Int32)), .val (.int c0), .val (.int c1), .val (.int c2), .val (.ref b140), .val (.ref b148), .val (.int d0), .val (.int d1), .val (.int d2), .val (.ref b170), .val (.int mm), .val (.int (0 : Int32)), .val (.ref b204), .val (.int (1 : Int32))] [(.int mm), (.int (5 : Int32)), (.ref b170), (.ref b204)])
      obtain ⟨_, _, ⟨T217, L217, k217, n217⟩, -, X217, ⟨Lc217, hQ217, l217, y217, z217⟩, st217⟩ := Jvm.LawKit.callS X216 hx (y := (⟨"shelfmark/IriPatternPercentEncodedPinLaw", "same", "([B[BII)Z"⟩ : MethodName)) hown (mvT hZ (hw _ (List.mem_of_getElem? (i := 15) rfl))) (mvT hZ (hw _ (List.mem_of_getElem? (i := 16) rfl))) (mvT hZ (hw _ (List.mem_of_getElem? (i := 4) rfl))) (mvT hZ (hw _ (List.mem_of_getElem? (i := 17) rfl))) (by decide) (backOf (W := 0) (rm4 l Z a0 hw [] b204 b170 (5 : Int32) mm cr ce  T204.heap n0 (Nat.le_trans Z0 K0_212.1) Arr_r Arr_e (by rw [hmm]; exact own_hs h9 Szr Hsr Sze Hse 5 (by decide))) hZ (hw _ (List.mem_of_getElem? (i := 17) rfl)) (hw _ (List.mem_of_getElem? (i := 4) rfl)) (by decide) (by decide)) (g := (mkF m 431 #[.val (.int p0), .val (.int p1), .val (.int p2), .val (.int p3), .val (.int p4), .val (.int (2 : Int32)), .val (.int c0), .val (.int c1), .val (.int c2), .val (.ref b140), .val (.ref b148), .val (.int d0), .val (.int d1), .val (.int d2), .val (.ref b170), .val (.int mm), .val (.int (0 : Int32)), .val (.ref b204), .val (.int (1 : Int32))] [(.int mm), (.int (5 : Int32)), (.ref b170), (.ref b204)])) rfl (by rw [hml]; rfl) (argsL := [(.ref b204), (.ref b170), (.int (5 : Int32)), (.int mm)]) (rest := []) (lenOf pd__28_5bB_5bBII_29Z rfl) rfl (by show 2 * 0 + _ ≤ _; exact Nat.le_of_eq rfl) (hb hby at_431) (fun _ _ => ⟨rfl, e216, (by decide : 4 + 0 ≤ _), (by decide : 276 + 0 ≤ _)⟩)
      dsimp only [Pt.U, Pt.locs, Pt.cells, Pt.slots] at X217 l217 y217 z217 st217 hQ217
      subst l217 y217 z217
      obtain ⟨rfl, N217q, e217⟩ := hQ217
      obtain ⟨_, X217, N217⟩ := own_hide X217 (Fr.app N216 N217q)
      refine own_st st217 ?_
      show own_Go _ _ _ _ T217 (mkF m 434 #[.val (.int p0), .val (.int p1), .val (.int p2), .val (.int p3), .val (.int p4), .val (.int (2 : Int32)), .val (.int c0), .val (.int c1), .val (.int c2), .val (.ref b140), .val (.ref b148), .val (.int d0), .val (.int d1), .val (.int d2), .val (.ref b170), .val (.int mm), .val (.int (0 : Int32)), .val (.ref b204), .val (.int (1 : Int32))] [(.int (1 : Int32))])
      refine own_st (fun t k => XS.ifNo X217.here hx rfl (hb hby at_434) rfl ((if0 _ _).trans (feq (by decide : ¬ ((1 : Int32) = (0 : Int32)))).1) k) ?_
      show own_Go _ _ _ _ T217 (mkF m 437 #[.val (.int p0), .val (.int p1), .val (.int p2), .val (.int p3), .val (.int p4), .val (.int (2 : Int32)), .val (.int c0), .val (.int c1), .val (.int c2), .val (.ref b140), .val (.ref b148), .val (.int d0), .val (.int d1), .val (.int d2), .val (.ref b170), .val (.int mm), .val (.int (0 : Int32)), .val (.ref b204), .val (.int (1 : Int32))] [])
      refine own_st (fun t k => XS.aload X217.here hx rfl (hb hby at_437) rfl rfl k) ?_
      refine own_st (fun t k => XS.aload X217.here hx rfl (hb hby at_439) rfl rfl k) ?_
      refine own_st (fun t k => XS.bipush X217.here hx rfl (hb hby at_441) k) ?_
      refine own_st (fun t k => XS.iload X217.here hx rfl (hb hby at_443) rfl k) ?_
      show own_Go _ _ _ _ T217 (mkF m 445 #[.val (.int p0), .val (.int p1), .val (.int p2), .val (.int p3), .val (.int p4), .val (.int (2 : Int32)), .val (.int c0), .val (.int c1), .val (.int c2), .val (.ref b140), .val (.ref b148), .val (.int d0), .val (.int d1), .val (.int d2), .val (.ref b170), .val (.int mm), .val (.int (0 : Int32)), .val (.ref b204), .val (.int (1 : Int32))] [(.int mm), (.int (6 : Int32)), (.ref b170), (.ref b204)])
      obtain ⟨_, _, ⟨T218, L218, k218, n218⟩, -, X218, ⟨Lc218, hQ218, l218, y218, z218⟩, st218⟩ := Jvm.LawKit.callS X217 hx (y := (⟨"shelfmark/IriPatternPercentEncodedPinLaw", "same", "([B[BII)Z"⟩ : MethodName)) hown (mvT hZ (hw _ (List.mem_of_getElem? (i := 15) rfl))) (mvT hZ (hw _ (List.mem_of_getElem? (i := 16) rfl))) (mvT hZ (hw _ (List.mem_of_getElem? (i := 4) rfl))) (mvT hZ (hw _ (List.mem_of_getElem? (i := 17) rfl))) (by decide) (backOf (W := 0) (rm4 l Z a0 hw [] b204 b170 (6 : Int32) mm cr ce  T204.heap n0 (Nat.le_trans Z0 K0_212.1) Arr_r Arr_e (by rw [hmm]; exact own_hs h9 Szr Hsr Sze Hse 6 (by decide))) hZ (hw _ (List.mem_of_getElem? (i := 17) rfl)) (hw _ (List.mem_of_getElem? (i := 4) rfl)) (by decide) (by decide)) (g := (mkF m 445 #[.val (.int p0), .val (.int p1), .val (.int p2), .val (.int p3), .val (.int p4), .val (.int (2 : Int32)), .val (.int c0), .val (.int c1), .val (.int c2), .val (.ref b140), .val (.ref b148), .val (.int d0), .val (.int d1), .val (.int d2), .val (.ref b170), .val (.int mm), .val (.int (0 : Int32)), .val (.ref b204), .val (.int (1 : Int32))] [(.int mm), (.int (6 : Int32)), (.ref b170), (.ref b204)])) rfl (by rw [hml]; rfl) (argsL := [(.ref b204), (.ref b170), (.int (6 : Int32)), (.int mm)]) (rest := []) (lenOf pd__28_5bB_5bBII_29Z rfl) rfl (by show 2 * 0 + _ ≤ _; exact Nat.le_of_eq rfl) (hb hby at_445) (fun _ _ => ⟨rfl, e217, (by decide : 4 + 0 ≤ _), (by decide : 276 + 0 ≤ _)⟩)
      dsimp only [Pt.U, Pt.locs, Pt.cells, Pt.slots] at X218 l218 y218 z218 st218 hQ218
      subst l218 y218 z218
      obtain ⟨rfl, N218q, e218⟩ := hQ218
      obtain ⟨_, X218, N218⟩ := own_hide X218 (Fr.app N217 N218q)
      refine own_st st218 ?_
      show own_Go _ _ _ _ T218 (mkF m 448 #[.val (.int p0), .val (.int p1), .val (.int p2), .val (.int p3), .val (.int p4), .val (.int (2 : Int32)), .val (.int c0), .val (.int c1), .val (.int c2), .val (.ref b140), .val (.ref b148), .val (.int d0), .val (.int d1), .val (.int d2), .val (.ref b170), .val (.int mm), .val (.int (0 : Int32)), .val (.ref b204), .val (.int (1 : Int32))] [(.int (1 : Int32))])
      refine own_st (fun t k => XS.ifNo X218.here hx rfl (hb hby at_448) rfl ((if0 _ _).trans (feq (by decide : ¬ ((1 : Int32) = (0 : Int32)))).1) k) ?_
      show own_Go _ _ _ _ T218 (mkF m 451 #[.val (.int p0), .val (.int p1), .val (.int p2), .val (.int p3), .val (.int p4), .val (.int (2 : Int32)), .val (.int c0), .val (.int c1), .val (.int c2), .val (.ref b140), .val (.ref b148), .val (.int d0), .val (.int d1), .val (.int d2), .val (.ref b170), .val (.int mm), .val (.int (0 : Int32)), .val (.ref b204), .val (.int (1 : Int32))] [])
      refine own_st (fun t k => XS.aload X218.here hx rfl (hb hby at_451) rfl rfl k) ?_
      refine own_st (fun t k => XS.aload X218.here hx rfl (hb hby at_453) rfl rfl k) ?_
      refine own_st (fun t k => XS.bipush X218.here hx rfl (hb hby at_455) k) ?_
      refine own_st (fun t k => XS.iload X218.here hx rfl (hb hby at_457) rfl k) ?_
      show own_Go _ _ _ _ T218 (mkF m 459 #[.val (.int p0), .val (.int p1), .val (.int p2), .val (.int p3), .val (.int p4), .val (.int (2 : Int32)), .val (.int c0), .val (.int c1), .val (.int c2), .val (.ref b140), .val (.ref b148), .val (.int d0), .val (.int d1), .val (.int d2), .val (.ref b170), .val (.int mm), .val (.int (0 : Int32)), .val (.ref b204), .val (.int (1 : Int32))] [(.int mm), (.int (7 : Int32)), (.ref b170), (.ref b204)])
      obtain ⟨_, _, ⟨T219, L219, k219, n219⟩, -, X219, ⟨Lc219, hQ219, l219, y219, z219⟩, st219⟩ := Jvm.LawKit.callS X218 hx (y := (⟨"shelfmark/IriPatternPercentEncodedPinLaw", "same", "([B[BII)Z"⟩ : MethodName)) hown (mvT hZ (hw _ (List.mem_of_getElem? (i := 15) rfl))) (mvT hZ (hw _ (List.mem_of_getElem? (i := 16) rfl))) (mvT hZ (hw _ (List.mem_of_getElem? (i := 4) rfl))) (mvT hZ (hw _ (List.mem_of_getElem? (i := 17) rfl))) (by decide) (backOf (W := 0) (rm4 l Z a0 hw [] b204 b170 (7 : Int32) mm cr ce  T204.heap n0 (Nat.le_trans Z0 K0_212.1) Arr_r Arr_e (by rw [hmm]; exact own_hs h9 Szr Hsr Sze Hse 7 (by decide))) hZ (hw _ (List.mem_of_getElem? (i := 17) rfl)) (hw _ (List.mem_of_getElem? (i := 4) rfl)) (by decide) (by decide)) (g := (mkF m 459 #[.val (.int p0), .val (.int p1), .val (.int p2), .val (.int p3), .val (.int p4), .val (.int (2 : Int32)), .val (.int c0), .val (.int c1), .val (.int c2), .val (.ref b140), .val (.ref b148), .val (.int d0), .val (.int d1), .val (.int d2), .val (.ref b170), .val (.int mm), .val (.int (0 : Int32)), .val (.ref b204), .val (.int (1 : Int32))] [(.int mm), (.int (7 : Int32)), (.ref b170), (.ref b204)])) rfl (by rw [hml]; rfl) (argsL := [(.ref b204), (.ref b170), (.int (7 : Int32)), (.int mm)]) (rest := []) (lenOf pd__28_5bB_5bBII_29Z rfl) rfl (by show 2 * 0 + _ ≤ _; exact Nat.le_of_eq rfl) (hb hby at_459) (fun _ _ => ⟨rfl, e218, (by decide : 4 + 0 ≤ _), (by decide : 276 + 0 ≤ _)⟩)
      dsimp only [Pt.U, Pt.locs, Pt.cells, Pt.slots] at X219 l219 y219 z219 st219 hQ219
      subst l219 y219 z219
      obtain ⟨rfl, N219q, e219⟩ := hQ219
      obtain ⟨_, X219, N219⟩ := own_hide X219 (Fr.app N218 N219q)
      refine own_st st219 ?_
      show own_Go _ _ _ _ T219 (mkF m 462 #[.val (.int p0), .val (.int p1), .val (.int p2), .val (.int p3), .val (.int p4), .val (.int (2 : Int32)), .val (.int c0), .val (.int c1), .val (.int c2), .val (.ref b140), .val (.ref b148), .val (.int d0), .val (.int d1), .val (.int d2), .val (.ref b170), .val (.int mm), .val (.int (0 : Int32)), .val (.ref b204), .val (.int (1 : Int32))] [(.int (1 : Int32))])
      refine own_st (fun t k => XS.ifNo X219.here hx rfl (hb hby at_462) rfl ((if0 _ _).trans (feq (by decide : ¬ ((1 : Int32) = (0 : Int32)))).1) k) ?_
      show own_Go _ _ _ _ T219 (mkF m 465 #[.val (.int p0), .val (.int p1), .val (.int p2), .val (.int p3), .val (.int p4), .val (.int (2 : Int32)), .val (.int c0), .val (.int c1), .val (.int c2), .val (.ref b140), .val (.ref b148), .val (.int d0), .val (.int d1), .val (.int d2), .val (.ref b170), .val (.int mm), .val (.int (0 : Int32)), .val (.ref b204), .val (.int (1 : Int32))] [])
      refine own_st (fun t k => XS.aload X219.here hx rfl (hb hby at_465) rfl rfl k) ?_
      refine own_st (fun t k => XS.aload X219.here hx rfl (hb hby at_467) rfl rfl k) ?_
      refine own_st (fun t k => XS.bipush X219.here hx rfl (hb hby at_469) k) ?_
      refine own_st (fun t k => XS.iload X219.here hx rfl (hb hby at_471) rfl k) ?_
      show own_Go _ _ _ _ T219 (mkF m 473 #[.val (.int p0), .val (.int p1), .val (.int p2), .val (.int p3), .val (.int p4), .val (.int (2 : Int32)), .val (.int c0), .val (.int c1), .val (.int c2), .val (.ref b140), .val (.ref b148), .val (.int d0), .val (.int d1), .val (.int d2), .val (.ref b170), .val (.int mm), .val (.int (0 : Int32)), .val (.ref b204), .val (.int (1 : Int32))] [(.int mm), (.int (8 : Int32)), (.ref b170), (.ref b204)])
      obtain ⟨_, _, ⟨T220, L220, k220, n220⟩, -, X220, ⟨Lc220, hQ220, l220, y220, z220⟩, st220⟩ := Jvm.LawKit.callS X219 hx (y := (⟨"shelfmark/IriPatternPercentEncodedPinLaw", "same", "([B[BII)Z"⟩ : MethodName)) hown (mvT hZ (hw _ (List.mem_of_getElem? (i := 15) rfl))) (mvT hZ (hw _ (List.mem_of_getElem? (i := 16) rfl))) (mvT hZ (hw _ (List.mem_of_getElem? (i := 4) rfl))) (mvT hZ (hw _ (List.mem_of_getElem? (i := 17) rfl))) (by decide) (backOf (W := 0) (rm4 l Z a0 hw [] b204 b170 (8 : Int32) mm cr ce  T204.heap n0 (Nat.le_trans Z0 K0_212.1) Arr_r Arr_e (by rw [hmm]; exact own_hs h9 Szr Hsr Sze Hse 8 (by decide))) hZ (hw _ (List.mem_of_getElem? (i := 17) rfl)) (hw _ (List.mem_of_getElem? (i := 4) rfl)) (by decide) (by decide)) (g := (mkF m 473 #[.val (.int p0), .val (.int p1), .val (.int p2), .val (.int p3), .val (.int p4), .val (.int (2 : Int32)), .val (.int c0), .val (.int c1), .val (.int c2), .val (.ref b140), .val (.ref b148), .val (.int d0), .val (.int d1), .val (.int d2), .val (.ref b170), .val (.int mm), .val (.int (0 : Int32)), .val (.ref b204), .val (.int (1 : Int32))] [(.int mm), (.int (8 : Int32)), (.ref b170), (.ref b204)])) rfl (by rw [hml]; rfl) (argsL := [(.ref b204), (.ref b170), (.int (8 : Int32)), (.int mm)]) (rest := []) (lenOf pd__28_5bB_5bBII_29Z rfl) rfl (by show 2 * 0 + _ ≤ _; exact Nat.le_of_eq rfl) (hb hby at_473) (fun _ _ => ⟨rfl, e219, (by decide : 4 + 0 ≤ _), (by decide : 276 + 0 ≤ _)⟩)
      dsimp only [Pt.U, Pt.locs, Pt.cells, Pt.slots] at X220 l220 y220 z220 st220 hQ220
      subst l220 y220 z220
      obtain ⟨rfl, N220q, e220⟩ := hQ220
      obtain ⟨_, X220, N220⟩ := own_hide X220 (Fr.app N219 N220q)
      refine own_st st220 ?_
      show own_Go _ _ _ _ T220 (mkF m 476 #[.val (.int p0), .val (.int p1), .val (.int p2), .val (.int p3), .val (.int p4), .val (.int (2 : Int32)), .val (.int c0), .val (.int c1), .val (.int c2), .val (.ref b140), .val (.ref b148), .val (.int d0), .val (.int d1), .val (.int d2), .val (.ref b170), .val (.int mm), .val (.int (0 : Int32)), .val (.ref b204), .val (.int (1 : Int32))] [(.int (1 : Int32))])
      refine own_st (fun t k => XS.ifNo X220.here hx rfl (hb hby at_476) rfl ((if0 _ _).trans (feq (by decide : ¬ ((1 : Int32) = (0 : Int32)))).1) k) ?_
      show own_Go _ _ _ _ T220 (mkF m 479 #[.val (.int p0), .val (.int p1), .val (.int p2), .val (.int p3), .val (.int p4), .val (.int (2 : Int32)), .val (.int c0), .val (.int c1), .val (.int c2), .val (.ref b140), .val (.ref b148), .val (.int d0), .val (.int d1), .val (.int d2), .val (.ref b170), .val (.int mm), .val (.int (0 : Int32)), .val (.ref b204), .val (.int (1 : Int32))] [])
      refine own_st (fun t k => XS.iconst X220.here hx rfl (hb hby at_479) k) ?_
      refine own_st (fun t k => XS.goto X220.here hx rfl (pc0 := 480) (pc' := 484) rfl (hb hby at_480) (by decide) (by decide) k) ?_
      show own_Go _ _ _ _ T220 (mkF m 484 #[.val (.int p0), .val (.int p1), .val (.int p2), .val (.int p3), .val (.int p4), .val (.int (2 : Int32)), .val (.int c0), .val (.int c1), .val (.int c2), .val (.ref b140), .val (.ref b148), .val (.int d0), .val (.int d1), .val (.int d2), .val (.ref b170), .val (.int mm), .val (.int (0 : Int32)), .val (.ref b204), .val (.int (1 : Int32))] [(.int (1 : Int32))])
      exact own_retN X220 hx hlk (t := .boolean) hrt (by simp) (hb hby at_484) ⟨rfl, N220⟩ (by decide) (by decide)
  ·
    rw [hn]
    show own_Go _ _ _ _ s₁ (mkF m 17 #[.val (.int p0), .val (.int p1), .val (.int p2), .val (.int p3), .val (.int p4), .val (.int (3 : Int32)), .val (.int c0), .val (.int c1), .val (.int c2), .unset, .unset, .unset, .unset, .unset, .unset, .unset, .unset, .unset, .unset] [])
    refine own_st (fun t k => XS.iload X0.here hx rfl (hb hby at_17) rfl k) ?_
    show own_Go _ _ _ _ s₁ (mkF m 19 #[.val (.int p0), .val (.int p1), .val (.int p2), .val (.int p3), .val (.int p4), .val (.int (3 : Int32)), .val (.int c0), .val (.int c1), .val (.int c2), .unset, .unset, .unset, .unset, .unset, .unset, .unset, .unset, .unset, .unset] [(.int (3 : Int32))])
    obtain ⟨T221, h221, k221, X221, e221, E221, A221, st221⟩ := newP X0 hx hZ (hw _ (List.mem_of_getElem? (i := 0) rfl)) e0 (g := (mkF m 19 #[.val (.int p0), .val (.int p1), .val (.int p2), .val (.int p3), .val (.int p4), .val (.int (3 : Int32)), .val (.int c0), .val (.int c1), .val (.int c2), .unset, .unset, .unset, .unset, .unset, .unset, .unset, .unset, .unset, .unset] [(.int (3 : Int32))])) rfl (hb hby at_19) rfl (by decide) (cap := 3) (by decide) (by decide) (by decide) (by decide)
    obtain ⟨b221, g221⟩ : ∃ z, z = h0.size := ⟨_, rfl⟩
    rw [← g221] at A221 st221
    have sz_b221 : h0.size ≤ b221 := Nat.le_trans K0.1 (Nat.le_of_eq g221.symm)
    have g_b221 : n0 ≤ b221 := Nat.le_trans Z0 sz_b221
    have ne_ra_b221 : ra ≠ b221 := Nat.ne_of_lt (Nat.lt_of_lt_of_le A_H.lt (Nat.le_of_eq g221.symm))
    have V221 : Arv Z h221 b221 k221 .byte (3 : Int32) [(.int (0 : Int32)), (.int (0 : Int32)), (.int (0 : Int32))] (.int (0 : Int32)) := (Arv.new A221 (by decide)).pad (pad_rep [] (.int (0 : Int32)) 3)
    refine own_st st221 ?_
    show own_Go _ _ _ _ T221 (mkF m 21 #[.val (.int p0), .val (.int p1), .val (.int p2), .val (.int p3), .val (.int p4), .val (.int (3 : Int32)), .val (.int c0), .val (.int c1), .val (.int c2), .unset, .unset, .unset, .unset, .unset, .unset, .unset, .unset, .unset, .unset] [(.ref b221)])
    refine own_st (fun t k => XS.astore X221.here hx rfl (hb hby at_21) rfl rfl (l' := #[.val (.int p0), .val (.int p1), .val (.int p2), .val (.int p3), .val (.int p4), .val (.int (3 : Int32)), .val (.int c0), .val (.int c1), .val (.int c2), .val (.ref b221), .unset, .unset, .unset, .unset, .unset, .unset, .unset, .unset, .unset]) rfl k) ?_
    show own_Go _ _ _ _ T221 (mkF m 23 #[.val (.int p0), .val (.int p1), .val (.int p2), .val (.int p3), .val (.int p4), .val (.int (3 : Int32)), .val (.int c0), .val (.int c1), .val (.int c2), .val (.ref b221), .unset, .unset, .unset, .unset, .unset, .unset, .unset, .unset, .unset] [])
    refine own_st (fun t k => XS.iload X221.here hx rfl (hb hby at_23) rfl k) ?_
    refine own_st (fun t k => XS.ifNo X221.here hx rfl (hb hby at_25) rfl ((if0 _ _).trans (tlt (by decide : (0 : Int32) < (3 : Int32))).2.2.2) k) ?_
    show own_Go _ _ _ _ T221 (mkF m 28 #[.val (.int p0), .val (.int p1), .val (.int p2), .val (.int p3), .val (.int p4), .val (.int (3 : Int32)), .val (.int c0), .val (.int c1), .val (.int c2), .val (.ref b221), .unset, .unset, .unset, .unset, .unset, .unset, .unset, .unset, .unset] [])
    refine own_st (fun t k => XS.aload X221.here hx rfl (hb hby at_28) rfl rfl k) ?_
    refine own_st (fun t k => XS.iconst X221.here hx rfl (hb hby at_30) k) ?_
    refine own_st (fun t k => XS.iload X221.here hx rfl (hb hby at_31) rfl k) ?_
    show own_Go _ _ _ _ T221 (mkF m 33 #[.val (.int p0), .val (.int p1), .val (.int p2), .val (.int p3), .val (.int p4), .val (.int (3 : Int32)), .val (.int c0), .val (.int c1), .val (.int c2), .val (.ref b221), .unset, .unset, .unset, .unset, .unset, .unset, .unset, .unset, .unset] [(.int c0), (.int (0 : Int32)), (.ref b221)])
    have K0_222 := (K0.ext E221)
    obtain ⟨cl223, Ar223, qk223, Sz223, Nn223, Hs223, Gf223⟩ := id V221
    have hin223 : ¬ ((0 : Int32) < 0 ∨ cl223.slots.size ≤ ((0 : Int32)).toNatClampNeg) := inb_of Sz223 ⟨by decide, by decide⟩
    obtain ⟨T224, h224, X224, e224, W224, st224⟩ := stB X221 hx hZ e221 Ar223 (j := (0 : Int32)) hin223 (g := (mkF m 33 #[.val (.int p0), .val (.int p1), .val (.int p2), .val (.int p3), .val (.int p4), .val (.int (3 : Int32)), .val (.int c0), .val (.int c1), .val (.int c2), .val (.ref b221), .unset, .unset, .unset, .unset, .unset, .unset, .unset, .unset, .unset] [(.int c0), (.int (0 : Int32)), (.ref b221)])) rfl rfl (hb hby at_33)
    have V224 : Arv Z h224 b221 k221 .byte (3 : Int32) [(.int (nar .byte c0)), (.int (0 : Int32)), (.int (0 : Int32))] (.int (0 : Int32)) := Arv.set Ar223 qk223 Sz223 Nn223 Hs223 Gf223 (fits_nar_byte _) W224 0 rfl (Nat.le_of_ble_eq_true rfl)
    rw [hb0] at V224
    obtain ⟨_, X224, N224⟩ := own_hide X224 (Fr.snoc X224 N0 g_b221)
    refine own_st st224 ?_
    show own_Go _ _ _ _ T224 (mkF m 34 #[.val (.int p0), .val (.int p1), .val (.int p2), .val (.int p3), .val (.int p4), .val (.int (3 : Int32)), .val (.int c0), .val (.int c1), .val (.int c2), .val (.ref b221), .unset, .unset, .unset, .unset, .unset, .unset, .unset, .unset, .unset] [])
    refine own_st (fun t k => XS.iload X224.here hx rfl (hb hby at_34) rfl k) ?_
    refine own_st (fun t k => XS.iconst X224.here hx rfl (hb hby at_36) k) ?_
    refine own_st (fun t k => XS.icmpNo X224.here hx rfl (hb hby at_37) rfl (tlt (by decide : (1 : Int32) < (3 : Int32))).2.2.2 k) ?_
    show own_Go _ _ _ _ T224 (mkF m 40 #[.val (.int p0), .val (.int p1), .val (.int p2), .val (.int p3), .val (.int p4), .val (.int (3 : Int32)), .val (.int c0), .val (.int c1), .val (.int c2), .val (.ref b221), .unset, .unset, .unset, .unset, .unset, .unset, .unset, .unset, .unset] [])
    refine own_st (fun t k => XS.aload X224.here hx rfl (hb hby at_40) rfl rfl k) ?_
    refine own_st (fun t k => XS.iconst X224.here hx rfl (hb hby at_42) k) ?_
    refine own_st (fun t k => XS.iload X224.here hx rfl (hb hby at_43) rfl k) ?_
    show own_Go _ _ _ _ T224 (mkF m 45 #[.val (.int p0), .val (.int p1), .val (.int p2), .val (.int p3), .val (.int p4), .val (.int (3 : Int32)), .val (.int c0), .val (.int c1), .val (.int c2), .val (.ref b221), .unset, .unset, .unset, .unset, .unset, .unset, .unset, .unset, .unset] [(.int c1), (.int (1 : Int32)), (.ref b221)])
    have K0_225 := (K0_222.wr W224 (Or.inr sz_b221))
    obtain ⟨cl226, Ar226, qk226, Sz226, Nn226, Hs226, Gf226⟩ := id V224
    have hin226 : ¬ ((1 : Int32) < 0 ∨ cl226.slots.size ≤ ((1 : Int32)).toNatClampNeg) := inb_of Sz226 ⟨by decide, by decide⟩
    obtain ⟨T227, h227, X227, e227, W227, st227⟩ := stB X224 hx hZ e224 Ar226 (j := (1 : Int32)) hin226 (g := (mkF m 45 #[.val (.int p0), .val (.int p1), .val (.int p2), .val (.int p3), .val (.int p4), .val (.int (3 : Int32)), .val (.int c0), .val (.int c1), .val (.int c2), .val (.ref b221), .unset, .unset, .unset, .unset, .unset, .unset, .unset, .unset, .unset] [(.int c1), (.int (1 : Int32)), (.ref b221)])) rfl rfl (hb hby at_45)
    have V227 : Arv Z h227 b221 k221 .byte (3 : Int32) [(.int c0), (.int (nar .byte c1)), (.int (0 : Int32))] (.int (0 : Int32)) := Arv.set Ar226 qk226 Sz226 Nn226 Hs226 Gf226 (fits_nar_byte _) W227 1 rfl (Nat.le_of_ble_eq_true rfl)
    rw [hb1] at V227
    obtain ⟨_, X227, N227⟩ := own_hide X227 (Fr.snoc X227 N224 g_b221)
    refine own_st st227 ?_
    show own_Go _ _ _ _ T227 (mkF m 46 #[.val (.int p0), .val (.int p1), .val (.int p2), .val (.int p3), .val (.int p4), .val (.int (3 : Int32)), .val (.int c0), .val (.int c1), .val (.int c2), .val (.ref b221), .unset, .unset, .unset, .unset, .unset, .unset, .unset, .unset, .unset] [])
    refine own_st (fun t k => XS.iload X227.here hx rfl (hb hby at_46) rfl k) ?_
    refine own_st (fun t k => XS.iconst X227.here hx rfl (hb hby at_48) k) ?_
    refine own_st (fun t k => XS.icmpNo X227.here hx rfl (hb hby at_49) rfl (tlt (by decide : (2 : Int32) < (3 : Int32))).2.2.2 k) ?_
    show own_Go _ _ _ _ T227 (mkF m 52 #[.val (.int p0), .val (.int p1), .val (.int p2), .val (.int p3), .val (.int p4), .val (.int (3 : Int32)), .val (.int c0), .val (.int c1), .val (.int c2), .val (.ref b221), .unset, .unset, .unset, .unset, .unset, .unset, .unset, .unset, .unset] [])
    refine own_st (fun t k => XS.aload X227.here hx rfl (hb hby at_52) rfl rfl k) ?_
    refine own_st (fun t k => XS.iconst X227.here hx rfl (hb hby at_54) k) ?_
    refine own_st (fun t k => XS.iload X227.here hx rfl (hb hby at_55) rfl k) ?_
    show own_Go _ _ _ _ T227 (mkF m 57 #[.val (.int p0), .val (.int p1), .val (.int p2), .val (.int p3), .val (.int p4), .val (.int (3 : Int32)), .val (.int c0), .val (.int c1), .val (.int c2), .val (.ref b221), .unset, .unset, .unset, .unset, .unset, .unset, .unset, .unset, .unset] [(.int c2), (.int (2 : Int32)), (.ref b221)])
    have K0_228 := (K0_225.wr W227 (Or.inr sz_b221))
    obtain ⟨cl229, Ar229, qk229, Sz229, Nn229, Hs229, Gf229⟩ := id V227
    have hin229 : ¬ ((2 : Int32) < 0 ∨ cl229.slots.size ≤ ((2 : Int32)).toNatClampNeg) := inb_of Sz229 ⟨by decide, by decide⟩
    obtain ⟨T230, h230, X230, e230, W230, st230⟩ := stB X227 hx hZ e227 Ar229 (j := (2 : Int32)) hin229 (g := (mkF m 57 #[.val (.int p0), .val (.int p1), .val (.int p2), .val (.int p3), .val (.int p4), .val (.int (3 : Int32)), .val (.int c0), .val (.int c1), .val (.int c2), .val (.ref b221), .unset, .unset, .unset, .unset, .unset, .unset, .unset, .unset, .unset] [(.int c2), (.int (2 : Int32)), (.ref b221)])) rfl rfl (hb hby at_57)
    have V230 : Arv Z h230 b221 k221 .byte (3 : Int32) [(.int c0), (.int c1), (.int (nar .byte c2))] (.int (0 : Int32)) := Arv.set Ar229 qk229 Sz229 Nn229 Hs229 Gf229 (fits_nar_byte _) W230 2 rfl (Nat.le_of_ble_eq_true rfl)
    rw [hb2] at V230
    obtain ⟨_, X230, N230⟩ := own_hide X230 (Fr.snoc X230 N227 g_b221)
    refine own_st st230 ?_
    show own_Go _ _ _ _ T230 (mkF m 58 #[.val (.int p0), .val (.int p1), .val (.int p2), .val (.int p3), .val (.int p4), .val (.int (3 : Int32)), .val (.int c0), .val (.int c1), .val (.int c2), .val (.ref b221), .unset, .unset, .unset, .unset, .unset, .unset, .unset, .unset, .unset] [])
    refine own_st (fun t k => XS.sipush X230.here hx rfl (hb hby at_58) k) ?_
    show own_Go _ _ _ _ T230 (mkF m 61 #[.val (.int p0), .val (.int p1), .val (.int p2), .val (.int p3), .val (.int p4), .val (.int (3 : Int32)), .val (.int c0), .val (.int c1), .val (.int c2), .val (.ref b221), .unset, .unset, .unset, .unset, .unset, .unset, .unset, .unset, .unset] [(.int (256 : Int32))])
    have K0_231 := (K0_228.wr W230 (Or.inr sz_b221))
    obtain ⟨T232, h232, k232, X232, e232, E232, A232, st232⟩ := newP X230 hx hZ (hw _ (List.mem_of_getElem? (i := 1) rfl)) e230 (g := (mkF m 61 #[.val (.int p0), .val (.int p1), .val (.int p2), .val (.int p3), .val (.int p4), .val (.int (3 : Int32)), .val (.int c0), .val (.int c1), .val (.int c2), .val (.ref b221), .unset, .unset, .unset, .unset, .unset, .unset, .unset, .unset, .unset] [(.int (256 : Int32))])) rfl (hb hby at_61) rfl (by decide) (cap := 256) (by decide) (by decide) (by decide) (by decide)
    obtain ⟨b232, g232⟩ : ∃ z, z = h230.size := ⟨_, rfl⟩
    rw [← g232] at A232 st232
    have sz_b232 : h0.size ≤ b232 := Nat.le_trans K0_231.1 (Nat.le_of_eq g232.symm)
    have g_b232 : n0 ≤ b232 := Nat.le_trans Z0 sz_b232
    have Arh_233 := ((((A_H.ext E221).other W224 ne_ra_b221).other W227 ne_ra_b221).other W230 ne_ra_b221)
    have ne_ra_b232 : ra ≠ b232 := Nat.ne_of_lt (Nat.lt_of_lt_of_le Arh_233.lt (Nat.le_of_eq g232.symm))
    have ne_b221_b232 : b221 ≠ b232 := Nat.ne_of_lt (Nat.lt_of_lt_of_le V230.lt (Nat.le_of_eq g232.symm))
    have B232 := own_B_new A232
    refine own_st st232 ?_
    show own_Go _ _ _ _ T232 (mkF m 63 #[.val (.int p0), .val (.int p1), .val (.int p2), .val (.int p3), .val (.int p4), .val (.int (3 : Int32)), .val (.int c0), .val (.int c1), .val (.int c2), .val (.ref b221), .unset, .unset, .unset, .unset, .unset, .unset, .unset, .unset, .unset] [(.ref b232)])
    refine own_st (fun t k => XS.astore X232.here hx rfl (hb hby at_63) rfl rfl (l' := #[.val (.int p0), .val (.int p1), .val (.int p2), .val (.int p3), .val (.int p4), .val (.int (3 : Int32)), .val (.int c0), .val (.int c1), .val (.int c2), .val (.ref b221), .val (.ref b232), .unset, .unset, .unset, .unset, .unset, .unset, .unset, .unset]) rfl k) ?_
    show own_Go _ _ _ _ T232 (mkF m 65 #[.val (.int p0), .val (.int p1), .val (.int p2), .val (.int p3), .val (.int p4), .val (.int (3 : Int32)), .val (.int c0), .val (.int c1), .val (.int c2), .val (.ref b221), .val (.ref b232), .unset, .unset, .unset, .unset, .unset, .unset, .unset, .unset] [])
    refine own_st (fun t k => XS.aload X232.here hx rfl (hb hby at_65) rfl rfl k) ?_
    refine own_st (fun t k => XS.iload X232.here hx rfl (hb hby at_67) rfl k) ?_
    refine own_st (fun t k => XS.iconst X232.here hx rfl (hb hby at_69) k) ?_
    refine own_st (fun t k => XS.iadd X232.here hx rfl (hb hby at_70) rfl k) ?_
    show own_Go _ _ _ _ T232 (mkF m 71 #[.val (.int p0), .val (.int p1), .val (.int p2), .val (.int p3), .val (.int p4), .val (.int (3 : Int32)), .val (.int c0), .val (.int c1), .val (.int c2), .val (.ref b221), .val (.ref b232), .unset, .unset, .unset, .unset, .unset, .unset, .unset, .unset] [(.int (c0 + (1 : Int32))), (.ref b232)])
    refine own_st (fun t k => XS.sipush X232.here hx rfl (hb hby at_71) k) ?_
    refine own_st (fun t k => XS.iand X232.here hx rfl (hb hby at_74) rfl k) ?_
    show own_Go _ _ _ _ T232 (mkF m 75 #[.val (.int p0), .val (.int p1), .val (.int p2), .val (.int p3), .val (.int p4), .val (.int (3 : Int32)), .val (.int c0), .val (.int c1), .val (.int c2), .val (.ref b221), .val (.ref b232), .unset, .unset, .unset, .unset, .unset, .unset, .unset, .unset] [(.int ((c0 + (1 : Int32)) &&& (255 : Int32))), (.ref b232)])
    refine own_st (fun t k => XS.iload X232.here hx rfl (hb hby at_75) rfl k) ?_
    refine own_st (fun t k => XS.bipush X232.here hx rfl (hb hby at_77) k) ?_
    refine own_st (fun t k => XS.iand X232.here hx rfl (hb hby at_79) rfl k) ?_
    show own_Go _ _ _ _ T232 (mkF m 80 #[.val (.int p0), .val (.int p1), .val (.int p2), .val (.int p3), .val (.int p4), .val (.int (3 : Int32)), .val (.int c0), .val (.int c1), .val (.int c2), .val (.ref b221), .val (.ref b232), .unset, .unset, .unset, .unset, .unset, .unset, .unset, .unset] [(.int (p4 &&& (8 : Int32))), (.int ((c0 + (1 : Int32)) &&& (255 : Int32))), (.ref b232)])
    suffices hj234 : own_Go p.tables e below (own_Fin below s (Q0 Z p0 p1 p2 p3 p4 ra ch h0 n0) 4 277) T232 (mkF m 88 #[.val (.int p0), .val (.int p1), .val (.int p2), .val (.int p3), .val (.int p4), .val (.int (3 : Int32)), .val (.int c0), .val (.int c1), .val (.int c2), .val (.ref b221), .val (.ref b232), .unset, .unset, .unset, .unset, .unset, .unset, .unset, .unset] [(.int (if (p4 &&& (8 : Int32)) = (0 : Int32) then (0 : Int32) else (1 : Int32))), (.int ((c0 + (1 : Int32)) &&& (255 : Int32))), (.ref b232)]) by
      by_cases c80_234 : (p4 &&& (8 : Int32)) = (0 : Int32)
      · rw [if_pos c80_234] at hj234
        refine own_st (fun t k => XS.ifYes X232.here hx rfl (pc0 := 80) (pc' := 87) rfl (hb hby at_80) rfl ((if0 _ _).trans (teq c80_234).1) (by decide) (by decide) k) ?_
        show own_Go _ _ _ _ T232 (mkF m 87 #[.val (.int p0), .val (.int p1), .val (.int p2), .val (.int p3), .val (.int p4), .val (.int (3 : Int32)), .val (.int c0), .val (.int c1), .val (.int c2), .val (.ref b221), .val (.ref b232), .unset, .unset, .unset, .unset, .unset, .unset, .unset, .unset] [(.int ((c0 + (1 : Int32)) &&& (255 : Int32))), (.ref b232)])
        refine own_st (fun t k => XS.iconst X232.here hx rfl (hb hby at_87) k) ?_
        show own_Go _ _ _ _ T232 (mkF m 88 #[.val (.int p0), .val (.int p1), .val (.int p2), .val (.int p3), .val (.int p4), .val (.int (3 : Int32)), .val (.int c0), .val (.int c1), .val (.int c2), .val (.ref b221), .val (.ref b232), .unset, .unset, .unset, .unset, .unset, .unset, .unset, .unset] [(.int (0 : Int32)), (.int ((c0 + (1 : Int32)) &&& (255 : Int32))), (.ref b232)])
        exact hj234
      · rw [if_neg c80_234] at hj234
        refine own_st (fun t k => XS.ifNo X232.here hx rfl (hb hby at_80) rfl ((if0 _ _).trans (feq c80_234).1) k) ?_
        show own_Go _ _ _ _ T232 (mkF m 83 #[.val (.int p0), .val (.int p1), .val (.int p2), .val (.int p3), .val (.int p4), .val (.int (3 : Int32)), .val (.int c0), .val (.int c1), .val (.int c2), .val (.ref b221), .val (.ref b232), .unset, .unset, .unset, .unset, .unset, .unset, .unset, .unset] [(.int ((c0 + (1 : Int32)) &&& (255 : Int32))), (.ref b232)])
        refine own_st (fun t k => XS.iconst X232.here hx rfl (hb hby at_83) k) ?_
        show own_Go _ _ _ _ T232 (mkF m 84 #[.val (.int p0), .val (.int p1), .val (.int p2), .val (.int p3), .val (.int p4), .val (.int (3 : Int32)), .val (.int c0), .val (.int c1), .val (.int c2), .val (.ref b221), .val (.ref b232), .unset, .unset, .unset, .unset, .unset, .unset, .unset, .unset] [(.int (1 : Int32)), (.int ((c0 + (1 : Int32)) &&& (255 : Int32))), (.ref b232)])
        refine own_st (fun t k => XS.goto X232.here hx rfl (pc0 := 84) (pc' := 88) rfl (hb hby at_84) (by decide) (by decide) k) ?_
        show own_Go _ _ _ _ T232 (mkF m 88 #[.val (.int p0), .val (.int p1), .val (.int p2), .val (.int p3), .val (.int p4), .val (.int (3 : Int32)), .val (.int c0), .val (.int c1), .val (.int c2), .val (.ref b221), .val (.ref b232), .unset, .unset, .unset, .unset, .unset, .unset, .unset, .unset] [(.int (1 : Int32)), (.int ((c0 + (1 : Int32)) &&& (255 : Int32))), (.ref b232)])
        exact hj234
    show own_Go _ _ _ _ T232 (mkF m 88 #[.val (.int p0), .val (.int p1), .val (.int p2), .val (.int p3), .val (.int p4), .val (.int (3 : Int32)), .val (.int c0), .val (.int c1), .val (.int c2), .val (.ref b221), .val (.ref b232), .unset, .unset, .unset, .unset, .unset, .unset, .unset, .unset] [(.int (if (p4 &&& (8 : Int32)) = (0 : Int32) then (0 : Int32) else (1 : Int32))), (.int ((c0 + (1 : Int32)) &&& (255 : Int32))), (.ref b232)])
    have K0_235 := (K0_231.ext E232)
    obtain ⟨cl236, Ar236, Sz236, al236⟩ := B232
    have hin236 : ¬ (((c0 + (1 : Int32)) &&& (255 : Int32)) < 0 ∨ cl236.slots.size ≤ (((c0 + (1 : Int32)) &&& (255 : Int32))).toNatClampNeg) := inb_of Sz236 (own_b255 _)
    obtain ⟨T237, h237, X237, e237, W237, st237⟩ := stZ X232 hx hZ e232 Ar236 (j := ((c0 + (1 : Int32)) &&& (255 : Int32))) hin236 (g := (mkF m 88 #[.val (.int p0), .val (.int p1), .val (.int p2), .val (.int p3), .val (.int p4), .val (.int (3 : Int32)), .val (.int c0), .val (.int c1), .val (.int c2), .val (.ref b221), .val (.ref b232), .unset, .unset, .unset, .unset, .unset, .unset, .unset, .unset] [(.int (if (p4 &&& (8 : Int32)) = (0 : Int32) then (0 : Int32) else (1 : Int32))), (.int ((c0 + (1 : Int32)) &&& (255 : Int32))), (.ref b232)])) rfl rfl (hb hby at_88)
    have B237 := own_B_set Ar236 Sz236 al236 W237
    obtain ⟨_, X237, N237⟩ := own_hide X237 (Fr.snoc X237 N230 g_b232)
    refine own_st st237 ?_
    show own_Go _ _ _ _ T237 (mkF m 89 #[.val (.int p0), .val (.int p1), .val (.int p2), .val (.int p3), .val (.int p4), .val (.int (3 : Int32)), .val (.int c0), .val (.int c1), .val (.int c2), .val (.ref b221), .val (.ref b232), .unset, .unset, .unset, .unset, .unset, .unset, .unset, .unset] [])
    refine own_st (fun t k => XS.aload X237.here hx rfl (hb hby at_89) rfl rfl k) ?_
    refine own_st (fun t k => XS.iload X237.here hx rfl (hb hby at_91) rfl k) ?_
    refine own_st (fun t k => XS.sipush X237.here hx rfl (hb hby at_93) k) ?_
    refine own_st (fun t k => XS.iand X237.here hx rfl (hb hby at_96) rfl k) ?_
    show own_Go _ _ _ _ T237 (mkF m 97 #[.val (.int p0), .val (.int p1), .val (.int p2), .val (.int p3), .val (.int p4), .val (.int (3 : Int32)), .val (.int c0), .val (.int c1), .val (.int c2), .val (.ref b221), .val (.ref b232), .unset, .unset, .unset, .unset, .unset, .unset, .unset, .unset] [(.int (c0 &&& (255 : Int32))), (.ref b232)])
    refine own_st (fun t k => XS.iload X237.here hx rfl (hb hby at_97) rfl k) ?_
    refine own_st (fun t k => XS.iconst X237.here hx rfl (hb hby at_99) k) ?_
    refine own_st (fun t k => XS.iand X237.here hx rfl (hb hby at_100) rfl k) ?_
    show own_Go _ _ _ _ T237 (mkF m 101 #[.val (.int p0), .val (.int p1), .val (.int p2), .val (.int p3), .val (.int p4), .val (.int (3 : Int32)), .val (.int c0), .val (.int c1), .val (.int c2), .val (.ref b221), .val (.ref b232), .unset, .unset, .unset, .unset, .unset, .unset, .unset, .unset] [(.int (p4 &&& (1 : Int32))), (.int (c0 &&& (255 : Int32))), (.ref b232)])
    suffices hj238 : own_Go p.tables e below (own_Fin below s (Q0 Z p0 p1 p2 p3 p4 ra ch h0 n0) 4 277) T237 (mkF m 109 #[.val (.int p0), .val (.int p1), .val (.int p2), .val (.int p3), .val (.int p4), .val (.int (3 : Int32)), .val (.int c0), .val (.int c1), .val (.int c2), .val (.ref b221), .val (.ref b232), .unset, .unset, .unset, .unset, .unset, .unset, .unset, .unset] [(.int (if (p4 &&& (1 : Int32)) = (0 : Int32) then (0 : Int32) else (1 : Int32))), (.int (c0 &&& (255 : Int32))), (.ref b232)]) by
      by_cases c101_238 : (p4 &&& (1 : Int32)) = (0 : Int32)
      · rw [if_pos c101_238] at hj238
        refine own_st (fun t k => XS.ifYes X237.here hx rfl (pc0 := 101) (pc' := 108) rfl (hb hby at_101) rfl ((if0 _ _).trans (teq c101_238).1) (by decide) (by decide) k) ?_
        show own_Go _ _ _ _ T237 (mkF m 108 #[.val (.int p0), .val (.int p1), .val (.int p2), .val (.int p3), .val (.int p4), .val (.int (3 : Int32)), .val (.int c0), .val (.int c1), .val (.int c2), .val (.ref b221), .val (.ref b232), .unset, .unset, .unset, .unset, .unset, .unset, .unset, .unset] [(.int (c0 &&& (255 : Int32))), (.ref b232)])
        refine own_st (fun t k => XS.iconst X237.here hx rfl (hb hby at_108) k) ?_
        show own_Go _ _ _ _ T237 (mkF m 109 #[.val (.int p0), .val (.int p1), .val (.int p2), .val (.int p3), .val (.int p4), .val (.int (3 : Int32)), .val (.int c0), .val (.int c1), .val (.int c2), .val (.ref b221), .val (.ref b232), .unset, .unset, .unset, .unset, .unset, .unset, .unset, .unset] [(.int (0 : Int32)), (.int (c0 &&& (255 : Int32))), (.ref b232)])
        exact hj238
      · rw [if_neg c101_238] at hj238
        refine own_st (fun t k => XS.ifNo X237.here hx rfl (hb hby at_101) rfl ((if0 _ _).trans (feq c101_238).1) k) ?_
        show own_Go _ _ _ _ T237 (mkF m 104 #[.val (.int p0), .val (.int p1), .val (.int p2), .val (.int p3), .val (.int p4), .val (.int (3 : Int32)), .val (.int c0), .val (.int c1), .val (.int c2), .val (.ref b221), .val (.ref b232), .unset, .unset, .unset, .unset, .unset, .unset, .unset, .unset] [(.int (c0 &&& (255 : Int32))), (.ref b232)])
        refine own_st (fun t k => XS.iconst X237.here hx rfl (hb hby at_104) k) ?_
        show own_Go _ _ _ _ T237 (mkF m 105 #[.val (.int p0), .val (.int p1), .val (.int p2), .val (.int p3), .val (.int p4), .val (.int (3 : Int32)), .val (.int c0), .val (.int c1), .val (.int c2), .val (.ref b221), .val (.ref b232), .unset, .unset, .unset, .unset, .unset, .unset, .unset, .unset] [(.int (1 : Int32)), (.int (c0 &&& (255 : Int32))), (.ref b232)])
        refine own_st (fun t k => XS.goto X237.here hx rfl (pc0 := 105) (pc' := 109) rfl (hb hby at_105) (by decide) (by decide) k) ?_
        show own_Go _ _ _ _ T237 (mkF m 109 #[.val (.int p0), .val (.int p1), .val (.int p2), .val (.int p3), .val (.int p4), .val (.int (3 : Int32)), .val (.int c0), .val (.int c1), .val (.int c2), .val (.ref b221), .val (.ref b232), .unset, .unset, .unset, .unset, .unset, .unset, .unset, .unset] [(.int (1 : Int32)), (.int (c0 &&& (255 : Int32))), (.ref b232)])
        exact hj238
    show own_Go _ _ _ _ T237 (mkF m 109 #[.val (.int p0), .val (.int p1), .val (.int p2), .val (.int p3), .val (.int p4), .val (.int (3 : Int32)), .val (.int c0), .val (.int c1), .val (.int c2), .val (.ref b221), .val (.ref b232), .unset, .unset, .unset, .unset, .unset, .unset, .unset, .unset] [(.int (if (p4 &&& (1 : Int32)) = (0 : Int32) then (0 : Int32) else (1 : Int32))), (.int (c0 &&& (255 : Int32))), (.ref b232)])
    have K0_239 := (K0_235.wr W237 (Or.inr sz_b232))
    obtain ⟨cl240, Ar240, Sz240, al240⟩ := B237
    have hin240 : ¬ ((c0 &&& (255 : Int32)) < 0 ∨ cl240.slots.size ≤ ((c0 &&& (255 : Int32))).toNatClampNeg) := inb_of Sz240 (own_b255 _)
    obtain ⟨T241, h241, X241, e241, W241, st241⟩ := stZ X237 hx hZ e237 Ar240 (j := (c0 &&& (255 : Int32))) hin240 (g := (mkF m 109 #[.val (.int p0), .val (.int p1), .val (.int p2), .val (.int p3), .val (.int p4), .val (.int (3 : Int32)), .val (.int c0), .val (.int c1), .val (.int c2), .val (.ref b221), .val (.ref b232), .unset, .unset, .unset, .unset, .unset, .unset, .unset, .unset] [(.int (if (p4 &&& (1 : Int32)) = (0 : Int32) then (0 : Int32) else (1 : Int32))), (.int (c0 &&& (255 : Int32))), (.ref b232)])) rfl rfl (hb hby at_109)
    have B241 := own_B_set Ar240 Sz240 al240 W241
    obtain ⟨_, X241, N241⟩ := own_hide X241 (Fr.snoc X241 N237 g_b232)
    refine own_st st241 ?_
    show own_Go _ _ _ _ T241 (mkF m 110 #[.val (.int p0), .val (.int p1), .val (.int p2), .val (.int p3), .val (.int p4), .val (.int (3 : Int32)), .val (.int c0), .val (.int c1), .val (.int c2), .val (.ref b221), .val (.ref b232), .unset, .unset, .unset, .unset, .unset, .unset, .unset, .unset] [])
    refine own_st (fun t k => XS.aload X241.here hx rfl (hb hby at_110) rfl rfl k) ?_
    refine own_st (fun t k => XS.iload X241.here hx rfl (hb hby at_112) rfl k) ?_
    refine own_st (fun t k => XS.sipush X241.here hx rfl (hb hby at_114) k) ?_
    refine own_st (fun t k => XS.iand X241.here hx rfl (hb hby at_117) rfl k) ?_
    show own_Go _ _ _ _ T241 (mkF m 118 #[.val (.int p0), .val (.int p1), .val (.int p2), .val (.int p3), .val (.int p4), .val (.int (3 : Int32)), .val (.int c0), .val (.int c1), .val (.int c2), .val (.ref b221), .val (.ref b232), .unset, .unset, .unset, .unset, .unset, .unset, .unset, .unset] [(.int (c1 &&& (255 : Int32))), (.ref b232)])
    refine own_st (fun t k => XS.iload X241.here hx rfl (hb hby at_118) rfl k) ?_
    refine own_st (fun t k => XS.iconst X241.here hx rfl (hb hby at_120) k) ?_
    refine own_st (fun t k => XS.iand X241.here hx rfl (hb hby at_121) rfl k) ?_
    show own_Go _ _ _ _ T241 (mkF m 122 #[.val (.int p0), .val (.int p1), .val (.int p2), .val (.int p3), .val (.int p4), .val (.int (3 : Int32)), .val (.int c0), .val (.int c1), .val (.int c2), .val (.ref b221), .val (.ref b232), .unset, .unset, .unset, .unset, .unset, .unset, .unset, .unset] [(.int (p4 &&& (2 : Int32))), (.int (c1 &&& (255 : Int32))), (.ref b232)])
    suffices hj242 : own_Go p.tables e below (own_Fin below s (Q0 Z p0 p1 p2 p3 p4 ra ch h0 n0) 4 277) T241 (mkF m 130 #[.val (.int p0), .val (.int p1), .val (.int p2), .val (.int p3), .val (.int p4), .val (.int (3 : Int32)), .val (.int c0), .val (.int c1), .val (.int c2), .val (.ref b221), .val (.ref b232), .unset, .unset, .unset, .unset, .unset, .unset, .unset, .unset] [(.int (if (p4 &&& (2 : Int32)) = (0 : Int32) then (0 : Int32) else (1 : Int32))), (.int (c1 &&& (255 : Int32))), (.ref b232)]) by
      by_cases c122_242 : (p4 &&& (2 : Int32)) = (0 : Int32)
      · rw [if_pos c122_242] at hj242
        refine own_st (fun t k => XS.ifYes X241.here hx rfl (pc0 := 122) (pc' := 129) rfl (hb hby at_122) rfl ((if0 _ _).trans (teq c122_242).1) (by decide) (by decide) k) ?_
        show own_Go _ _ _ _ T241 (mkF m 129 #[.val (.int p0), .val (.int p1), .val (.int p2), .val (.int p3), .val (.int p4), .val (.int (3 : Int32)), .val (.int c0), .val (.int c1), .val (.int c2), .val (.ref b221), .val (.ref b232), .unset, .unset, .unset, .unset, .unset, .unset, .unset, .unset] [(.int (c1 &&& (255 : Int32))), (.ref b232)])
        refine own_st (fun t k => XS.iconst X241.here hx rfl (hb hby at_129) k) ?_
        show own_Go _ _ _ _ T241 (mkF m 130 #[.val (.int p0), .val (.int p1), .val (.int p2), .val (.int p3), .val (.int p4), .val (.int (3 : Int32)), .val (.int c0), .val (.int c1), .val (.int c2), .val (.ref b221), .val (.ref b232), .unset, .unset, .unset, .unset, .unset, .unset, .unset, .unset] [(.int (0 : Int32)), (.int (c1 &&& (255 : Int32))), (.ref b232)])
        exact hj242
      · rw [if_neg c122_242] at hj242
        refine own_st (fun t k => XS.ifNo X241.here hx rfl (hb hby at_122) rfl ((if0 _ _).trans (feq c122_242).1) k) ?_
        show own_Go _ _ _ _ T241 (mkF m 125 #[.val (.int p0), .val (.int p1), .val (.int p2), .val (.int p3), .val (.int p4), .val (.int (3 : Int32)), .val (.int c0), .val (.int c1), .val (.int c2), .val (.ref b221), .val (.ref b232), .unset, .unset, .unset, .unset, .unset, .unset, .unset, .unset] [(.int (c1 &&& (255 : Int32))), (.ref b232)])
        refine own_st (fun t k => XS.iconst X241.here hx rfl (hb hby at_125) k) ?_
        show own_Go _ _ _ _ T241 (mkF m 126 #[.val (.int p0), .val (.int p1), .val (.int p2), .val (.int p3), .val (.int p4), .val (.int (3 : Int32)), .val (.int c0), .val (.int c1), .val (.int c2), .val (.ref b221), .val (.ref b232), .unset, .unset, .unset, .unset, .unset, .unset, .unset, .unset] [(.int (1 : Int32)), (.int (c1 &&& (255 : Int32))), (.ref b232)])
        refine own_st (fun t k => XS.goto X241.here hx rfl (pc0 := 126) (pc' := 130) rfl (hb hby at_126) (by decide) (by decide) k) ?_
        show own_Go _ _ _ _ T241 (mkF m 130 #[.val (.int p0), .val (.int p1), .val (.int p2), .val (.int p3), .val (.int p4), .val (.int (3 : Int32)), .val (.int c0), .val (.int c1), .val (.int c2), .val (.ref b221), .val (.ref b232), .unset, .unset, .unset, .unset, .unset, .unset, .unset, .unset] [(.int (1 : Int32)), (.int (c1 &&& (255 : Int32))), (.ref b232)])
        exact hj242
    show own_Go _ _ _ _ T241 (mkF m 130 #[.val (.int p0), .val (.int p1), .val (.int p2), .val (.int p3), .val (.int p4), .val (.int (3 : Int32)), .val (.int c0), .val (.int c1), .val (.int c2), .val (.ref b221), .val (.ref b232), .unset, .unset, .unset, .unset, .unset, .unset, .unset, .unset] [(.int (if (p4 &&& (2 : Int32)) = (0 : Int32) then (0 : Int32) else (1 : Int32))), (.int (c1 &&& (255 : Int32))), (.ref b232)])
    have K0_243 := (K0_239.wr W241 (Or.inr sz_b232))
    obtain ⟨cl244, Ar244, Sz244, al244⟩ := B241
    have hin244 : ¬ ((c1 &&& (255 : Int32)) < 0 ∨ cl244.slots.size ≤ ((c1 &&& (255 : Int32))).toNatClampNeg) := inb_of Sz244 (own_b255 _)
    obtain ⟨T245, h245, X245, e245, W245, st245⟩ := stZ X241 hx hZ e241 Ar244 (j := (c1 &&& (255 : Int32))) hin244 (g := (mkF m 130 #[.val (.int p0), .val (.int p1), .val (.int p2), .val (.int p3), .val (.int p4), .val (.int (3 : Int32)), .val (.int c0), .val (.int c1), .val (.int c2), .val (.ref b221), .val (.ref b232), .unset, .unset, .unset, .unset, .unset, .unset, .unset, .unset] [(.int (if (p4 &&& (2 : Int32)) = (0 : Int32) then (0 : Int32) else (1 : Int32))), (.int (c1 &&& (255 : Int32))), (.ref b232)])) rfl rfl (hb hby at_130)
    have B245 := own_B_set Ar244 Sz244 al244 W245
    obtain ⟨_, X245, N245⟩ := own_hide X245 (Fr.snoc X245 N241 g_b232)
    refine own_st st245 ?_
    show own_Go _ _ _ _ T245 (mkF m 131 #[.val (.int p0), .val (.int p1), .val (.int p2), .val (.int p3), .val (.int p4), .val (.int (3 : Int32)), .val (.int c0), .val (.int c1), .val (.int c2), .val (.ref b221), .val (.ref b232), .unset, .unset, .unset, .unset, .unset, .unset, .unset, .unset] [])
    refine own_st (fun t k => XS.aload X245.here hx rfl (hb hby at_131) rfl rfl k) ?_
    refine own_st (fun t k => XS.iload X245.here hx rfl (hb hby at_133) rfl k) ?_
    refine own_st (fun t k => XS.sipush X245.here hx rfl (hb hby at_135) k) ?_
    refine own_st (fun t k => XS.iand X245.here hx rfl (hb hby at_138) rfl k) ?_
    show own_Go _ _ _ _ T245 (mkF m 139 #[.val (.int p0), .val (.int p1), .val (.int p2), .val (.int p3), .val (.int p4), .val (.int (3 : Int32)), .val (.int c0), .val (.int c1), .val (.int c2), .val (.ref b221), .val (.ref b232), .unset, .unset, .unset, .unset, .unset, .unset, .unset, .unset] [(.int (c2 &&& (255 : Int32))), (.ref b232)])
    refine own_st (fun t k => XS.iload X245.here hx rfl (hb hby at_139) rfl k) ?_
    refine own_st (fun t k => XS.iconst X245.here hx rfl (hb hby at_141) k) ?_
    refine own_st (fun t k => XS.iand X245.here hx rfl (hb hby at_142) rfl k) ?_
    show own_Go _ _ _ _ T245 (mkF m 143 #[.val (.int p0), .val (.int p1), .val (.int p2), .val (.int p3), .val (.int p4), .val (.int (3 : Int32)), .val (.int c0), .val (.int c1), .val (.int c2), .val (.ref b221), .val (.ref b232), .unset, .unset, .unset, .unset, .unset, .unset, .unset, .unset] [(.int (p4 &&& (4 : Int32))), (.int (c2 &&& (255 : Int32))), (.ref b232)])
    suffices hj246 : own_Go p.tables e below (own_Fin below s (Q0 Z p0 p1 p2 p3 p4 ra ch h0 n0) 4 277) T245 (mkF m 151 #[.val (.int p0), .val (.int p1), .val (.int p2), .val (.int p3), .val (.int p4), .val (.int (3 : Int32)), .val (.int c0), .val (.int c1), .val (.int c2), .val (.ref b221), .val (.ref b232), .unset, .unset, .unset, .unset, .unset, .unset, .unset, .unset] [(.int (if (p4 &&& (4 : Int32)) = (0 : Int32) then (0 : Int32) else (1 : Int32))), (.int (c2 &&& (255 : Int32))), (.ref b232)]) by
      by_cases c143_246 : (p4 &&& (4 : Int32)) = (0 : Int32)
      · rw [if_pos c143_246] at hj246
        refine own_st (fun t k => XS.ifYes X245.here hx rfl (pc0 := 143) (pc' := 150) rfl (hb hby at_143) rfl ((if0 _ _).trans (teq c143_246).1) (by decide) (by decide) k) ?_
        show own_Go _ _ _ _ T245 (mkF m 150 #[.val (.int p0), .val (.int p1), .val (.int p2), .val (.int p3), .val (.int p4), .val (.int (3 : Int32)), .val (.int c0), .val (.int c1), .val (.int c2), .val (.ref b221), .val (.ref b232), .unset, .unset, .unset, .unset, .unset, .unset, .unset, .unset] [(.int (c2 &&& (255 : Int32))), (.ref b232)])
        refine own_st (fun t k => XS.iconst X245.here hx rfl (hb hby at_150) k) ?_
        show own_Go _ _ _ _ T245 (mkF m 151 #[.val (.int p0), .val (.int p1), .val (.int p2), .val (.int p3), .val (.int p4), .val (.int (3 : Int32)), .val (.int c0), .val (.int c1), .val (.int c2), .val (.ref b221), .val (.ref b232), .unset, .unset, .unset, .unset, .unset, .unset, .unset, .unset] [(.int (0 : Int32)), (.int (c2 &&& (255 : Int32))), (.ref b232)])
        exact hj246
      · rw [if_neg c143_246] at hj246
        refine own_st (fun t k => XS.ifNo X245.here hx rfl (hb hby at_143) rfl ((if0 _ _).trans (feq c143_246).1) k) ?_
        show own_Go _ _ _ _ T245 (mkF m 146 #[.val (.int p0), .val (.int p1), .val (.int p2), .val (.int p3), .val (.int p4), .val (.int (3 : Int32)), .val (.int c0), .val (.int c1), .val (.int c2), .val (.ref b221), .val (.ref b232), .unset, .unset, .unset, .unset, .unset, .unset, .unset, .unset] [(.int (c2 &&& (255 : Int32))), (.ref b232)])
        refine own_st (fun t k => XS.iconst X245.here hx rfl (hb hby at_146) k) ?_
        show own_Go _ _ _ _ T245 (mkF m 147 #[.val (.int p0), .val (.int p1), .val (.int p2), .val (.int p3), .val (.int p4), .val (.int (3 : Int32)), .val (.int c0), .val (.int c1), .val (.int c2), .val (.ref b221), .val (.ref b232), .unset, .unset, .unset, .unset, .unset, .unset, .unset, .unset] [(.int (1 : Int32)), (.int (c2 &&& (255 : Int32))), (.ref b232)])
        refine own_st (fun t k => XS.goto X245.here hx rfl (pc0 := 147) (pc' := 151) rfl (hb hby at_147) (by decide) (by decide) k) ?_
        show own_Go _ _ _ _ T245 (mkF m 151 #[.val (.int p0), .val (.int p1), .val (.int p2), .val (.int p3), .val (.int p4), .val (.int (3 : Int32)), .val (.int c0), .val (.int c1), .val (.int c2), .val (.ref b221), .val (.ref b232), .unset, .unset, .unset, .unset, .unset, .unset, .unset, .unset] [(.int (1 : Int32)), (.int (c2 &&& (255 : Int32))), (.ref b232)])
        exact hj246
    show own_Go _ _ _ _ T245 (mkF m 151 #[.val (.int p0), .val (.int p1), .val (.int p2), .val (.int p3), .val (.int p4), .val (.int (3 : Int32)), .val (.int c0), .val (.int c1), .val (.int c2), .val (.ref b221), .val (.ref b232), .unset, .unset, .unset, .unset, .unset, .unset, .unset, .unset] [(.int (if (p4 &&& (4 : Int32)) = (0 : Int32) then (0 : Int32) else (1 : Int32))), (.int (c2 &&& (255 : Int32))), (.ref b232)])
    have K0_247 := (K0_243.wr W245 (Or.inr sz_b232))
    obtain ⟨cl248, Ar248, Sz248, al248⟩ := B245
    have hin248 : ¬ ((c2 &&& (255 : Int32)) < 0 ∨ cl248.slots.size ≤ ((c2 &&& (255 : Int32))).toNatClampNeg) := inb_of Sz248 (own_b255 _)
    obtain ⟨T249, h249, X249, e249, W249, st249⟩ := stZ X245 hx hZ e245 Ar248 (j := (c2 &&& (255 : Int32))) hin248 (g := (mkF m 151 #[.val (.int p0), .val (.int p1), .val (.int p2), .val (.int p3), .val (.int p4), .val (.int (3 : Int32)), .val (.int c0), .val (.int c1), .val (.int c2), .val (.ref b221), .val (.ref b232), .unset, .unset, .unset, .unset, .unset, .unset, .unset, .unset] [(.int (if (p4 &&& (4 : Int32)) = (0 : Int32) then (0 : Int32) else (1 : Int32))), (.int (c2 &&& (255 : Int32))), (.ref b232)])) rfl rfl (hb hby at_151)
    have B249 := own_B_set Ar248 Sz248 al248 W249
    obtain ⟨_, X249, N249⟩ := own_hide X249 (Fr.snoc X249 N245 g_b232)
    refine own_st st249 ?_
    show own_Go _ _ _ _ T249 (mkF m 152 #[.val (.int p0), .val (.int p1), .val (.int p2), .val (.int p3), .val (.int p4), .val (.int (3 : Int32)), .val (.int c0), .val (.int c1), .val (.int c2), .val (.ref b221), .val (.ref b232), .unset, .unset, .unset, .unset, .unset, .unset, .unset, .unset] [])
    obtain ⟨ck, Tk⟩ := own_B_tab B249
    refine own_st (fun t k => XS.aload X249.here hx rfl (hb hby at_152) rfl rfl k) ?_
    refine own_st (fun t k => XS.iload X249.here hx rfl (hb hby at_154) rfl k) ?_
    refine own_st (fun t k => XS.sipush X249.here hx rfl (hb hby at_156) k) ?_
    refine own_st (fun t k => XS.iand X249.here hx rfl (hb hby at_159) rfl k) ?_
    show own_Go _ _ _ _ T249 (mkF m 160 #[.val (.int p0), .val (.int p1), .val (.int p2), .val (.int p3), .val (.int p4), .val (.int (3 : Int32)), .val (.int c0), .val (.int c1), .val (.int c2), .val (.ref b221), .val (.ref b232), .unset, .unset, .unset, .unset, .unset, .unset, .unset, .unset] [(.int (c0 &&& (255 : Int32))), (.ref b232)])
    have hin250 : ¬ ((c0 &&& (255 : Int32)) < 0 ∨ ck.slots.size ≤ ((c0 &&& (255 : Int32))).toNatClampNeg) := inb_of Tk.2.1 (own_b255 _)
    have hat250 : ck.slots[((c0 &&& (255 : Int32))).toNatClampNeg]? = some (.int (own_kf ck c0)) := Tk.2.2.2 _ hin250
    refine own_st (X249.baloadBooleans hx (j := (c0 &&& (255 : Int32))) (v := (.int (own_kf ck c0))) (by rw [e249]; exact Tk.1.1) (State.isArrayOf_alike hZ.alike Tk.1.2.1) Tk.1.2.2 hin250 hat250 (g := (mkF m 160 #[.val (.int p0), .val (.int p1), .val (.int p2), .val (.int p3), .val (.int p4), .val (.int (3 : Int32)), .val (.int c0), .val (.int c1), .val (.int c2), .val (.ref b221), .val (.ref b232), .unset, .unset, .unset, .unset, .unset, .unset, .unset, .unset] [(.int (c0 &&& (255 : Int32))), (.ref b232)])) rfl rfl (hb hby at_160)) ?_
    show own_Go _ _ _ _ T249 (mkF m 161 #[.val (.int p0), .val (.int p1), .val (.int p2), .val (.int p3), .val (.int p4), .val (.int (3 : Int32)), .val (.int c0), .val (.int c1), .val (.int c2), .val (.ref b221), .val (.ref b232), .unset, .unset, .unset, .unset, .unset, .unset, .unset, .unset] [(.int (own_kf ck c0))])
    refine own_st (fun t k => XS.istore X249.here hx rfl (hb hby at_161) rfl (l' := #[.val (.int p0), .val (.int p1), .val (.int p2), .val (.int p3), .val (.int p4), .val (.int (3 : Int32)), .val (.int c0), .val (.int c1), .val (.int c2), .val (.ref b221), .val (.ref b232), .val (.int (own_kf ck c0)), .unset, .unset, .unset, .unset, .unset, .unset, .unset]) rfl k) ?_
    show own_Go _ _ _ _ T249 (mkF m 163 #[.val (.int p0), .val (.int p1), .val (.int p2), .val (.int p3), .val (.int p4), .val (.int (3 : Int32)), .val (.int c0), .val (.int c1), .val (.int c2), .val (.ref b221), .val (.ref b232), .val (.int (own_kf ck c0)), .unset, .unset, .unset, .unset, .unset, .unset, .unset] [])
    refine own_st (fun t k => XS.aload X249.here hx rfl (hb hby at_163) rfl rfl k) ?_
    refine own_st (fun t k => XS.iload X249.here hx rfl (hb hby at_165) rfl k) ?_
    refine own_st (fun t k => XS.sipush X249.here hx rfl (hb hby at_167) k) ?_
    refine own_st (fun t k => XS.iand X249.here hx rfl (hb hby at_170) rfl k) ?_
    show own_Go _ _ _ _ T249 (mkF m 171 #[.val (.int p0), .val (.int p1), .val (.int p2), .val (.int p3), .val (.int p4), .val (.int (3 : Int32)), .val (.int c0), .val (.int c1), .val (.int c2), .val (.ref b221), .val (.ref b232), .val (.int (own_kf ck c0)), .unset, .unset, .unset, .unset, .unset, .unset, .unset] [(.int (c1 &&& (255 : Int32))), (.ref b232)])
    have hin251 : ¬ ((c1 &&& (255 : Int32)) < 0 ∨ ck.slots.size ≤ ((c1 &&& (255 : Int32))).toNatClampNeg) := inb_of Tk.2.1 (own_b255 _)
    have hat251 : ck.slots[((c1 &&& (255 : Int32))).toNatClampNeg]? = some (.int (own_kf ck c1)) := Tk.2.2.2 _ hin251
    refine own_st (X249.baloadBooleans hx (j := (c1 &&& (255 : Int32))) (v := (.int (own_kf ck c1))) (by rw [e249]; exact Tk.1.1) (State.isArrayOf_alike hZ.alike Tk.1.2.1) Tk.1.2.2 hin251 hat251 (g := (mkF m 171 #[.val (.int p0), .val (.int p1), .val (.int p2), .val (.int p3), .val (.int p4), .val (.int (3 : Int32)), .val (.int c0), .val (.int c1), .val (.int c2), .val (.ref b221), .val (.ref b232), .val (.int (own_kf ck c0)), .unset, .unset, .unset, .unset, .unset, .unset, .unset] [(.int (c1 &&& (255 : Int32))), (.ref b232)])) rfl rfl (hb hby at_171)) ?_
    show own_Go _ _ _ _ T249 (mkF m 172 #[.val (.int p0), .val (.int p1), .val (.int p2), .val (.int p3), .val (.int p4), .val (.int (3 : Int32)), .val (.int c0), .val (.int c1), .val (.int c2), .val (.ref b221), .val (.ref b232), .val (.int (own_kf ck c0)), .unset, .unset, .unset, .unset, .unset, .unset, .unset] [(.int (own_kf ck c1))])
    refine own_st (fun t k => XS.istore X249.here hx rfl (hb hby at_172) rfl (l' := #[.val (.int p0), .val (.int p1), .val (.int p2), .val (.int p3), .val (.int p4), .val (.int (3 : Int32)), .val (.int c0), .val (.int c1), .val (.int c2), .val (.ref b221), .val (.ref b232), .val (.int (own_kf ck c0)), .val (.int (own_kf ck c1)), .unset, .unset, .unset, .unset, .unset, .unset]) rfl k) ?_
    show own_Go _ _ _ _ T249 (mkF m 174 #[.val (.int p0), .val (.int p1), .val (.int p2), .val (.int p3), .val (.int p4), .val (.int (3 : Int32)), .val (.int c0), .val (.int c1), .val (.int c2), .val (.ref b221), .val (.ref b232), .val (.int (own_kf ck c0)), .val (.int (own_kf ck c1)), .unset, .unset, .unset, .unset, .unset, .unset] [])
    refine own_st (fun t k => XS.aload X249.here hx rfl (hb hby at_174) rfl rfl k) ?_
    refine own_st (fun t k => XS.iload X249.here hx rfl (hb hby at_176) rfl k) ?_
    refine own_st (fun t k => XS.sipush X249.here hx rfl (hb hby at_178) k) ?_
    refine own_st (fun t k => XS.iand X249.here hx rfl (hb hby at_181) rfl k) ?_
    show own_Go _ _ _ _ T249 (mkF m 182 #[.val (.int p0), .val (.int p1), .val (.int p2), .val (.int p3), .val (.int p4), .val (.int (3 : Int32)), .val (.int c0), .val (.int c1), .val (.int c2), .val (.ref b221), .val (.ref b232), .val (.int (own_kf ck c0)), .val (.int (own_kf ck c1)), .unset, .unset, .unset, .unset, .unset, .unset] [(.int (c2 &&& (255 : Int32))), (.ref b232)])
    have hin252 : ¬ ((c2 &&& (255 : Int32)) < 0 ∨ ck.slots.size ≤ ((c2 &&& (255 : Int32))).toNatClampNeg) := inb_of Tk.2.1 (own_b255 _)
    have hat252 : ck.slots[((c2 &&& (255 : Int32))).toNatClampNeg]? = some (.int (own_kf ck c2)) := Tk.2.2.2 _ hin252
    refine own_st (X249.baloadBooleans hx (j := (c2 &&& (255 : Int32))) (v := (.int (own_kf ck c2))) (by rw [e249]; exact Tk.1.1) (State.isArrayOf_alike hZ.alike Tk.1.2.1) Tk.1.2.2 hin252 hat252 (g := (mkF m 182 #[.val (.int p0), .val (.int p1), .val (.int p2), .val (.int p3), .val (.int p4), .val (.int (3 : Int32)), .val (.int c0), .val (.int c1), .val (.int c2), .val (.ref b221), .val (.ref b232), .val (.int (own_kf ck c0)), .val (.int (own_kf ck c1)), .unset, .unset, .unset, .unset, .unset, .unset] [(.int (c2 &&& (255 : Int32))), (.ref b232)])) rfl rfl (hb hby at_182)) ?_
    show own_Go _ _ _ _ T249 (mkF m 183 #[.val (.int p0), .val (.int p1), .val (.int p2), .val (.int p3), .val (.int p4), .val (.int (3 : Int32)), .val (.int c0), .val (.int c1), .val (.int c2), .val (.ref b221), .val (.ref b232), .val (.int (own_kf ck c0)), .val (.int (own_kf ck c1)), .unset, .unset, .unset, .unset, .unset, .unset] [(.int (own_kf ck c2))])
    refine own_st (fun t k => XS.istore X249.here hx rfl (hb hby at_183) rfl (l' := #[.val (.int p0), .val (.int p1), .val (.int p2), .val (.int p3), .val (.int p4), .val (.int (3 : Int32)), .val (.int c0), .val (.int c1), .val (.int c2), .val (.ref b221), .val (.ref b232), .val (.int (own_kf ck c0)), .val (.int (own_kf ck c1)), .val (.int (own_kf ck c2)), .unset, .unset, .unset, .unset, .unset]) rfl k) ?_
    show own_Go _ _ _ _ T249 (mkF m 185 #[.val (.int p0), .val (.int p1), .val (.int p2), .val (.int p3), .val (.int p4), .val (.int (3 : Int32)), .val (.int c0), .val (.int c1), .val (.int c2), .val (.ref b221), .val (.ref b232), .val (.int (own_kf ck c0)), .val (.int (own_kf ck c1)), .val (.int (own_kf ck c2)), .unset, .unset, .unset, .unset, .unset] [])
    refine own_st (fun t k => XS.bipush X249.here hx rfl (hb hby at_185) k) ?_
    show own_Go _ _ _ _ T249 (mkF m 187 #[.val (.int p0), .val (.int p1), .val (.int p2), .val (.int p3), .val (.int p4), .val (.int (3 : Int32)), .val (.int c0), .val (.int c1), .val (.int c2), .val (.ref b221), .val (.ref b232), .val (.int (own_kf ck c0)), .val (.int (own_kf ck c1)), .val (.int (own_kf ck c2)), .unset, .unset, .unset, .unset, .unset] [(.int (9 : Int32))])
    have K0_253 := (K0_247.wr W249 (Or.inr sz_b232))
    obtain ⟨T254, h254, k254, X254, e254, E254, A254, st254⟩ := newP X249 hx hZ (hw _ (List.mem_of_getElem? (i := 0) rfl)) e249 (g := (mkF m 187 #[.val (.int p0), .val (.int p1), .val (.int p2), .val (.int p3), .val (.int p4), .val (.int (3 : Int32)), .val (.int c0), .val (.int c1), .val (.int c2), .val (.ref b221), .val (.ref b232), .val (.int (own_kf ck c0)), .val (.int (own_kf ck c1)), .val (.int (own_kf ck c2)), .unset, .unset, .unset, .unset, .unset] [(.int (9 : Int32))])) rfl (hb hby at_187) rfl (by decide) (cap := 9) (by decide) (by decide) (by decide) (by decide)
    obtain ⟨b254, g254⟩ : ∃ z, z = h249.size := ⟨_, rfl⟩
    rw [← g254] at A254 st254
    have sz_b254 : h0.size ≤ b254 := Nat.le_trans K0_253.1 (Nat.le_of_eq g254.symm)
    have g_b254 : n0 ≤ b254 := Nat.le_trans Z0 sz_b254
    have Arh_255 := (((((Arh_233.ext E232).other W237 ne_ra_b232).other W241 ne_ra_b232).other W245 ne_ra_b232).other W249 ne_ra_b232)
    have ne_ra_b254 : ra ≠ b254 := Nat.ne_of_lt (Nat.lt_of_lt_of_le Arh_255.lt (Nat.le_of_eq g254.symm))
    have V230_256 := (((((V230.ext E232).other W237 ne_b221_b232).other W241 ne_b221_b232).other W245 ne_b221_b232).other W249 ne_b221_b232)
    have ne_b221_b254 : b221 ≠ b254 := Nat.ne_of_lt (Nat.lt_of_lt_of_le V230_256.lt (Nat.le_of_eq g254.symm))
    have ne_b232_b254 : b232 ≠ b254 := Nat.ne_of_lt (Nat.lt_of_lt_of_le Tk.1.lt (Nat.le_of_eq g254.symm))
    have V254 : own_X Z h254 b254 k254 9 [] := own_new (n := 9) A254 (by decide)
    refine own_st st254 ?_
    show own_Go _ _ _ _ T254 (mkF m 189 #[.val (.int p0), .val (.int p1), .val (.int p2), .val (.int p3), .val (.int p4), .val (.int (3 : Int32)), .val (.int c0), .val (.int c1), .val (.int c2), .val (.ref b221), .val (.ref b232), .val (.int (own_kf ck c0)), .val (.int (own_kf ck c1)), .val (.int (own_kf ck c2)), .unset, .unset, .unset, .unset, .unset] [(.ref b254)])
    refine own_st (fun t k => XS.astore X254.here hx rfl (hb hby at_189) rfl rfl (l' := #[.val (.int p0), .val (.int p1), .val (.int p2), .val (.int p3), .val (.int p4), .val (.int (3 : Int32)), .val (.int c0), .val (.int c1), .val (.int c2), .val (.ref b221), .val (.ref b232), .val (.int (own_kf ck c0)), .val (.int (own_kf ck c1)), .val (.int (own_kf ck c2)), .val (.ref b254), .unset, .unset, .unset, .unset]) rfl k) ?_
    show own_Go _ _ _ _ T254 (mkF m 191 #[.val (.int p0), .val (.int p1), .val (.int p2), .val (.int p3), .val (.int p4), .val (.int (3 : Int32)), .val (.int c0), .val (.int c1), .val (.int c2), .val (.ref b221), .val (.ref b232), .val (.int (own_kf ck c0)), .val (.int (own_kf ck c1)), .val (.int (own_kf ck c2)), .val (.ref b254), .unset, .unset, .unset, .unset] [])
    refine own_st (fun t k => XS.iconst X254.here hx rfl (hb hby at_191) k) ?_
    refine own_st (fun t k => XS.istore X254.here hx rfl (hb hby at_192) rfl (l' := #[.val (.int p0), .val (.int p1), .val (.int p2), .val (.int p3), .val (.int p4), .val (.int (3 : Int32)), .val (.int c0), .val (.int c1), .val (.int c2), .val (.ref b221), .val (.ref b232), .val (.int (own_kf ck c0)), .val (.int (own_kf ck c1)), .val (.int (own_kf ck c2)), .val (.ref b254), .val (.int (0 : Int32)), .unset, .unset, .unset]) rfl k) ?_
    show own_Go _ _ _ _ T254 (mkF m 194 #[.val (.int p0), .val (.int p1), .val (.int p2), .val (.int p3), .val (.int p4), .val (.int (3 : Int32)), .val (.int c0), .val (.int c1), .val (.int c2), .val (.ref b221), .val (.ref b232), .val (.int (own_kf ck c0)), .val (.int (own_kf ck c1)), .val (.int (own_kf ck c2)), .val (.ref b254), .val (.int (0 : Int32)), .unset, .unset, .unset] [])
    refine own_st (fun t k => XS.iload X254.here hx rfl (hb hby at_194) rfl k) ?_
    refine own_st (fun t k => XS.ifNo X254.here hx rfl (hb hby at_196) rfl ((if0 _ _).trans (tlt (by decide : (0 : Int32) < (3 : Int32))).2.2.2) k) ?_
    show own_Go _ _ _ _ T254 (mkF m 199 #[.val (.int p0), .val (.int p1), .val (.int p2), .val (.int p3), .val (.int p4), .val (.int (3 : Int32)), .val (.int c0), .val (.int c1), .val (.int c2), .val (.ref b221), .val (.ref b232), .val (.int (own_kf ck c0)), .val (.int (own_kf ck c1)), .val (.int (own_kf ck c2)), .val (.ref b254), .val (.int (0 : Int32)), .unset, .unset, .unset] [])
    refine own_st (fun t k => XS.aload X254.here hx rfl (hb hby at_199) rfl rfl k) ?_
    refine own_st (fun t k => XS.iload X254.here hx rfl (hb hby at_201) rfl k) ?_
    refine own_st (fun t k => XS.iload X254.here hx rfl (hb hby at_203) rfl k) ?_
    refine own_st (fun t k => XS.iload X254.here hx rfl (hb hby at_205) rfl k) ?_
    show own_Go _ _ _ _ T254 (mkF m 207 #[.val (.int p0), .val (.int p1), .val (.int p2), .val (.int p3), .val (.int p4), .val (.int (3 : Int32)), .val (.int c0), .val (.int c1), .val (.int c2), .val (.ref b221), .val (.ref b232), .val (.int (own_kf ck c0)), .val (.int (own_kf ck c1)), .val (.int (own_kf ck c2)), .val (.ref b254), .val (.int (0 : Int32)), .unset, .unset, .unset] [(.int (own_kf ck c0)), (.int c0), (.int (0 : Int32)), (.ref b254)])
    have K0_258 := (K0_253.ext E254)
    obtain ⟨_, _, ⟨T257, L257, k257, n257⟩, -, X257, ⟨Lc257, hQ257, l257, y257, z257⟩, st257⟩ := Jvm.LawKit.callS X254 hx (y := (⟨"shelfmark/IriPatternPercentEncodedPinLaw", "put", "([BIBZ)I"⟩ : MethodName)) hown (mvT hZ (hw _ (List.mem_of_getElem? (i := 2) rfl))) (mvT hZ (hw _ (List.mem_of_getElem? (i := 3) rfl))) (mvT hZ (hw _ (List.mem_of_getElem? (i := 4) rfl))) (mvT hZ (hw _ (List.mem_of_getElem? (i := 5) rfl))) (by decide) (backOf (W := 0) (rm1 l Z a0 hw [] b254 (0 : Int32) c0 (own_kf ck c0) k254 []  h254 n0 (Nat.le_trans Z0 K0_258.1) V254 rfl (by decide) g_b254) hZ (hw _ (List.mem_of_getElem? (i := 5) rfl)) (hw _ (List.mem_of_getElem? (i := 4) rfl)) (by decide) (by decide)) (g := (mkF m 207 #[.val (.int p0), .val (.int p1), .val (.int p2), .val (.int p3), .val (.int p4), .val (.int (3 : Int32)), .val (.int c0), .val (.int c1), .val (.int c2), .val (.ref b221), .val (.ref b232), .val (.int (own_kf ck c0)), .val (.int (own_kf ck c1)), .val (.int (own_kf ck c2)), .val (.ref b254), .val (.int (0 : Int32)), .unset, .unset, .unset] [(.int (own_kf ck c0)), (.int c0), (.int (0 : Int32)), (.ref b254)])) rfl (by rw [hml]; rfl) (argsL := [(.ref b254), (.int (0 : Int32)), (.int c0), (.int (own_kf ck c0))]) (rest := []) (lenOf pd__28_5bBIBZ_29I rfl) rfl (by show 2 * 0 + _ ≤ _; exact Nat.le_of_eq rfl) (hb hby at_207) (fun _ _ => ⟨rfl, e254, (by decide : 3 + 0 ≤ _), (by decide : 268 + 0 ≤ _)⟩)
    dsimp only [Pt.U, Pt.locs, Pt.cells, Pt.slots] at X257 l257 y257 z257 st257 hQ257
    subst l257 y257 z257
    have ns257 : ∀ x ∈ [b254], ∀ cl : Cell, h254[x]? = some cl → cl.vm.isStatics = false := allS (Arv.nostat V254) all0
    obtain ⟨rfl, N257q, K257, V257⟩ := hQ257
    obtain ⟨_, X257, N257⟩ := own_hide X257 (Fr.app N249 N257q)
    refine own_st st257 ?_
    show own_Go _ _ _ _ T257 (mkF m 210 #[.val (.int p0), .val (.int p1), .val (.int p2), .val (.int p3), .val (.int p4), .val (.int (3 : Int32)), .val (.int c0), .val (.int c1), .val (.int c2), .val (.ref b221), .val (.ref b232), .val (.int (own_kf ck c0)), .val (.int (own_kf ck c1)), .val (.int (own_kf ck c2)), .val (.ref b254), .val (.int (0 : Int32)), .unset, .unset, .unset] [(.int (Int32.ofNat ([] ++ own_enc c0 (own_kf ck c0)).length))])
    refine own_st (fun t k => XS.istore X257.here hx rfl (hb hby at_210) rfl (l' := #[.val (.int p0), .val (.int p1), .val (.int p2), .val (.int p3), .val (.int p4), .val (.int (3 : Int32)), .val (.int c0), .val (.int c1), .val (.int c2), .val (.ref b221), .val (.ref b232), .val (.int (own_kf ck c0)), .val (.int (own_kf ck c1)), .val (.int (own_kf ck c2)), .val (.ref b254), .val (.int (Int32.ofNat ([] ++ own_enc c0 (own_kf ck c0)).length)), .unset, .unset, .unset]) rfl k) ?_
    show own_Go _ _ _ _ T257 (mkF m 212 #[.val (.int p0), .val (.int p1), .val (.int p2), .val (.int p3), .val (.int p4), .val (.int (3 : Int32)), .val (.int c0), .val (.int c1), .val (.int c2), .val (.ref b221), .val (.ref b232), .val (.int (own_kf ck c0)), .val (.int (own_kf ck c1)), .val (.int (own_kf ck c2)), .val (.ref b254), .val (.int (Int32.ofNat ([] ++ own_enc c0 (own_kf ck c0)).length)), .unset, .unset, .unset] [])
    refine own_st (fun t k => XS.iload X257.here hx rfl (hb hby at_212) rfl k) ?_
    refine own_st (fun t k => XS.iconst X257.here hx rfl (hb hby at_214) k) ?_
    refine own_st (fun t k => XS.icmpNo X257.here hx rfl (hb hby at_215) rfl (tlt (by decide : (1 : Int32) < (3 : Int32))).2.2.2 k) ?_
    show own_Go _ _ _ _ T257 (mkF m 218 #[.val (.int p0), .val (.int p1), .val (.int p2), .val (.int p3), .val (.int p4), .val (.int (3 : Int32)), .val (.int c0), .val (.int c1), .val (.int c2), .val (.ref b221), .val (.ref b232), .val (.int (own_kf ck c0)), .val (.int (own_kf ck c1)), .val (.int (own_kf ck c2)), .val (.ref b254), .val (.int (Int32.ofNat ([] ++ own_enc c0 (own_kf ck c0)).length)), .unset, .unset, .unset] [])
    refine own_st (fun t k => XS.aload X257.here hx rfl (hb hby at_218) rfl rfl k) ?_
    refine own_st (fun t k => XS.iload X257.here hx rfl (hb hby at_220) rfl k) ?_
    refine own_st (fun t k => XS.iload X257.here hx rfl (hb hby at_222) rfl k) ?_
    refine own_st (fun t k => XS.iload X257.here hx rfl (hb hby at_224) rfl k) ?_
    show own_Go _ _ _ _ T257 (mkF m 226 #[.val (.int p0), .val (.int p1), .val (.int p2), .val (.int p3), .val (.int p4), .val (.int (3 : Int32)), .val (.int c0), .val (.int c1), .val (.int c2), .val (.ref b221), .val (.ref b232), .val (.int (own_kf ck c0)), .val (.int (own_kf ck c1)), .val (.int (own_kf ck c2)), .val (.ref b254), .val (.int (Int32.ofNat ([] ++ own_enc c0 (own_kf ck c0)).length)), .unset, .unset, .unset] [(.int (own_kf ck c1)), (.int c1), (.int (Int32.ofNat ([] ++ own_enc c0 (own_kf ck c0)).length)), (.ref b254)])
    have K0_260 := (K0_258.trans K257 (allS ((Or.inr sz_b254)) all0))
    obtain ⟨_, _, ⟨T259, L259, k259, n259⟩, -, X259, ⟨Lc259, hQ259, l259, y259, z259⟩, st259⟩ := Jvm.LawKit.callS X257 hx (y := (⟨"shelfmark/IriPatternPercentEncodedPinLaw", "put", "([BIBZ)I"⟩ : MethodName)) hown (mvT hZ (hw _ (List.mem_of_getElem? (i := 2) rfl))) (mvT hZ (hw _ (List.mem_of_getElem? (i := 3) rfl))) (mvT hZ (hw _ (List.mem_of_getElem? (i := 4) rfl))) (mvT hZ (hw _ (List.mem_of_getElem? (i := 5) rfl))) (by decide) (backOf (W := 0) (rm1 l Z a0 hw [] b254 (Int32.ofNat ([] ++ own_enc c0 (own_kf ck c0)).length) c1 (own_kf ck c1) k254 ([] ++ own_enc c0 (own_kf ck c0))  T257.heap n0 (Nat.le_trans Z0 K0_260.1) V257 rfl (by have e0 := own_el3 c0 (own_kf ck c0); have e1 := own_el3 c1 (own_kf ck c1); simp only [List.length_append, List.length_nil]; omega) g_b254) hZ (hw _ (List.mem_of_getElem? (i := 5) rfl)) (hw _ (List.mem_of_getElem? (i := 4) rfl)) (by decide) (by decide)) (g := (mkF m 226 #[.val (.int p0), .val (.int p1), .val (.int p2), .val (.int p3), .val (.int p4), .val (.int (3 : Int32)), .val (.int c0), .val (.int c1), .val (.int c2), .val (.ref b221), .val (.ref b232), .val (.int (own_kf ck c0)), .val (.int (own_kf ck c1)), .val (.int (own_kf ck c2)), .val (.ref b254), .val (.int (Int32.ofNat ([] ++ own_enc c0 (own_kf ck c0)).length)), .unset, .unset, .unset] [(.int (own_kf ck c1)), (.int c1), (.int (Int32.ofNat ([] ++ own_enc c0 (own_kf ck c0)).length)), (.ref b254)])) rfl (by rw [hml]; rfl) (argsL := [(.ref b254), (.int (Int32.ofNat ([] ++ own_enc c0 (own_kf ck c0)).length)), (.int c1), (.int (own_kf ck c1))]) (rest := []) (lenOf pd__28_5bBIBZ_29I rfl) rfl (by show 2 * 0 + _ ≤ _; exact Nat.le_of_eq rfl) (hb hby at_226) (fun _ _ => ⟨rfl, rfl, (by decide : 3 + 0 ≤ _), (by decide : 268 + 0 ≤ _)⟩)
    dsimp only [Pt.U, Pt.locs, Pt.cells, Pt.slots] at X259 l259 y259 z259 st259 hQ259
    subst l259 y259 z259
    have ns259 : ∀ x ∈ [b254], ∀ cl : Cell, T257.heap[x]? = some cl → cl.vm.isStatics = false := allS (Arv.nostat V257) all0
    obtain ⟨rfl, N259q, K259, V259⟩ := hQ259
    obtain ⟨_, X259, N259⟩ := own_hide X259 (Fr.app N257 N259q)
    refine own_st st259 ?_
    show own_Go _ _ _ _ T259 (mkF m 229 #[.val (.int p0), .val (.int p1), .val (.int p2), .val (.int p3), .val (.int p4), .val (.int (3 : Int32)), .val (.int c0), .val (.int c1), .val (.int c2), .val (.ref b221), .val (.ref b232), .val (.int (own_kf ck c0)), .val (.int (own_kf ck c1)), .val (.int (own_kf ck c2)), .val (.ref b254), .val (.int (Int32.ofNat ([] ++ own_enc c0 (own_kf ck c0)).length)), .unset, .unset, .unset] [(.int (Int32.ofNat (([] ++ own_enc c0 (own_kf ck c0)) ++ own_enc c1 (own_kf ck c1)).length))])
    refine own_st (fun t k => XS.istore X259.here hx rfl (hb hby at_229) rfl (l' := #[.val (.int p0), .val (.int p1), .val (.int p2), .val (.int p3), .val (.int p4), .val (.int (3 : Int32)), .val (.int c0), .val (.int c1), .val (.int c2), .val (.ref b221), .val (.ref b232), .val (.int (own_kf ck c0)), .val (.int (own_kf ck c1)), .val (.int (own_kf ck c2)), .val (.ref b254), .val (.int (Int32.ofNat (([] ++ own_enc c0 (own_kf ck c0)) ++ own_enc c1 (own_kf ck c1)).length)), .unset, .unset, .unset]) rfl k) ?_
    show own_Go _ _ _ _ T259 (mkF m 231 #[.val (.int p0), .val (.int p1), .val (.int p2), .val (.int p3), .val (.int p4), .val (.int (3 : Int32)), .val (.int c0), .val (.int c1), .val (.int c2), .val (.ref b221), .val (.ref b232), .val (.int (own_kf ck c0)), .val (.int (own_kf ck c1)), .val (.int (own_kf ck c2)), .val (.ref b254), .val (.int (Int32.ofNat (([] ++ own_enc c0 (own_kf ck c0)) ++ own_enc c1 (own_kf ck c1)).length)), .unset, .unset, .unset] [])
    refine own_st (fun t k => XS.iload X259.here hx rfl (hb hby at_231) rfl k) ?_
    refine own_st (fun t k => XS.iconst X259.here hx rfl (hb hby at_233) k) ?_
    refine own_st (fun t k => XS.icmpNo X259.here hx rfl (hb hby at_234) rfl (tlt (by decide : (2 : Int32) < (3 : Int32))).2.2.2 k) ?_
    show own_Go _ _ _ _ T259 (mkF m 237 #[.val (.int p0), .val (.int p1), .val (.int p2), .val (.int p3), .val (.int p4), .val (.int (3 : Int32)), .val (.int c0), .val (.int c1), .val (.int c2), .val (.ref b221), .val (.ref b232), .val (.int (own_kf ck c0)), .val (.int (own_kf ck c1)), .val (.int (own_kf ck c2)), .val (.ref b254), .val (.int (Int32.ofNat (([] ++ own_enc c0 (own_kf ck c0)) ++ own_enc c1 (own_kf ck c1)).length)), .unset, .unset, .unset] [])
    refine own_st (fun t k => XS.aload X259.here hx rfl (hb hby at_237) rfl rfl k) ?_
    refine own_st (fun t k => XS.iload X259.here hx rfl (hb hby at_239) rfl k) ?_
    refine own_st (fun t k => XS.iload X259.here hx rfl (hb hby at_241) rfl k) ?_
    refine own_st (fun t k => XS.iload X259.here hx rfl (hb hby at_243) rfl k) ?_
    show own_Go _ _ _ _ T259 (mkF m 245 #[.val (.int p0), .val (.int p1), .val (.int p2), .val (.int p3), .val (.int p4), .val (.int (3 : Int32)), .val (.int c0), .val (.int c1), .val (.int c2), .val (.ref b221), .val (.ref b232), .val (.int (own_kf ck c0)), .val (.int (own_kf ck c1)), .val (.int (own_kf ck c2)), .val (.ref b254), .val (.int (Int32.ofNat (([] ++ own_enc c0 (own_kf ck c0)) ++ own_enc c1 (own_kf ck c1)).length)), .unset, .unset, .unset] [(.int (own_kf ck c2)), (.int c2), (.int (Int32.ofNat (([] ++ own_enc c0 (own_kf ck c0)) ++ own_enc c1 (own_kf ck c1)).length)), (.ref b254)])
    have K0_262 := (K0_260.trans K259 (allS ((Or.inr sz_b254)) all0))
    obtain ⟨_, _, ⟨T261, L261, k261, n261⟩, -, X261, ⟨Lc261, hQ261, l261, y261, z261⟩, st261⟩ := Jvm.LawKit.callS X259 hx (y := (⟨"shelfmark/IriPatternPercentEncodedPinLaw", "put", "([BIBZ)I"⟩ : MethodName)) hown (mvT hZ (hw _ (List.mem_of_getElem? (i := 2) rfl))) (mvT hZ (hw _ (List.mem_of_getElem? (i := 3) rfl))) (mvT hZ (hw _ (List.mem_of_getElem? (i := 4) rfl))) (mvT hZ (hw _ (List.mem_of_getElem? (i := 5) rfl))) (by decide) (backOf (W := 0) (rm1 l Z a0 hw [] b254 (Int32.ofNat (([] ++ own_enc c0 (own_kf ck c0)) ++ own_enc c1 (own_kf ck c1)).length) c2 (own_kf ck c2) k254 (([] ++ own_enc c0 (own_kf ck c0)) ++ own_enc c1 (own_kf ck c1))  T259.heap n0 (Nat.le_trans Z0 K0_262.1) V259 rfl (by have e0 := own_el3 c0 (own_kf ck c0); have e1 := own_el3 c1 (own_kf ck c1); simp only [List.length_append, List.length_nil]; omega) g_b254) hZ (hw _ (List.mem_of_getElem? (i := 5) rfl)) (hw _ (List.mem_of_getElem? (i := 4) rfl)) (by decide) (by decide)) (g := (mkF m 245 #[.val (.int p0), .val (.int p1), .val (.int p2), .val (.int p3), .val (.int p4), .val (.int (3 : Int32)), .val (.int c0), .val (.int c1), .val (.int c2), .val (.ref b221), .val (.ref b232), .val (.int (own_kf ck c0)), .val (.int (own_kf ck c1)), .val (.int (own_kf ck c2)), .val (.ref b254), .val (.int (Int32.ofNat (([] ++ own_enc c0 (own_kf ck c0)) ++ own_enc c1 (own_kf ck c1)).length)), .unset, .unset, .unset] [(.int (own_kf ck c2)), (.int c2), (.int (Int32.ofNat (([] ++ own_enc c0 (own_kf ck c0)) ++ own_enc c1 (own_kf ck c1)).length)), (.ref b254)])) rfl (by rw [hml]; rfl) (argsL := [(.ref b254), (.int (Int32.ofNat (([] ++ own_enc c0 (own_kf ck c0)) ++ own_enc c1 (own_kf ck c1)).length)), (.int c2), (.int (own_kf ck c2))]) (rest := []) (lenOf pd__28_5bBIBZ_29I rfl) rfl (by show 2 * 0 + _ ≤ _; exact Nat.le_of_eq rfl) (hb hby at_245) (fun _ _ => ⟨rfl, rfl, (by decide : 3 + 0 ≤ _), (by decide : 268 + 0 ≤ _)⟩)
    dsimp only [Pt.U, Pt.locs, Pt.cells, Pt.slots] at X261 l261 y261 z261 st261 hQ261
    subst l261 y261 z261
    have ns261 : ∀ x ∈ [b254], ∀ cl : Cell, T259.heap[x]? = some cl → cl.vm.isStatics = false := allS (Arv.nostat V259) all0
    obtain ⟨rfl, N261q, K261, V261⟩ := hQ261
    obtain ⟨_, X261, N261⟩ := own_hide X261 (Fr.app N259 N261q)
    refine own_st st261 ?_
    show own_Go _ _ _ _ T261 (mkF m 248 #[.val (.int p0), .val (.int p1), .val (.int p2), .val (.int p3), .val (.int p4), .val (.int (3 : Int32)), .val (.int c0), .val (.int c1), .val (.int c2), .val (.ref b221), .val (.ref b232), .val (.int (own_kf ck c0)), .val (.int (own_kf ck c1)), .val (.int (own_kf ck c2)), .val (.ref b254), .val (.int (Int32.ofNat (([] ++ own_enc c0 (own_kf ck c0)) ++ own_enc c1 (own_kf ck c1)).length)), .unset, .unset, .unset] [(.int (Int32.ofNat ((([] ++ own_enc c0 (own_kf ck c0)) ++ own_enc c1 (own_kf ck c1)) ++ own_enc c2 (own_kf ck c2)).length))])
    refine own_st (fun t k => XS.istore X261.here hx rfl (hb hby at_248) rfl (l' := #[.val (.int p0), .val (.int p1), .val (.int p2), .val (.int p3), .val (.int p4), .val (.int (3 : Int32)), .val (.int c0), .val (.int c1), .val (.int c2), .val (.ref b221), .val (.ref b232), .val (.int (own_kf ck c0)), .val (.int (own_kf ck c1)), .val (.int (own_kf ck c2)), .val (.ref b254), .val (.int (Int32.ofNat ((([] ++ own_enc c0 (own_kf ck c0)) ++ own_enc c1 (own_kf ck c1)) ++ own_enc c2 (own_kf ck c2)).length)), .unset, .unset, .unset]) rfl k) ?_
    show own_Go _ _ _ _ T261 (mkF m 250 #[.val (.int p0), .val (.int p1), .val (.int p2), .val (.int p3), .val (.int p4), .val (.int (3 : Int32)), .val (.int c0), .val (.int c1), .val (.int c2), .val (.ref b221), .val (.ref b232), .val (.int (own_kf ck c0)), .val (.int (own_kf ck c1)), .val (.int (own_kf ck c2)), .val (.ref b254), .val (.int (Int32.ofNat ((([] ++ own_enc c0 (own_kf ck c0)) ++ own_enc c1 (own_kf ck c1)) ++ own_enc c2 (own_kf ck c2)).length)), .unset, .unset, .unset] [])
    have hfl263 : ((([] ++ own_enc c0 (own_kf ck c0)) ++ own_enc c1 (own_kf ck c1)) ++ own_enc c2 (own_kf ck c2)) = (own_flat (own_kf ck) [c0, c1, c2]) := by simp [own_flat]
    have Vx : own_X Z T261.heap b254 k254 9 (own_flat (own_kf ck) [c0, c1, c2]) := hfl263 ▸ V261
    rw [hfl263]
    show own_Go _ _ _ _ T261 (mkF m 250 #[.val (.int p0), .val (.int p1), .val (.int p2), .val (.int p3), .val (.int p4), .val (.int (3 : Int32)), .val (.int c0), .val (.int c1), .val (.int c2), .val (.ref b221), .val (.ref b232), .val (.int (own_kf ck c0)), .val (.int (own_kf ck c1)), .val (.int (own_kf ck c2)), .val (.ref b254), .val (.int (Int32.ofNat (own_flat (own_kf ck) [c0, c1, c2]).length)), .unset, .unset, .unset] [])
    obtain ⟨mm, hmm⟩ : ∃ z, z = Int32.ofNat (own_flat (own_kf ck) [c0, c1, c2]).length := ⟨_, rfl⟩
    rw [← hmm]
    obtain ⟨d0, hd0⟩ : ∃ z, z = own_kf ck c0 := ⟨_, rfl⟩
    rw [← hd0]
    obtain ⟨d1, hd1⟩ : ∃ z, z = own_kf ck c1 := ⟨_, rfl⟩
    rw [← hd1]
    obtain ⟨d2, hd2⟩ : ∃ z, z = own_kf ck c2 := ⟨_, rfl⟩
    rw [← hd2]
    show own_Go _ _ _ _ T261 (mkF m 250 #[.val (.int p0), .val (.int p1), .val (.int p2), .val (.int p3), .val (.int p4), .val (.int (3 : Int32)), .val (.int c0), .val (.int c1), .val (.int c2), .val (.ref b221), .val (.ref b232), .val (.int d0), .val (.int d1), .val (.int d2), .val (.ref b254), .val (.int mm), .unset, .unset, .unset] [])
    refine own_st (fun t k => XS.iload X261.here hx rfl (hb hby at_250) rfl k) ?_
    refine own_st (fun t k => XS.iload X261.here hx rfl (hb hby at_252) rfl k) ?_
    by_cases c254_264 : mm = (3 : Int32)
    ·
      refine own_st (fun t k => XS.icmpNo X261.here hx rfl (hb hby at_254) rfl (teq c254_264).2 k) ?_
      show own_Go _ _ _ _ T261 (mkF m 257 #[.val (.int p0), .val (.int p1), .val (.int p2), .val (.int p3), .val (.int p4), .val (.int (3 : Int32)), .val (.int c0), .val (.int c1), .val (.int c2), .val (.ref b221), .val (.ref b232), .val (.int d0), .val (.int d1), .val (.int d2), .val (.ref b254), .val (.int mm), .unset, .unset, .unset] [])
      refine own_st (fun t k => XS.iconst X261.here hx rfl (hb hby at_257) k) ?_
      refine own_st (fun t k => XS.goto X261.here hx rfl (pc0 := 258) (pc' := 262) rfl (hb hby at_258) (by decide) (by decide) k) ?_
      show own_Go _ _ _ _ T261 (mkF m 262 #[.val (.int p0), .val (.int p1), .val (.int p2), .val (.int p3), .val (.int p4), .val (.int (3 : Int32)), .val (.int c0), .val (.int c1), .val (.int c2), .val (.ref b221), .val (.ref b232), .val (.int d0), .val (.int d1), .val (.int d2), .val (.ref b254), .val (.int mm), .unset, .unset, .unset] [(.int (1 : Int32))])
      refine own_st (fun t k => XS.istore X261.here hx rfl (hb hby at_262) rfl (l' := #[.val (.int p0), .val (.int p1), .val (.int p2), .val (.int p3), .val (.int p4), .val (.int (3 : Int32)), .val (.int c0), .val (.int c1), .val (.int c2), .val (.ref b221), .val (.ref b232), .val (.int d0), .val (.int d1), .val (.int d2), .val (.ref b254), .val (.int mm), .val (.int (1 : Int32)), .unset, .unset]) rfl k) ?_
      show own_Go _ _ _ _ T261 (mkF m 264 #[.val (.int p0), .val (.int p1), .val (.int p2), .val (.int p3), .val (.int p4), .val (.int (3 : Int32)), .val (.int c0), .val (.int c1), .val (.int c2), .val (.ref b221), .val (.ref b232), .val (.int d0), .val (.int d1), .val (.int d2), .val (.ref b254), .val (.int mm), .val (.int (1 : Int32)), .unset, .unset] [])
      refine own_st (fun t k => XS.aload X261.here hx rfl (hb hby at_264) rfl rfl k) ?_
      refine own_st (fun t k => XS.aload X261.here hx rfl (hb hby at_266) rfl rfl k) ?_
      show own_Go _ _ _ _ T261 (mkF m 268 #[.val (.int p0), .val (.int p1), .val (.int p2), .val (.int p3), .val (.int p4), .val (.int (3 : Int32)), .val (.int c0), .val (.int c1), .val (.int c2), .val (.ref b221), .val (.ref b232), .val (.int d0), .val (.int d1), .val (.int d2), .val (.ref b254), .val (.int mm), .val (.int (1 : Int32)), .unset, .unset] [(.ref b232), (.ref b221)])
      have V230_265 := ((((V230_256.ext E254).keep K257 (ninS ne_b221_b254 nin0)).keep K259 (ninS ne_b221_b254 nin0)).keep K261 (ninS ne_b221_b254 nin0))
      have Ark_266 := (own_arr_keep (own_arr_keep (own_arr_keep (Tk.1.ext E254) K257 (ninS ne_b232_b254 nin0)) K259 (ninS ne_b232_b254 nin0)) K261 (ninS ne_b232_b254 nin0))
      have Sh_267 := (own_sta_keep (own_sta_keep (own_sta_keep ((((((((((S_H.ext E221).wr W224).wr W227).wr W230).ext E232).wr W237).wr W241).wr W245).wr W249).ext E254) K257 ns257) K259 ns259) K261 ns261)
      have Arh_268 := (own_arr_keep (own_arr_keep (own_arr_keep (Arh_255.ext E254) K257 (ninS ne_ra_b254 nin0)) K259 (ninS ne_ra_b254 nin0)) K261 (ninS ne_ra_b254 nin0))
      have K0_270 := (K0_262.trans K261 (allS ((Or.inr sz_b254)) all0))
      obtain ⟨_, _, ⟨T269, L269, k269, n269⟩, -, X269, ⟨Lc269, hQ269, l269, y269, z269⟩, st269⟩ := Jvm.LawKit.callS X261 hx (y := (⟨"shelfmark/IriPattern", "percentEncoded", "([B[Z)[B"⟩ : MethodName)) hown (mvT hZ (hw _ (List.mem_of_getElem? (i := 9) rfl))) (mvT hZ (hw _ (List.mem_of_getElem? (i := 10) rfl))) (mvT hZ (hw _ (List.mem_of_getElem? (i := 11) rfl))) (mvT hZ (hw _ (List.mem_of_getElem? (i := 12) rfl))) (by decide) (backOf (W := 0) (rm3 l Z a0 hw [] b221 b232 k221 [c0, c1, c2] ck ra ch  T261.heap n0 (Nat.le_trans Z0 K0_270.1) V230_265 (Nat.le_of_ble_eq_true rfl) (by intro b hb; simp only [List.mem_cons, List.not_mem_nil, or_false] at hb; rcases hb with rfl | rfl | rfl; all_goals assumption) ⟨Ark_266, Tk.2⟩ Sh_267 Arh_268 hH) hZ (hw _ (List.mem_of_getElem? (i := 12) rfl)) (hw _ (List.mem_of_getElem? (i := 11) rfl)) (by decide) (by decide)) (g := (mkF m 268 #[.val (.int p0), .val (.int p1), .val (.int p2), .val (.int p3), .val (.int p4), .val (.int (3 : Int32)), .val (.int c0), .val (.int c1), .val (.int c2), .val (.ref b221), .val (.ref b232), .val (.int d0), .val (.int d1), .val (.int d2), .val (.ref b254), .val (.int mm), .val (.int (1 : Int32)), .unset, .unset] [(.ref b232), (.ref b221)])) rfl (by rw [hml]; rfl) (argsL := [(.ref b221), (.ref b232)]) (rest := []) (lenOf pd__28_5bB_5bZ_29_5bB rfl) rfl (by show 2 * 0 + _ ≤ _; exact Nat.le_of_eq rfl) (hb hby at_268) (fun _ _ => ⟨rfl, rfl, (by decide : 3 + 1 ≤ _), (by decide : 268 + 9 ≤ _)⟩)
      dsimp only [Pt.U, Pt.locs, Pt.cells, Pt.slots] at X269 l269 y269 z269 st269 hQ269
      subst l269 y269 z269
      obtain ⟨b269, k269, rfl, N269q, K269, hbu, V269⟩ := hQ269
      obtain ⟨_, X269, N269⟩ := own_hide X269 (Fr.app N261 N269q)
      refine own_st st269 ?_
      show own_Go _ _ _ _ T269 (mkF m 271 #[.val (.int p0), .val (.int p1), .val (.int p2), .val (.int p3), .val (.int p4), .val (.int (3 : Int32)), .val (.int c0), .val (.int c1), .val (.int c2), .val (.ref b221), .val (.ref b232), .val (.int d0), .val (.int d1), .val (.int d2), .val (.ref b254), .val (.int mm), .val (.int (1 : Int32)), .unset, .unset] [(.ref b269)])
      refine own_st (fun t k => XS.astore X269.here hx rfl (hb hby at_271) rfl rfl (l' := #[.val (.int p0), .val (.int p1), .val (.int p2), .val (.int p3), .val (.int p4), .val (.int (3 : Int32)), .val (.int c0), .val (.int c1), .val (.int c2), .val (.ref b221), .val (.ref b232), .val (.int d0), .val (.int d1), .val (.int d2), .val (.ref b254), .val (.int mm), .val (.int (1 : Int32)), .val (.ref b269), .unset]) rfl k) ?_
      show own_Go _ _ _ _ T269 (mkF m 273 #[.val (.int p0), .val (.int p1), .val (.int p2), .val (.int p3), .val (.int p4), .val (.int (3 : Int32)), .val (.int c0), .val (.int c1), .val (.int c2), .val (.ref b221), .val (.ref b232), .val (.int d0), .val (.int d1), .val (.int d2), .val (.ref b254), .val (.int mm), .val (.int (1 : Int32)), .val (.ref b269), .unset] [])
      refine own_st (fun t k => XS.aload X269.here hx rfl (hb hby at_273) rfl rfl k) ?_
      show own_Go _ _ _ _ T269 (mkF m 275 #[.val (.int p0), .val (.int p1), .val (.int p2), .val (.int p3), .val (.int p4), .val (.int (3 : Int32)), .val (.int c0), .val (.int c1), .val (.int c2), .val (.ref b221), .val (.ref b232), .val (.int d0), .val (.int d1), .val (.int d2), .val (.ref b254), .val (.int mm), .val (.int (1 : Int32)), .val (.ref b269), .unset] [(.ref b269)])
      refine own_st (fun t k => XS.ifnullNo X269.here hx rfl (hb hby at_275) rfl k) ?_
      show own_Go _ _ _ _ T269 (mkF m 278 #[.val (.int p0), .val (.int p1), .val (.int p2), .val (.int p3), .val (.int p4), .val (.int (3 : Int32)), .val (.int c0), .val (.int c1), .val (.int c2), .val (.ref b221), .val (.ref b232), .val (.int d0), .val (.int d1), .val (.int d2), .val (.ref b254), .val (.int mm), .val (.int (1 : Int32)), .val (.ref b269), .unset] [])
      refine own_st (fun t k => XS.aload X269.here hx rfl (hb hby at_278) rfl rfl k) ?_
      show own_Go _ _ _ _ T269 (mkF m 280 #[.val (.int p0), .val (.int p1), .val (.int p2), .val (.int p3), .val (.int p4), .val (.int (3 : Int32)), .val (.int c0), .val (.int c1), .val (.int c2), .val (.ref b221), .val (.ref b232), .val (.int d0), .val (.int d1), .val (.int d2), .val (.ref b254), .val (.int mm), .val (.int (1 : Int32)), .val (.ref b269), .unset] [(.ref b269)])
      obtain ⟨cl271, Ar271, qk271, Sz271, Nn271, Hs271, Gf271⟩ := id V269
      refine own_st (X269.arraylength hx (id Ar271.1) (State.isArrayOf_alike hZ.alike Ar271.2.1) (g := (mkF m 280 #[.val (.int p0), .val (.int p1), .val (.int p2), .val (.int p3), .val (.int p4), .val (.int (3 : Int32)), .val (.int c0), .val (.int c1), .val (.int c2), .val (.ref b221), .val (.ref b232), .val (.int d0), .val (.int d1), .val (.int d2), .val (.ref b254), .val (.int mm), .val (.int (1 : Int32)), .val (.ref b269), .unset] [(.ref b269)])) rfl rfl (hb hby at_280)) ?_
      rw [len_of Sz271 Nn271]
      show own_Go _ _ _ _ T269 (mkF m 281 #[.val (.int p0), .val (.int p1), .val (.int p2), .val (.int p3), .val (.int p4), .val (.int (3 : Int32)), .val (.int c0), .val (.int c1), .val (.int c2), .val (.ref b221), .val (.ref b232), .val (.int d0), .val (.int d1), .val (.int d2), .val (.ref b254), .val (.int mm), .val (.int (1 : Int32)), .val (.ref b269), .unset] [(.int (Int32.ofNat (own_flat (own_kf ck) [c0, c1, c2]).length))])
      refine own_st (fun t k => XS.iload X269.here hx rfl (hb hby at_281) rfl k) ?_
      refine own_st (fun t k => XS.icmpYes X269.here hx rfl (pc0 := 283) (pc' := 288) rfl (hb hby at_283) rfl (teq hmm.symm).1 (by decide) (by decide) k) ?_
      show own_Go _ _ _ _ T269 (mkF m 288 #[.val (.int p0), .val (.int p1), .val (.int p2), .val (.int p3), .val (.int p4), .val (.int (3 : Int32)), .val (.int c0), .val (.int c1), .val (.int c2), .val (.ref b221), .val (.ref b232), .val (.int d0), .val (.int d1), .val (.int d2), .val (.ref b254), .val (.int mm), .val (.int (1 : Int32)), .val (.ref b269), .unset] [])
      refine own_st (fun t k => XS.iload X269.here hx rfl (hb hby at_288) rfl k) ?_
      refine own_st (fun t k => XS.ifNo X269.here hx rfl (hb hby at_290) rfl ((if0 _ _).trans (feq (by decide : ¬ ((1 : Int32) = (0 : Int32)))).1) k) ?_
      show own_Go _ _ _ _ T269 (mkF m 293 #[.val (.int p0), .val (.int p1), .val (.int p2), .val (.int p3), .val (.int p4), .val (.int (3 : Int32)), .val (.int c0), .val (.int c1), .val (.int c2), .val (.ref b221), .val (.ref b232), .val (.int d0), .val (.int d1), .val (.int d2), .val (.ref b254), .val (.int mm), .val (.int (1 : Int32)), .val (.ref b269), .unset] [])
      refine own_st (fun t k => XS.aload X269.here hx rfl (hb hby at_293) rfl rfl k) ?_
      refine own_st (fun t k => XS.aload X269.here hx rfl (hb hby at_295) rfl rfl k) ?_
      show own_Go _ _ _ _ T269 (mkF m 297 #[.val (.int p0), .val (.int p1), .val (.int p2), .val (.int p3), .val (.int p4), .val (.int (3 : Int32)), .val (.int c0), .val (.int c1), .val (.int c2), .val (.ref b221), .val (.ref b232), .val (.int d0), .val (.int d1), .val (.int d2), .val (.ref b254), .val (.int mm), .val (.int (1 : Int32)), .val (.ref b269), .unset] [(.ref b221), (.ref b269)])
      refine own_st (fun t k => Jvm.RoadKit.acmp (g := (mkF m 297 #[.val (.int p0), .val (.int p1), .val (.int p2), .val (.int p3), .val (.int p4), .val (.int (3 : Int32)), .val (.int c0), .val (.int c1), .val (.int c2), .val (.ref b221), .val (.ref b232), .val (.int d0), .val (.int d1), .val (.int d2), .val (.ref b254), .val (.int mm), .val (.int (1 : Int32)), .val (.ref b269), .unset] [(.ref b221), (.ref b269)])) X269 hx rfl rfl rfl (pc0 := 297) (pc' := 302) (same := true) rfl (hb hby at_297) rfl (decide_eq_true (congrArg Value.ref ((hbu (own_cnt0 (own_kf ck) [c0, c1, c2] (Nat.le_of_ble_eq_true rfl) (hmm.symm.trans c254_264))) : b269 = b221))) (by decide) (by decide) k) ?_
      show own_Go _ _ _ _ T269 (mkF m 302 #[.val (.int p0), .val (.int p1), .val (.int p2), .val (.int p3), .val (.int p4), .val (.int (3 : Int32)), .val (.int c0), .val (.int c1), .val (.int c2), .val (.ref b221), .val (.ref b232), .val (.int d0), .val (.int d1), .val (.int d2), .val (.ref b254), .val (.int mm), .val (.int (1 : Int32)), .val (.ref b269), .unset] [])
      refine own_st (fun t k => XS.iload X269.here hx rfl (hb hby at_302) rfl k) ?_
      refine own_st (fun t k => XS.iconst X269.here hx rfl (hb hby at_304) k) ?_
      refine own_st (fun t k => XS.icmpNo X269.here hx rfl (hb hby at_305) rfl (flt (by decide : ¬ ((3 : Int32) < (1 : Int32)))).1 k) ?_
      show own_Go _ _ _ _ T269 (mkF m 308 #[.val (.int p0), .val (.int p1), .val (.int p2), .val (.int p3), .val (.int p4), .val (.int (3 : Int32)), .val (.int c0), .val (.int c1), .val (.int c2), .val (.ref b221), .val (.ref b232), .val (.int d0), .val (.int d1), .val (.int d2), .val (.ref b254), .val (.int mm), .val (.int (1 : Int32)), .val (.ref b269), .unset] [])
      refine own_st (fun t k => XS.aload X269.here hx rfl (hb hby at_308) rfl rfl k) ?_
      refine own_st (fun t k => XS.iconst X269.here hx rfl (hb hby at_310) k) ?_
      show own_Go _ _ _ _ T269 (mkF m 311 #[.val (.int p0), .val (.int p1), .val (.int p2), .val (.int p3), .val (.int p4), .val (.int (3 : Int32)), .val (.int c0), .val (.int c1), .val (.int c2), .val (.ref b221), .val (.ref b232), .val (.int d0), .val (.int d1), .val (.int d2), .val (.ref b254), .val (.int mm), .val (.int (1 : Int32)), .val (.ref b269), .unset] [(.int (0 : Int32)), (.ref b221)])
      have V230_273 := (V230_265.keep K269 nin0)
      obtain ⟨cl272, Ar272, qk272, Sz272, Nn272, Hs272, Gf272⟩ := id V230_273
      have hin272 : ¬ ((0 : Int32) < 0 ∨ cl272.slots.size ≤ ((0 : Int32)).toNatClampNeg) := inb_of Sz272 ⟨by decide, by decide⟩
      have hat272 : cl272.slots[((0 : Int32)).toNatClampNeg]? = some (.int c0) := Has.at Hs272 hin272 rfl
      refine own_st (X269.baloadBytes hx (j := (0 : Int32)) (v := (.int c0)) (id Ar272.1) (State.isArrayOf_alike hZ.alike Ar272.2.1) Ar272.2.2 hin272 hat272 (g := (mkF m 311 #[.val (.int p0), .val (.int p1), .val (.int p2), .val (.int p3), .val (.int p4), .val (.int (3 : Int32)), .val (.int c0), .val (.int c1), .val (.int c2), .val (.ref b221), .val (.ref b232), .val (.int d0), .val (.int d1), .val (.int d2), .val (.ref b254), .val (.int mm), .val (.int (1 : Int32)), .val (.ref b269), .unset] [(.int (0 : Int32)), (.ref b221)])) rfl rfl (hb hby at_311)) ?_
      show own_Go _ _ _ _ T269 (mkF m 312 #[.val (.int p0), .val (.int p1), .val (.int p2), .val (.int p3), .val (.int p4), .val (.int (3 : Int32)), .val (.int c0), .val (.int c1), .val (.int c2), .val (.ref b221), .val (.ref b232), .val (.int d0), .val (.int d1), .val (.int d2), .val (.ref b254), .val (.int mm), .val (.int (1 : Int32)), .val (.ref b269), .unset] [(.int c0)])
      refine own_st (fun t k => XS.iload X269.here hx rfl (hb hby at_312) rfl k) ?_
      refine own_st (fun t k => XS.icmpNo X269.here hx rfl (hb hby at_314) rfl (teq rfl).2 k) ?_
      show own_Go _ _ _ _ T269 (mkF m 317 #[.val (.int p0), .val (.int p1), .val (.int p2), .val (.int p3), .val (.int p4), .val (.int (3 : Int32)), .val (.int c0), .val (.int c1), .val (.int c2), .val (.ref b221), .val (.ref b232), .val (.int d0), .val (.int d1), .val (.int d2), .val (.ref b254), .val (.int mm), .val (.int (1 : Int32)), .val (.ref b269), .unset] [])
      refine own_st (fun t k => XS.iload X269.here hx rfl (hb hby at_317) rfl k) ?_
      refine own_st (fun t k => XS.iconst X269.here hx rfl (hb hby at_319) k) ?_
      refine own_st (fun t k => XS.icmpNo X269.here hx rfl (hb hby at_320) rfl (flt (by decide : ¬ ((3 : Int32) < (2 : Int32)))).1 k) ?_
      show own_Go _ _ _ _ T269 (mkF m 323 #[.val (.int p0), .val (.int p1), .val (.int p2), .val (.int p3), .val (.int p4), .val (.int (3 : Int32)), .val (.int c0), .val (.int c1), .val (.int c2), .val (.ref b221), .val (.ref b232), .val (.int d0), .val (.int d1), .val (.int d2), .val (.ref b254), .val (.int mm), .val (.int (1 : Int32)), .val (.ref b269), .unset] [])
      refine own_st (fun t k => XS.aload X269.here hx rfl (hb hby at_323) rfl rfl k) ?_
      refine own_st (fun t k => XS.iconst X269.here hx rfl (hb hby at_325) k) ?_
      show own_Go _ _ _ _ T269 (mkF m 326 #[.val (.int p0), .val (.int p1), .val (.int p2), .val (.int p3), .val (.int p4), .val (.int (3 : Int32)), .val (.int c0), .val (.int c1), .val (.int c2), .val (.ref b221), .val (.ref b232), .val (.int d0), .val (.int d1), .val (.int d2), .val (.ref b254), .val (.int mm), .val (.int (1 : Int32)), .val (.ref b269), .unset] [(.int (1 : Int32)), (.ref b221)])
      obtain ⟨cl274, Ar274, qk274, Sz274, Nn274, Hs274, Gf274⟩ := id V230_273
      have hin274 : ¬ ((1 : Int32) < 0 ∨ cl274.slots.size ≤ ((1 : Int32)).toNatClampNeg) := inb_of Sz274 ⟨by decide, by decide⟩
      have hat274 : cl274.slots[((1 : Int32)).toNatClampNeg]? = some (.int c1) := Has.at Hs274 hin274 rfl
      refine own_st (X269.baloadBytes hx (j := (1 : Int32)) (v := (.int c1)) (id Ar274.1) (State.isArrayOf_alike hZ.alike Ar274.2.1) Ar274.2.2 hin274 hat274 (g := (mkF m 326 #[.val (.int p0), .val (.int p1), .val (.int p2), .val (.int p3), .val (.int p4), .val (.int (3 : Int32)), .val (.int c0), .val (.int c1), .val (.int c2), .val (.ref b221), .val (.ref b232), .val (.int d0), .val (.int d1), .val (.int d2), .val (.ref b254), .val (.int mm), .val (.int (1 : Int32)), .val (.ref b269), .unset] [(.int (1 : Int32)), (.ref b221)])) rfl rfl (hb hby at_326)) ?_
      show own_Go _ _ _ _ T269 (mkF m 327 #[.val (.int p0), .val (.int p1), .val (.int p2), .val (.int p3), .val (.int p4), .val (.int (3 : Int32)), .val (.int c0), .val (.int c1), .val (.int c2), .val (.ref b221), .val (.ref b232), .val (.int d0), .val (.int d1), .val (.int d2), .val (.ref b254), .val (.int mm), .val (.int (1 : Int32)), .val (.ref b269), .unset] [(.int c1)])
      refine own_st (fun t k => XS.iload X269.here hx rfl (hb hby at_327) rfl k) ?_
      refine own_st (fun t k => XS.icmpNo X269.here hx rfl (hb hby at_329) rfl (teq rfl).2 k) ?_
      show own_Go _ _ _ _ T269 (mkF m 332 #[.val (.int p0), .val (.int p1), .val (.int p2), .val (.int p3), .val (.int p4), .val (.int (3 : Int32)), .val (.int c0), .val (.int c1), .val (.int c2), .val (.ref b221), .val (.ref b232), .val (.int d0), .val (.int d1), .val (.int d2), .val (.ref b254), .val (.int mm), .val (.int (1 : Int32)), .val (.ref b269), .unset] [])
      refine own_st (fun t k => XS.iload X269.here hx rfl (hb hby at_332) rfl k) ?_
      refine own_st (fun t k => XS.iconst X269.here hx rfl (hb hby at_334) k) ?_
      refine own_st (fun t k => XS.icmpNo X269.here hx rfl (hb hby at_335) rfl (flt (by decide : ¬ ((3 : Int32) < (3 : Int32)))).1 k) ?_
      show own_Go _ _ _ _ T269 (mkF m 338 #[.val (.int p0), .val (.int p1), .val (.int p2), .val (.int p3), .val (.int p4), .val (.int (3 : Int32)), .val (.int c0), .val (.int c1), .val (.int c2), .val (.ref b221), .val (.ref b232), .val (.int d0), .val (.int d1), .val (.int d2), .val (.ref b254), .val (.int mm), .val (.int (1 : Int32)), .val (.ref b269), .unset] [])
      refine own_st (fun t k => XS.aload X269.here hx rfl (hb hby at_338) rfl rfl k) ?_
      refine own_st (fun t k => XS.iconst X269.here hx rfl (hb hby at_340) k) ?_
      show own_Go _ _ _ _ T269 (mkF m 341 #[.val (.int p0), .val (.int p1), .val (.int p2), .val (.int p3), .val (.int p4), .val (.int (3 : Int32)), .val (.int c0), .val (.int c1), .val (.int c2), .val (.ref b221), .val (.ref b232), .val (.int d0), .val (.int d1), .val (.int d2), .val (.ref b254), .val (.int mm), .val (.int (1 : Int32)), .val (.ref b269), .unset] [(.int (2 : Int32)), (.ref b221)])
      obtain ⟨cl275, Ar275, qk275, Sz275, Nn275, Hs275, Gf275⟩ := id V230_273
      have hin275 : ¬ ((2 : Int32) < 0 ∨ cl275.slots.size ≤ ((2 : Int32)).toNatClampNeg) := inb_of Sz275 ⟨by decide, by decide⟩
      have hat275 : cl275.slots[((2 : Int32)).toNatClampNeg]? = some (.int c2) := Has.at Hs275 hin275 rfl
      refine own_st (X269.baloadBytes hx (j := (2 : Int32)) (v := (.int c2)) (id Ar275.1) (State.isArrayOf_alike hZ.alike Ar275.2.1) Ar275.2.2 hin275 hat275 (g := (mkF m 341 #[.val (.int p0), .val (.int p1), .val (.int p2), .val (.int p3), .val (.int p4), .val (.int (3 : Int32)), .val (.int c0), .val (.int c1), .val (.int c2), .val (.ref b221), .val (.ref b232), .val (.int d0), .val (.int d1), .val (.int d2), .val (.ref b254), .val (.int mm), .val (.int (1 : Int32)), .val (.ref b269), .unset] [(.int (2 : Int32)), (.ref b221)])) rfl rfl (hb hby at_341)) ?_
      show own_Go _ _ _ _ T269 (mkF m 342 #[.val (.int p0), .val (.int p1), .val (.int p2), .val (.int p3), .val (.int p4), .val (.int (3 : Int32)), .val (.int c0), .val (.int c1), .val (.int c2), .val (.ref b221), .val (.ref b232), .val (.int d0), .val (.int d1), .val (.int d2), .val (.ref b254), .val (.int mm), .val (.int (1 : Int32)), .val (.ref b269), .unset] [(.int c2)])
      refine own_st (fun t k => XS.iload X269.here hx rfl (hb hby at_342) rfl k) ?_
      refine own_st (fun t k => XS.icmpNo X269.here hx rfl (hb hby at_344) rfl (teq rfl).2 k) ?_
      show own_Go _ _ _ _ T269 (mkF m 347 #[.val (.int p0), .val (.int p1), .val (.int p2), .val (.int p3), .val (.int p4), .val (.int (3 : Int32)), .val (.int c0), .val (.int c1), .val (.int c2), .val (.ref b221), .val (.ref b232), .val (.int d0), .val (.int d1), .val (.int d2), .val (.ref b254), .val (.int mm), .val (.int (1 : Int32)), .val (.ref b269), .unset] [])
      refine own_st (fun t k => XS.iconst X269.here hx rfl (hb hby at_347) k) ?_
      refine own_st (fun t k => XS.goto X269.here hx rfl (pc0 := 348) (pc' := 352) rfl (hb hby at_348) (by decide) (by decide) k) ?_
      show own_Go _ _ _ _ T269 (mkF m 352 #[.val (.int p0), .val (.int p1), .val (.int p2), .val (.int p3), .val (.int p4), .val (.int (3 : Int32)), .val (.int c0), .val (.int c1), .val (.int c2), .val (.ref b221), .val (.ref b232), .val (.int d0), .val (.int d1), .val (.int d2), .val (.ref b254), .val (.int mm), .val (.int (1 : Int32)), .val (.ref b269), .unset] [(.int (1 : Int32))])
      refine own_st (fun t k => XS.istore X269.here hx rfl (hb hby at_352) rfl (l' := #[.val (.int p0), .val (.int p1), .val (.int p2), .val (.int p3), .val (.int p4), .val (.int (3 : Int32)), .val (.int c0), .val (.int c1), .val (.int c2), .val (.ref b221), .val (.ref b232), .val (.int d0), .val (.int d1), .val (.int d2), .val (.ref b254), .val (.int mm), .val (.int (1 : Int32)), .val (.ref b269), .val (.int (1 : Int32))]) rfl k) ?_
      show own_Go _ _ _ _ T269 (mkF m 354 #[.val (.int p0), .val (.int p1), .val (.int p2), .val (.int p3), .val (.int p4), .val (.int (3 : Int32)), .val (.int c0), .val (.int c1), .val (.int c2), .val (.ref b221), .val (.ref b232), .val (.int d0), .val (.int d1), .val (.int d2), .val (.ref b254), .val (.int mm), .val (.int (1 : Int32)), .val (.ref b269), .val (.int (1 : Int32))] [])
      obtain ⟨cr, Arr_r, -, Szr, -, Hsr, -⟩ := id V269
      have Vx_276 := (Vx.keep K269 nin0)
      obtain ⟨ce, Arr_e, -, Sze, -, Hse, -⟩ := id Vx_276
      have h9 := own_flat9 (own_kf ck) (bs := [c0, c1, c2]) (Nat.le_of_ble_eq_true rfl)
      refine own_st (fun t k => XS.iload X269.here hx rfl (hb hby at_354) rfl k) ?_
      refine own_st (fun t k => XS.ifNo X269.here hx rfl (hb hby at_356) rfl ((if0 _ _).trans (feq (by decide : ¬ ((1 : Int32) = (0 : Int32)))).1) k) ?_
      show own_Go _ _ _ _ T269 (mkF m 359 #[.val (.int p0), .val (.int p1), .val (.int p2), .val (.int p3), .val (.int p4), .val (.int (3 : Int32)), .val (.int c0), .val (.int c1), .val (.int c2), .val (.ref b221), .val (.ref b232), .val (.int d0), .val (.int d1), .val (.int d2), .val (.ref b254), .val (.int mm), .val (.int (1 : Int32)), .val (.ref b269), .val (.int (1 : Int32))] [])
      refine own_st (fun t k => XS.aload X269.here hx rfl (hb hby at_359) rfl rfl k) ?_
      refine own_st (fun t k => XS.aload X269.here hx rfl (hb hby at_361) rfl rfl k) ?_
      refine own_st (fun t k => XS.iconst X269.here hx rfl (hb hby at_363) k) ?_
      refine own_st (fun t k => XS.iload X269.here hx rfl (hb hby at_364) rfl k) ?_
      show own_Go _ _ _ _ T269 (mkF m 366 #[.val (.int p0), .val (.int p1), .val (.int p2), .val (.int p3), .val (.int p4), .val (.int (3 : Int32)), .val (.int c0), .val (.int c1), .val (.int c2), .val (.ref b221), .val (.ref b232), .val (.int d0), .val (.int d1), .val (.int d2), .val (.ref b254), .val (.int mm), .val (.int (1 : Int32)), .val (.ref b269), .val (.int (1 : Int32))] [(.int mm), (.int (0 : Int32)), (.ref b254), (.ref b269)])
      have K0_278 := (K0_270.trans K269 (all0))
      obtain ⟨_, _, ⟨T277, L277, k277, n277⟩, -, X277, ⟨Lc277, hQ277, l277, y277, z277⟩, st277⟩ := Jvm.LawKit.callS X269 hx (y := (⟨"shelfmark/IriPatternPercentEncodedPinLaw", "same", "([B[BII)Z"⟩ : MethodName)) hown (mvT hZ (hw _ (List.mem_of_getElem? (i := 15) rfl))) (mvT hZ (hw _ (List.mem_of_getElem? (i := 16) rfl))) (mvT hZ (hw _ (List.mem_of_getElem? (i := 4) rfl))) (mvT hZ (hw _ (List.mem_of_getElem? (i := 17) rfl))) (by decide) (backOf (W := 0) (rm4 l Z a0 hw [] b269 b254 (0 : Int32) mm cr ce  T269.heap n0 (Nat.le_trans Z0 K0_278.1) Arr_r Arr_e (by rw [hmm]; exact own_hs h9 Szr Hsr Sze Hse 0 (by decide))) hZ (hw _ (List.mem_of_getElem? (i := 17) rfl)) (hw _ (List.mem_of_getElem? (i := 4) rfl)) (by decide) (by decide)) (g := (mkF m 366 #[.val (.int p0), .val (.int p1), .val (.int p2), .val (.int p3), .val (.int p4), .val (.int (3 : Int32)), .val (.int c0), .val (.int c1), .val (.int c2), .val (.ref b221), .val (.ref b232), .val (.int d0), .val (.int d1), .val (.int d2), .val (.ref b254), .val (.int mm), .val (.int (1 : Int32)), .val (.ref b269), .val (.int (1 : Int32))] [(.int mm), (.int (0 : Int32)), (.ref b254), (.ref b269)])) rfl (by rw [hml]; rfl) (argsL := [(.ref b269), (.ref b254), (.int (0 : Int32)), (.int mm)]) (rest := []) (lenOf pd__28_5bB_5bBII_29Z rfl) rfl (by show 2 * 0 + _ ≤ _; exact Nat.le_of_eq rfl) (hb hby at_366) (fun _ _ => ⟨rfl, rfl, (by decide : 4 + 0 ≤ _), (by decide : 277 + 0 ≤ _)⟩)
      dsimp only [Pt.U, Pt.locs, Pt.cells, Pt.slots] at X277 l277 y277 z277 st277 hQ277
      subst l277 y277 z277
      obtain ⟨rfl, N277q, e277⟩ := hQ277
      obtain ⟨_, X277, N277⟩ := own_hide X277 (Fr.app N269 N277q)
      refine own_st st277 ?_
      show own_Go _ _ _ _ T277 (mkF m 369 #[.val (.int p0), .val (.int p1), .val (.int p2), .val (.int p3), .val (.int p4), .val (.int (3 : Int32)), .val (.int c0), .val (.int c1), .val (.int c2), .val (.ref b221), .val (.ref b232), .val (.int d0), .val (.int d1), .val (.int d2), .val (.ref b254), .val (.int mm), .val (.int (1 : Int32)), .val (.ref b269), .val (.int (1 : Int32))] [(.int (1 : Int32))])
      refine own_st (fun t k => XS.ifNo X277.here hx rfl (hb hby at_369) rfl ((if0 _ _).trans (feq (by decide : ¬ ((1 : Int32) = (0 : Int32)))).1) k) ?_
      show own_Go _ _ _ _ T277 (mkF m 372 #[.val (.int p0), .val (.int p1), .val (.int p2), .val (.int p3), .val (.int p4), .val (.int (3 : Int32)), .val (.int c0), .val (.int c1), .val (.int c2), .val (.ref b221), .val (.ref b232), .val (.int d0), .val (.int d1), .val (.int d2), .val (.ref b254), .val (.int mm), .val (.int (1 : Int32)), .val (.ref b269), .val (.int (1 : Int32))] [])
      refine own_st (fun t k => XS.aload X277.here hx rfl (hb hby at_372) rfl rfl k) ?_
      refine own_st (fun t k => XS.aload X277.here hx rfl (hb hby at_374) rfl rfl k) ?_
      refine own_st (fun t k => XS.iconst X277.here hx rfl (hb hby at_376) k) ?_
      refine own_st (fun t k => XS.iload X277.here hx rfl (hb hby at_377) rfl k) ?_
      show own_Go _ _ _ _ T277 (mkF m 379 #[.val (.int p0), .val (.int p1), .val (.int p2), .val (.int p3), .val (.int p4), .val (.int (3 : Int32)), .val (.int c0), .val (.int c1), .val (.int c2), .val (.ref b221), .val (.ref b232), .val (.int d0), .val (.int d1), .val (.int d2), .val (.ref b254), .val (.int mm), .val (.int (1 : Int32)), .val (.ref b269), .val (.int (1 : Int32))] [(.int mm), (.int (1 : Int32)), (.ref b254), (.ref b269)])
      obtain ⟨_, _, ⟨T279, L279, k279, n279⟩, -, X279, ⟨Lc279, hQ279, l279, y279, z279⟩, st279⟩ := Jvm.LawKit.callS X277 hx (y := (⟨"shelfmark/IriPatternPercentEncodedPinLaw", "same", "([B[BII)Z"⟩ : MethodName)) hown (mvT hZ (hw _ (List.mem_of_getElem? (i := 15) rfl))) (mvT hZ (hw _ (List.mem_of_getElem? (i := 16) rfl))) (mvT hZ (hw _ (List.mem_of_getElem? (i := 4) rfl))) (mvT hZ (hw _ (List.mem_of_getElem? (i := 17) rfl))) (by decide) (backOf (W := 0) (rm4 l Z a0 hw [] b269 b254 (1 : Int32) mm cr ce  T269.heap n0 (Nat.le_trans Z0 K0_278.1) Arr_r Arr_e (by rw [hmm]; exact own_hs h9 Szr Hsr Sze Hse 1 (by decide))) hZ (hw _ (List.mem_of_getElem? (i := 17) rfl)) (hw _ (List.mem_of_getElem? (i := 4) rfl)) (by decide) (by decide)) (g := (mkF m 379 #[.val (.int p0), .val (.int p1), .val (.int p2), .val (.int p3), .val (.int p4), .val (.int (3 : Int32)), .val (.int c0), .val (.int c1), .val (.int c2), .val (.ref b221), .val (.ref b232), .val (.int d0), .val (.int d1), .val (.int d2), .val (.ref b254), .val (.int mm), .val (.int (1 : Int32)), .val (.ref b269), .val (.int (1 : Int32))] [(.int mm), (.int (1 : Int32)), (.ref b254), (.ref b269)])) rfl (by rw [hml]; rfl) (argsL := [(.ref b269), (.ref b254), (.int (1 : Int32)), (.int mm)]) (rest := []) (lenOf pd__28_5bB_5bBII_29Z rfl) rfl (by show 2 * 0 + _ ≤ _; exact Nat.le_of_eq rfl) (hb hby at_379) (fun _ _ => ⟨rfl, e277, (by decide : 4 + 0 ≤ _), (by decide : 277 + 0 ≤ _)⟩)
      dsimp only [Pt.U, Pt.locs, Pt.cells, Pt.slots] at X279 l279 y279 z279 st279 hQ279
      subst l279 y279 z279
      obtain ⟨rfl, N279q, e279⟩ := hQ279
      obtain ⟨_, X279, N279⟩ := own_hide X279 (Fr.app N277 N279q)
      refine own_st st279 ?_
      show own_Go _ _ _ _ T279 (mkF m 382 #[.val (.int p0), .val (.int p1), .val (.int p2), .val (.int p3), .val (.int p4), .val (.int (3 : Int32)), .val (.int c0), .val (.int c1), .val (.int c2), .val (.ref b221), .val (.ref b232), .val (.int d0), .val (.int d1), .val (.int d2), .val (.ref b254), .val (.int mm), .val (.int (1 : Int32)), .val (.ref b269), .val (.int (1 : Int32))] [(.int (1 : Int32))])
      refine own_st (fun t k => XS.ifNo X279.here hx rfl (hb hby at_382) rfl ((if0 _ _).trans (feq (by decide : ¬ ((1 : Int32) = (0 : Int32)))).1) k) ?_
      show own_Go _ _ _ _ T279 (mkF m 385 #[.val (.int p0), .val (.int p1), .val (.int p2), .val (.int p3), .val (.int p4), .val (.int (3 : Int32)), .val (.int c0), .val (.int c1), .val (.int c2), .val (.ref b221), .val (.ref b232), .val (.int d0), .val (.int d1), .val (.int d2), .val (.ref b254), .val (.int mm), .val (.int (1 : Int32)), .val (.ref b269), .val (.int (1 : Int32))] [])
      refine own_st (fun t k => XS.aload X279.here hx rfl (hb hby at_385) rfl rfl k) ?_
      refine own_st (fun t k => XS.aload X279.here hx rfl (hb hby at_387) rfl rfl k) ?_
      refine own_st (fun t k => XS.iconst X279.here hx rfl (hb hby at_389) k) ?_
      refine own_st (fun t k => XS.iload X279.here hx rfl (hb hby at_390) rfl k) ?_
      show own_Go _ _ _ _ T279 (mkF m 392 #[.val (.int p0), .val (.int p1), .val (.int p2), .val (.int p3), .val (.int p4), .val (.int (3 : Int32)), .val (.int c0), .val (.int c1), .val (.int c2), .val (.ref b221), .val (.ref b232), .val (.int d0), .val (.int d1), .val (.int d2), .val (.ref b254), .val (.int mm), .val (.int (1 : Int32)), .val (.ref b269), .val (.int (1 : Int32))] [(.int mm), (.int (2 : Int32)), (.ref b254), (.ref b269)])
      obtain ⟨_, _, ⟨T280, L280, k280, n280⟩, -, X280, ⟨Lc280, hQ280, l280, y280, z280⟩, st280⟩ := Jvm.LawKit.callS X279 hx (y := (⟨"shelfmark/IriPatternPercentEncodedPinLaw", "same", "([B[BII)Z"⟩ : MethodName)) hown (mvT hZ (hw _ (List.mem_of_getElem? (i := 15) rfl))) (mvT hZ (hw _ (List.mem_of_getElem? (i := 16) rfl))) (mvT hZ (hw _ (List.mem_of_getElem? (i := 4) rfl))) (mvT hZ (hw _ (List.mem_of_getElem? (i := 17) rfl))) (by decide) (backOf (W := 0) (rm4 l Z a0 hw [] b269 b254 (2 : Int32) mm cr ce  T269.heap n0 (Nat.le_trans Z0 K0_278.1) Arr_r Arr_e (by rw [hmm]; exact own_hs h9 Szr Hsr Sze Hse 2 (by decide))) hZ (hw _ (List.mem_of_getElem? (i := 17) rfl)) (hw _ (List.mem_of_getElem? (i := 4) rfl)) (by decide) (by decide)) (g := (mkF m 392 #[.val (.int p0), .val (.int p1), .val (.int p2), .val (.int p3), .val (.int p4), .val (.int (3 : Int32)), .val (.int c0), .val (.int c1), .val (.int c2), .val (.ref b221), .val (.ref b232), .val (.int d0), .val (.int d1), .val (.int d2), .val (.ref b254), .val (.int mm), .val (.int (1 : Int32)), .val (.ref b269), .val (.int (1 : Int32))] [(.int mm), (.int (2 : Int32)), (.ref b254), (.ref b269)])) rfl (by rw [hml]; rfl) (argsL := [(.ref b269), (.ref b254), (.int (2 : Int32)), (.int mm)]) (rest := []) (lenOf pd__28_5bB_5bBII_29Z rfl) rfl (by show 2 * 0 + _ ≤ _; exact Nat.le_of_eq rfl) (hb hby at_392) (fun _ _ => ⟨rfl, e279, (by decide : 4 + 0 ≤ _), (by decide : 277 + 0 ≤ _)⟩)
      dsimp only [Pt.U, Pt.locs, Pt.cells, Pt.slots] at X280 l280 y280 z280 st280 hQ280
      subst l280 y280 z280
      obtain ⟨rfl, N280q, e280⟩ := hQ280
      obtain ⟨_, X280, N280⟩ := own_hide X280 (Fr.app N279 N280q)
      refine own_st st280 ?_
      show own_Go _ _ _ _ T280 (mkF m 395 #[.val (.int p0), .val (.int p1), .val (.int p2), .val (.int p3), .val (.int p4), .val (.int (3 : Int32)), .val (.int c0), .val (.int c1), .val (.int c2), .val (.ref b221), .val (.ref b232), .val (.int d0), .val (.int d1), .val (.int d2), .val (.ref b254), .val (.int mm), .val (.int (1 : Int32)), .val (.ref b269), .val (.int (1 : Int32))] [(.int (1 : Int32))])
      refine own_st (fun t k => XS.ifNo X280.here hx rfl (hb hby at_395) rfl ((if0 _ _).trans (feq (by decide : ¬ ((1 : Int32) = (0 : Int32)))).1) k) ?_
      show own_Go _ _ _ _ T280 (mkF m 398 #[.val (.int p0), .val (.int p1), .val (.int p2), .val (.int p3), .val (.int p4), .val (.int (3 : Int32)), .val (.int c0), .val (.int c1), .val (.int c2), .val (.ref b221), .val (.ref b232), .val (.int d0), .val (.int d1), .val (.int d2), .val (.ref b254), .val (.int mm), .val (.int (1 : Int32)), .val (.ref b269), .val (.int (1 : Int32))] [])
      refine own_st (fun t k => XS.aload X280.here hx rfl (hb hby at_398) rfl rfl k) ?_
      refine own_st (fun t k => XS.aload X280.here hx rfl (hb hby at_400) rfl rfl k) ?_
      refine own_st (fun t k => XS.iconst X280.here hx rfl (hb hby at_402) k) ?_
      refine own_st (fun t k => XS.iload X280.here hx rfl (hb hby at_403) rfl k) ?_
      show own_Go _ _ _ _ T280 (mkF m 405 #[.val (.int p0), .val (.int p1), .val (.int p2), .val (.int p3), .val (.int p4), .val (.int (3 : Int32)), .val (.int c0), .val (.int c1), .val (.int c2), .val (.ref b221), .val (.ref b232), .val (.int d0), .val (.int d1), .val (.int d2), .val (.ref b254), .val (.int mm), .val (.int (1 : Int32)), .val (.ref b269), .val (.int (1 : Int32))] [(.int mm), (.int (3 : Int32)), (.ref b254), (.ref b269)])
      obtain ⟨_, _, ⟨T281, L281, k281, n281⟩, -, X281, ⟨Lc281, hQ281, l281, y281, z281⟩, st281⟩ := Jvm.LawKit.callS X280 hx (y := (⟨"shelfmark/IriPatternPercentEncodedPinLaw", "same", "([B[BII)Z"⟩ : MethodName)) hown (mvT hZ (hw _ (List.mem_of_getElem? (i := 15) rfl))) (mvT hZ (hw _ (List.mem_of_getElem? (i := 16) rfl))) (mvT hZ (hw _ (List.mem_of_getElem? (i := 4) rfl))) (mvT hZ (hw _ (List.mem_of_getElem? (i := 17) rfl))) (by decide) (backOf (W := 0) (rm4 l Z a0 hw [] b269 b254 (3 : Int32) mm cr ce  T269.heap n0 (Nat.le_trans Z0 K0_278.1) Arr_r Arr_e (by rw [hmm]; exact own_hs h9 Szr Hsr Sze Hse 3 (by decide))) hZ (hw _ (List.mem_of_getElem? (i := 17) rfl)) (hw _ (List.mem_of_getElem? (i := 4) rfl)) (by decide) (by decide)) (g := (mkF m 405 #[.val (.int p0), .val (.int p1), .val (.int p2), .val (.int p3), .val (.int p4), .val (.int (3 : Int32)), .val (.int c0), .val (.int c1), .val (.int c2), .val (.ref b221), .val (.ref b232), .val (.int d0), .val (.int d1), .val (.int d2), .val (.ref b254), .val (.int mm), .val (.int (1 : Int32)), .val (.ref b269), .val (.int (1 : Int32))] [(.int mm), (.int (3 : Int32)), (.ref b254), (.ref b269)])) rfl (by rw [hml]; rfl) (argsL := [(.ref b269), (.ref b254), (.int (3 : Int32)), (.int mm)]) (rest := []) (lenOf pd__28_5bB_5bBII_29Z rfl) rfl (by show 2 * 0 + _ ≤ _; exact Nat.le_of_eq rfl) (hb hby at_405) (fun _ _ => ⟨rfl, e280, (by decide : 4 + 0 ≤ _), (by decide : 277 + 0 ≤ _)⟩)
      dsimp only [Pt.U, Pt.locs, Pt.cells, Pt.slots] at X281 l281 y281 z281 st281 hQ281
      subst l281 y281 z281
      obtain ⟨rfl, N281q, e281⟩ := hQ281
      obtain ⟨_, X281, N281⟩ := own_hide X281 (Fr.app N280 N281q)
      refine own_st st281 ?_
      show own_Go _ _ _ _ T281 (mkF m 408 #[.val (.int p0), .val (.int p1), .val (.int p2), .val (.int p3), .val (.int p4), .val (.int (3 : Int32)), .val (.int c0), .val (.int c1), .val (.int c2), .val (.ref b221), .val (.ref b232), .val (.int d0), .val (.int d1), .val (.int d2), .val (.ref b254), .val (.int mm), .val (.int (1 : Int32)), .val (.ref b269), .val (.int (1 : Int32))] [(.int (1 : Int32))])
      refine own_st (fun t k => XS.ifNo X281.here hx rfl (hb hby at_408) rfl ((if0 _ _).trans (feq (by decide : ¬ ((1 : Int32) = (0 : Int32)))).1) k) ?_
      show own_Go _ _ _ _ T281 (mkF m 411 #[.val (.int p0), .val (.int p1), .val (.int p2), .val (.int p3), .val (.int p4), .val (.int (3 : Int32)), .val (.int c0), .val (.int c1), .val (.int c2), .val (.ref b221), .val (.ref b232), .val (.int d0), .val (.int d1), .val (.int d2), .val (.ref b254), .val (.int mm), .val (.int (1 : Int32)), .val (.ref b269), .val (.int (1 : Int32))] [])
      refine own_st (fun t k => XS.aload X281.here hx rfl (hb hby at_411) rfl rfl k) ?_
      refine own_st (fun t k => XS.aload X281.here hx rfl (hb hby at_413) rfl rfl k) ?_
      refine own_st (fun t k => XS.iconst X281.here hx rfl (hb hby at_415) k) ?_
      refine own_st (fun t k => XS.iload X281.here hx rfl (hb hby at_416) rfl k) ?_
      show own_Go _ _ _ _ T281 (mkF m 418 #[.val (.int p0), .val (.int p1), .val (.int p2), .val (.int p3), .val (.int p4), .val (.int (3 : Int32)), .val (.int c0), .val (.int c1), .val (.int c2), .val (.ref b221), .val (.ref b232), .val (.int d0), .val (.int d1), .val (.int d2), .val (.ref b254), .val (.int mm), .val (.int (1 : Int32)), .val (.ref b269), .val (.int (1 : Int32))] [(.int mm), (.int (4 : Int32)), (.ref b254), (.ref b269)])
      obtain ⟨_, _, ⟨T282, L282, k282, n282⟩, -, X282, ⟨Lc282, hQ282, l282, y282, z282⟩, st282⟩ := Jvm.LawKit.callS X281 hx (y := (⟨"shelfmark/IriPatternPercentEncodedPinLaw", "same", "([B[BII)Z"⟩ : MethodName)) hown (mvT hZ (hw _ (List.mem_of_getElem? (i := 15) rfl))) (mvT hZ (hw _ (List.mem_of_getElem? (i := 16) rfl))) (mvT hZ (hw _ (List.mem_of_getElem? (i := 4) rfl))) (mvT hZ (hw _ (List.mem_of_getElem? (i := 17) rfl))) (by decide) (backOf (W := 0) (rm4 l Z a0 hw [] b269 b254 (4 : Int32) mm cr ce  T269.heap n0 (Nat.le_trans Z0 K0_278.1) Arr_r Arr_e (by rw [hmm]; exact own_hs h9 Szr Hsr Sze Hse 4 (by decide))) hZ (hw _ (List.mem_of_getElem? (i := 17) rfl)) (hw _ (List.mem_of_getElem? (i := 4) rfl)) (by decide) (by decide)) (g := (mkF m 418 #[.val (.int p0), .val (.int p1), .val (.int p2), .val (.int p3), .val (.int p4), .val (.int (3 : Int32)), .val (.int c0), .val (.int c1), .val (.int c2), .val (.ref b221), .val (.ref b232), .val (.int d0), .val (.int d1), .val (.int d2), .val (.ref b254), .val (.int mm), .val (.int (1 : Int32)), .val (.ref b269), .val (.int (1 : Int32))] [(.int mm), (.int (4 : Int32)), (.ref b254), (.ref b269)])) rfl (by rw [hml]; rfl) (argsL := [(.ref b269), (.ref b254), (.int (4 : Int32)), (.int mm)]) (rest := []) (lenOf pd__28_5bB_5bBII_29Z rfl) rfl (by show 2 * 0 + _ ≤ _; exact Nat.le_of_eq rfl) (hb hby at_418) (fun _ _ => ⟨rfl, e281, (by decide : 4 + 0 ≤ _), (by decide : 277 + 0 ≤ _)⟩)
      dsimp only [Pt.U, Pt.locs, Pt.cells, Pt.slots] at X282 l282 y282 z282 st282 hQ282
      subst l282 y282 z282
      obtain ⟨rfl, N282q, e282⟩ := hQ282
      obtain ⟨_, X282, N282⟩ := own_hide X282 (Fr.app N281 N282q)
      refine own_st st282 ?_
      show own_Go _ _ _ _ T282 (mkF m 421 #[.val (.int p0), .val (.int p1), .val (.int p2), .val (.int p3), .val (.int p4), .val (.int (3 : Int32)), .val (.int c0), .val (.int c1), .val (.int c2), .val (.ref b221), .val (.ref b232), .val (.int d0), .val (.int d1), .val (.int d2), .val (.ref b254), .val (.int mm), .val (.int (1 : Int32)), .val (.ref b269), .val (.int (1 : Int32))] [(.int (1 : Int32))])
      refine own_st (fun t k => XS.ifNo X282.here hx rfl (hb hby at_421) rfl ((if0 _ _).trans (feq (by decide : ¬ ((1 : Int32) = (0 : Int32)))).1) k) ?_
      show own_Go _ _ _ _ T282 (mkF m 424 #[.val (.int p0), .val (.int p1), .val (.int p2), .val (.int p3), .val (.int p4), .val (.int (3 : Int32)), .val (.int c0), .val (.int c1), .val (.int c2), .val (.ref b221), .val (.ref b232), .val (.int d0), .val (.int d1), .val (.int d2), .val (.ref b254), .val (.int mm), .val (.int (1 : Int32)), .val (.ref b269), .val (.int (1 : Int32))] [])
      refine own_st (fun t k => XS.aload X282.here hx rfl (hb hby at_424) rfl rfl k) ?_
      refine own_st (fun t k => XS.aload X282.here hx rfl (hb hby at_426) rfl rfl k) ?_
      refine own_st (fun t k => XS.iconst X282.here hx rfl (hb hby at_428) k) ?_
      refine own_st (fun t k => XS.iload X282.here hx rfl (hb hby at_429) rfl k) ?_
      show own_Go _ _ _ _ T282 (mkF m 431 #[.val (.int p0), .val (.int p1), .val (.int p2), .val (.int p3), .val (.int p4), .val (.int (3 : Int32)), .val (.int c0), .val (.int c1), .val (.int c2), .val (.ref b221), .val (.ref b232), .val (.int d0), .val (.int d1), .val (.int d2), .val (.ref b254), .val (.int mm), .val (.int (1 : Int32)), .val (.ref b269), .val (.int (1 : Int32))] [(.int mm), (.int (5 : Int32)), (.ref b254), (.ref b269)])
      obtain ⟨_, _, ⟨T283, L283, k283, n283⟩, -, X283, ⟨Lc283, hQ283, l283, y283, z283⟩, st283⟩ := Jvm.LawKit.callS X282 hx (y := (⟨"shelfmark/IriPatternPercentEncodedPinLaw", "same", "([B[BII)Z"⟩ : MethodName)) hown (mvT hZ (hw _ (List.mem_of_getElem? (i := 15) rfl))) (mvT hZ (hw _ (List.mem_of_getElem? (i := 16) rfl))) (mvT hZ (hw _ (List.mem_of_getElem? (i := 4) rfl))) (mvT hZ (hw _ (List.mem_of_getElem? (i := 17) rfl))) (by decide) (backOf (W := 0) (rm4 l Z a0 hw [] b269 b254 (5 : Int32) mm cr ce  T269.heap n0 (Nat.le_trans Z0 K0_278.1) Arr_r Arr_e (by rw [hmm]; exact own_hs h9 Szr Hsr Sze Hse 5 (by decide))) hZ (hw _ (List.mem_of_getElem? (i := 17) rfl)) (hw _ (List.mem_of_getElem? (i := 4) rfl)) (by decide) (by decide)) (g := (mkF m 431 #[.val (.int p0), .val (.int p1), .val (.int p2), .val (.int p3), .val (.int p4), .val (.int (3 : Int32)), .val (.int c0), .val (.int c1), .val (.int c2), .val (.ref b221), .val (.ref b232), .val (.int d0), .val (.int d1), .val (.int d2), .val (.ref b254), .val (.int mm), .val (.int (1 : Int32)), .val (.ref b269), .val (.int (1 : Int32))] [(.int mm), (.int (5 : Int32)), (.ref b254), (.ref b269)])) rfl (by rw [hml]; rfl) (argsL := [(.ref b269), (.ref b254), (.int (5 : Int32)), (.int mm)]) (rest := []) (lenOf pd__28_5bB_5bBII_29Z rfl) rfl (by show 2 * 0 + _ ≤ _; exact Nat.le_of_eq rfl) (hb hby at_431) (fun _ _ => ⟨rfl, e282, (by decide : 4 + 0 ≤ _), (by decide : 277 + 0 ≤ _)⟩)
      dsimp only [Pt.U, Pt.locs, Pt.cells, Pt.slots] at X283 l283 y283 z283 st283 hQ283
      subst l283 y283 z283
      obtain ⟨rfl, N283q, e283⟩ := hQ283
      obtain ⟨_, X283, N283⟩ := own_hide X283 (Fr.app N282 N283q)
      refine own_st st283 ?_
      show own_Go _ _ _ _ T283 (mkF m 434 #[.val (.int p0), .val (.int p1), .val (.int p2), .val (.int p3), .val (.int p4), .val (.int (3 : Int32)), .val (.int c0), .val (.int c1), .val (.int c2), .val (.ref b221), .val (.ref b232), .val (.int d0), .val (.int d1), .val (.int d2), .val (.ref b254), .val (.int mm), .val (.int (1 : Int32)), .val (.ref b269), .val (.int (1 : Int32))] [(.int (1 : Int32))])
      refine own_st (fun t k => XS.ifNo X283.here hx rfl (hb hby at_434) rfl ((if0 _ _).trans (feq (by decide : ¬ ((1 : Int32) = (0 : Int32)))).1) k) ?_
      show own_Go _ _ _ _ T283 (mkF m 437 #[.val (.int p0), .val (.int p1), .val (.int p2), .val (.int p3), .val (.int p4), .val (.int (3 : Int32)), .val (.int c0), .val (.int c1), .val (.int c2), .val (.ref b221), .val (.ref b232), .val (.int d0), .val (.int d1), .val (.int d2), .val (.ref b254), .val (.int mm), .val (.int (1 : Int32)), .val (.ref b269), .val (.int (1 : Int32))] [])
      refine own_st (fun t k => XS.aload X283.here hx rfl (hb hby at_437) rfl rfl k) ?_
      refine own_st (fun t k => XS.aload X283.here hx rfl (hb hby at_439) rfl rfl k) ?_
      refine own_st (fun t k => XS.bipush X283.here hx rfl (hb hby at_441) k) ?_
      refine own_st (fun t k => XS.iload X283.here hx rfl (hb hby at_443) rfl k) ?_
      show own_Go _ _ _ _ T283 (mkF m 445 #[.val (.int p0), .val (.int p1), .val (.int p2), .val (.int p3), .val (.int p4), .val (.int (3 : Int32)), .val (.int c0), .val (.int c1), .val (.int c2), .val (.ref b221), .val (.ref b232), .val (.int d0), .val (.int d1), .val (.int d2), .val (.ref b254), .val (.int mm), .val (.int (1 : Int32)), .val (.ref b269), .val (.int (1 : Int32))] [(.int mm), (.int (6 : Int32)), (.ref b254), (.ref b269)])
      obtain ⟨_, _, ⟨T284, L284, k284, n284⟩, -, X284, ⟨Lc284, hQ284, l284, y284, z284⟩, st284⟩ := Jvm.LawKit.callS X283 hx (y := (⟨"shelfmark/IriPatternPercentEncodedPinLaw", "same", "([B[BII)Z"⟩ : MethodName)) hown (mvT hZ (hw _ (List.mem_of_getElem? (i := 15) rfl))) (mvT hZ (hw _ (List.mem_of_getElem? (i := 16) rfl))) (mvT hZ (hw _ (List.mem_of_getElem? (i := 4) rfl))) (mvT hZ (hw _ (List.mem_of_getElem? (i := 17) rfl))) (by decide) (backOf (W := 0) (rm4 l Z a0 hw [] b269 b254 (6 : Int32) mm cr ce  T269.heap n0 (Nat.le_trans Z0 K0_278.1) Arr_r Arr_e (by rw [hmm]; exact own_hs h9 Szr Hsr Sze Hse 6 (by decide))) hZ (hw _ (List.mem_of_getElem? (i := 17) rfl)) (hw _ (List.mem_of_getElem? (i := 4) rfl)) (by decide) (by decide)) (g := (mkF m 445 #[.val (.int p0), .val (.int p1), .val (.int p2), .val (.int p3), .val (.int p4), .val (.int (3 : Int32)), .val (.int c0), .val (.int c1), .val (.int c2), .val (.ref b221), .val (.ref b232), .val (.int d0), .val (.int d1), .val (.int d2), .val (.ref b254), .val (.int mm), .val (.int (1 : Int32)), .val (.ref b269), .val (.int (1 : Int32))] [(.int mm), (.int (6 : Int32)), (.ref b254), (.ref b269)])) rfl (by rw [hml]; rfl) (argsL := [(.ref b269), (.ref b254), (.int (6 : Int32)), (.int mm)]) (rest := []) (lenOf pd__28_5bB_5bBII_29Z rfl) rfl (by show 2 * 0 + _ ≤ _; exact Nat.le_of_eq rfl) (hb hby at_445) (fun _ _ => ⟨rfl, e283, (by decide : 4 + 0 ≤ _), (by decide : 277 + 0 ≤ _)⟩)
      dsimp only [Pt.U, Pt.locs, Pt.cells, Pt.slots] at X284 l284 y284 z284 st284 hQ284
      subst l284 y284 z284
      obtain ⟨rfl, N284q, e284⟩ := hQ284
      obtain ⟨_, X284, N284⟩ := own_hide X284 (Fr.app N283 N284q)
      refine own_st st284 ?_
      show own_Go _ _ _ _ T284 (mkF m 448 #[.val (.int p0), .val (.int p1), .val (.int p2), .val (.int p3), .val (.int p4), .val (.int (3 : Int32)), .val (.int c0), .val (.int c1), .val (.int c2), .val (.ref b221), .val (.ref b232), .val (.int d0), .val (.int d1), .val (.int d2), .val (.ref b254), .val (.int mm), .val (.int (1 : Int32)), .val (.ref b269), .val (.int (1 : Int32))] [(.int (1 : Int32))])
      refine own_st (fun t k => XS.ifNo X284.here hx rfl (hb hby at_448) rfl ((if0 _ _).trans (feq (by decide : ¬ ((1 : Int32) = (0 : Int32)))).1) k) ?_
      show own_Go _ _ _ _ T284 (mkF m 451 #[.val (.int p0), .val (.int p1), .val (.int p2), .val (.int p3), .val (.int p4), .val (.int (3 : Int32)), .val (.int c0), .val (.int c1), .val (.int c2), .val (.ref b221), .val (.ref b232), .val (.int d0), .val (.int d1), .val (.int d2), .val (.ref b254), .val (.int mm), .val (.int (1 : Int32)), .val (.ref b269), .val (.int (1 : Int32))] [])
      refine own_st (fun t k => XS.aload X284.here hx rfl (hb hby at_451) rfl rfl k) ?_
      refine own_st (fun t k => XS.aload X284.here hx rfl (hb hby at_453) rfl rfl k) ?_
      refine own_st (fun t k => XS.bipush X284.here hx rfl (hb hby at_455) k) ?_
      refine own_st (fun t k => XS.iload X284.here hx rfl (hb hby at_457) rfl k) ?_
      show own_Go _ _ _ _ T284 (mkF m 459 #[.val (.int p0), .val (.int p1), .val (.int p2), .val (.int p3), .val (.int p4), .val (.int (3 : Int32)), .val (.int c0), .val (.int c1), .val (.int c2), .val (.ref b221), .val (.ref b232), .val (.int d0), .val (.int d1), .val (.int d2), .val (.ref b254), .val (.int mm), .val (.int (1 : Int32)), .val (.ref b269), .val (.int (1 : Int32))] [(.int mm), (.int (7 : Int32)), (.ref b254), (.ref b269)])
      obtain ⟨_, _, ⟨T285, L285, k285, n285⟩, -, X285, ⟨Lc285, hQ285, l285, y285, z285⟩, st285⟩ := Jvm.LawKit.callS X284 hx (y := (⟨"shelfmark/IriPatternPercentEncodedPinLaw", "same", "([B[BII)Z"⟩ : MethodName)) hown (mvT hZ (hw _ (List.mem_of_getElem? (i := 15) rfl))) (mvT hZ (hw _ (List.mem_of_getElem? (i := 16) rfl))) (mvT hZ (hw _ (List.mem_of_getElem? (i := 4) rfl))) (mvT hZ (hw _ (List.mem_of_getElem? (i := 17) rfl))) (by decide) (backOf (W := 0) (rm4 l Z a0 hw [] b269 b254 (7 : Int32) mm cr ce  T269.heap n0 (Nat.le_trans Z0 K0_278.1) Arr_r Arr_e (by rw [hmm]; exact own_hs h9 Szr Hsr Sze Hse 7 (by decide))) hZ (hw _ (List.mem_of_getElem? (i := 17) rfl)) (hw _ (List.mem_of_getElem? (i := 4) rfl)) (by decide) (by decide)) (g := (mkF m 459 #[.val (.int p0), .val (.int p1), .val (.int p2), .val (.int p3), .val (.int p4), .val (.int (3 : Int32)), .val (.int c0), .val (.int c1), .val (.int c2), .val (.ref b221), .val (.ref b232), .val (.int d0), .val (.int d1), .val (.int d2), .val (.ref b254), .val (.int mm), .val (.int (1 : Int32)), .val (.ref b269), .val (.int (1 : Int32))] [(.int mm), (.int (7 : Int32)), (.ref b254), (.ref b269)])) rfl (by rw [hml]; rfl) (argsL := [(.ref b269), (.ref b254), (.int (7 : Int32)), (.int mm)]) (rest := []) (lenOf pd__28_5bB_5bBII_29Z rfl) rfl (by show 2 * 0 + _ ≤ _; exact Nat.le_of_eq rfl) (hb hby at_459) (fun _ _ => ⟨rfl, e284, (by decide : 4 + 0 ≤ _), (by decide : 277 + 0 ≤ _)⟩)
      dsimp only [Pt.U, Pt.locs, Pt.cells, Pt.slots] at X285 l285 y285 z285 st285 hQ285
      subst l285 y285 z285
      obtain ⟨rfl, N285q, e285⟩ := hQ285
      obtain ⟨_, X285, N285⟩ := own_hide X285 (Fr.app N284 N285q)
      refine own_st st285 ?_
      show own_Go _ _ _ _ T285 (mkF m 462 #[.val (.int p0), .val (.int p1), .val (.int p2), .val (.int p3), .val (.int p4), .val (.int (3 : Int32)), .val (.int c0), .val (.int c1), .val (.int c2), .val (.ref b221), .val (.ref b232), .val (.int d0), .val (.int d1), .val (.int d2), .val (.ref b254), .val (.int mm), .val (.int (1 : Int32)), .val (.ref b269), .val (.int (1 : Int32))] [(.int (1 : Int32))])
      refine own_st (fun t k => XS.ifNo X285.here hx rfl (hb hby at_462) rfl ((if0 _ _).trans (feq (by decide : ¬ ((1 : Int32) = (0 : Int32)))).1) k) ?_
      show own_Go _ _ _ _ T285 (mkF m 465 #[.val (.int p0), .val (.int p1), .val (.int p2), .val (.int p3), .val (.int p4), .val (.int (3 : Int32)), .val (.int c0), .val (.int c1), .val (.int c2), .val (.ref b221), .val (.ref b232), .val (.int d0), .val (.int d1), .val (.int d2), .val (.ref b254), .val (.int mm), .val (.int (1 : Int32)), .val (.ref b269), .val (.int (1 : Int32))] [])
      refine own_st (fun t k => XS.aload X285.here hx rfl (hb hby at_465) rfl rfl k) ?_
      refine own_st (fun t k => XS.aload X285.here hx rfl (hb hby at_467) rfl rfl k) ?_
      refine own_st (fun t k => XS.bipush X285.here hx rfl (hb hby at_469) k) ?_
      refine own_st (fun t k => XS.iload X285.here hx rfl (hb hby at_471) rfl k) ?_
      show own_Go _ _ _ _ T285 (mkF m 473 #[.val (.int p0), .val (.int p1), .val (.int p2), .val (.int p3), .val (.int p4), .val (.int (3 : Int32)), .val (.int c0), .val (.int c1), .val (.int c2), .val (.ref b221), .val (.ref b232), .val (.int d0), .val (.int d1), .val (.int d2), .val (.ref b254), .val (.int mm), .val (.int (1 : Int32)), .val (.ref b269), .val (.int (1 : Int32))] [(.int mm), (.int (8 : Int32)), (.ref b254), (.ref b269)])
      obtain ⟨_, _, ⟨T286, L286, k286, n286⟩, -, X286, ⟨Lc286, hQ286, l286, y286, z286⟩, st286⟩ := Jvm.LawKit.callS X285 hx (y := (⟨"shelfmark/IriPatternPercentEncodedPinLaw", "same", "([B[BII)Z"⟩ : MethodName)) hown (mvT hZ (hw _ (List.mem_of_getElem? (i := 15) rfl))) (mvT hZ (hw _ (List.mem_of_getElem? (i := 16) rfl))) (mvT hZ (hw _ (List.mem_of_getElem? (i := 4) rfl))) (mvT hZ (hw _ (List.mem_of_getElem? (i := 17) rfl))) (by decide) (backOf (W := 0) (rm4 l Z a0 hw [] b269 b254 (8 : Int32) mm cr ce  T269.heap n0 (Nat.le_trans Z0 K0_278.1) Arr_r Arr_e (by rw [hmm]; exact own_hs h9 Szr Hsr Sze Hse 8 (by decide))) hZ (hw _ (List.mem_of_getElem? (i := 17) rfl)) (hw _ (List.mem_of_getElem? (i := 4) rfl)) (by decide) (by decide)) (g := (mkF m 473 #[.val (.int p0), .val (.int p1), .val (.int p2), .val (.int p3), .val (.int p4), .val (.int (3 : Int32)), .val (.int c0), .val (.int c1), .val (.int c2), .val (.ref b221), .val (.ref b232), .val (.int d0), .val (.int d1), .val (.int d2), .val (.ref b254), .val (.int mm), .val (.int (1 : Int32)), .val (.ref b269), .val (.int (1 : Int32))] [(.int mm), (.int (8 : Int32)), (.ref b254), (.ref b269)])) rfl (by rw [hml]; rfl) (argsL := [(.ref b269), (.ref b254), (.int (8 : Int32)), (.int mm)]) (rest := []) (lenOf pd__28_5bB_5bBII_29Z rfl) rfl (by show 2 * 0 + _ ≤ _; exact Nat.le_of_eq rfl) (hb hby at_473) (fun _ _ => ⟨rfl, e285, (by decide : 4 + 0 ≤ _), (by decide : 277 + 0 ≤ _)⟩)
      dsimp only [Pt.U, Pt.locs, Pt.cells, Pt.slots] at X286 l286 y286 z286 st286 hQ286
      subst l286 y286 z286
      obtain ⟨rfl, N286q, e286⟩ := hQ286
      obtain ⟨_, X286, N286⟩ := own_hide X286 (Fr.app N285 N286q)
      refine own_st st286 ?_
      show own_Go _ _ _ _ T286 (mkF m 476 #[.val (.int p0), .val (.int p1), .val (.int p2), .val (.int p3), .val (.int p4), .val (.int (3 : Int32)), .val (.int c0), .val (.int c1), .val (.int c2), .val (.ref b221), .val (.ref b232), .val (.int d0), .val (.int d1), .val (.int d2), .val (.ref b254), .val (.int mm), .val (.int (1 : Int32)), .val (.ref b269), .val (.int (1 : Int32))] [(.int (1 : Int32))])
      refine own_st (fun t k => XS.ifNo X286.here hx rfl (hb hby at_476) rfl ((if0 _ _).trans (feq (by decide : ¬ ((1 : Int32) = (0 : Int32)))).1) k) ?_
      show own_Go _ _ _ _ T286 (mkF m 479 #[.val (.int p0), .val (.int p1), .val (.int p2), .val (.int p3), .val (.int p4), .val (.int (3 : Int32)), .val (.int c0), .val (.int c1), .val (.int c2), .val (.ref b221), .val (.ref b232), .val (.int d0), .val (.int d1), .val (.int d2), .val (.ref b254), .val (.int mm), .val (.int (1 : Int32)), .val (.ref b269), .val (.int (1 : Int32))] [])
      refine own_st (fun t k => XS.iconst X286.here hx rfl (hb hby at_479) k) ?_
      refine own_st (fun t k => XS.goto X286.here hx rfl (pc0 := 480) (pc' := 484) rfl (hb hby at_480) (by decide) (by decide) k) ?_
      show own_Go _ _ _ _ T286 (mkF m 484 #[.val (.int p0), .val (.int p1), .val (.int p2), .val (.int p3), .val (.int p4), .val (.int (3 : Int32)), .val (.int c0), .val (.int c1), .val (.int c2), .val (.ref b221), .val (.ref b232), .val (.int d0), .val (.int d1), .val (.int d2), .val (.ref b254), .val (.int mm), .val (.int (1 : Int32)), .val (.ref b269), .val (.int (1 : Int32))] [(.int (1 : Int32))])
      exact own_retN X286 hx hlk (t := .boolean) hrt (by simp) (hb hby at_484) ⟨rfl, N286⟩ (by decide) (by decide)
    ·
      refine own_st (fun t k => XS.icmpYes X261.here hx rfl (pc0 := 254) (pc' := 261) rfl (hb hby at_254) rfl (feq c254_264).2 (by decide) (by decide) k) ?_
      show own_Go _ _ _ _ T261 (mkF m 261 #[.val (.int p0), .val (.int p1), .val (.int p2), .val (.int p3), .val (.int p4), .val (.int (3 : Int32)), .val (.int c0), .val (.int c1), .val (.int c2), .val (.ref b221), .val (.ref b232), .val (.int d0), .val (.int d1), .val (.int d2), .val (.ref b254), .val (.int mm), .unset, .unset, .unset] [])
      refine own_st (fun t k => XS.iconst X261.here hx rfl (hb hby at_261) k) ?_
      refine own_st (fun t k => XS.istore X261.here hx rfl (hb hby at_262) rfl (l' := #[.val (.int p0), .val (.int p1), .val (.int p2), .val (.int p3), .val (.int p4), .val (.int (3 : Int32)), .val (.int c0), .val (.int c1), .val (.int c2), .val (.ref b221), .val (.ref b232), .val (.int d0), .val (.int d1), .val (.int d2), .val (.ref b254), .val (.int mm), .val (.int (0 : Int32)), .unset, .unset]) rfl k) ?_
      show own_Go _ _ _ _ T261 (mkF m 264 #[.val (.int p0), .val (.int p1), .val (.int p2), .val (.int p3), .val (.int p4), .val (.int (3 : Int32)), .val (.int c0), .val (.int c1), .val (.int c2), .val (.ref b221), .val (.ref b232), .val (.int d0), .val (.int d1), .val (.int d2), .val (.ref b254), .val (.int mm), .val (.int (0 : Int32)), .unset, .unset] [])
      refine own_st (fun t k => XS.aload X261.here hx rfl (hb hby at_264) rfl rfl k) ?_
      refine own_st (fun t k => XS.aload X261.here hx rfl (hb hby at_266) rfl rfl k) ?_
      show own_Go _ _ _ _ T261 (mkF m 268 #[.val (.int p0), .val (.int p1), .val (.int p2), .val (.int p3), .val (.int p4), .val (.int (3 : Int32)), .val (.int c0), .val (.int c1), .val (.int c2), .val (.ref b221), .val (.ref b232), .val (.int d0), .val (.int d1), .val (.int d2), .val (.ref b254), .val (.int mm), .val (.int (0 : Int32)), .unset, .unset] [(.ref b232), (.ref b221)])
      have V230_287 := ((((V230_256.ext E254).keep K257 (ninS ne_b221_b254 nin0)).keep K259 (ninS ne_b221_b254 nin0)).keep K261 (ninS ne_b221_b254 nin0))
      have Ark_288 := (own_arr_keep (own_arr_keep (own_arr_keep (Tk.1.ext E254) K257 (ninS ne_b232_b254 nin0)) K259 (ninS ne_b232_b254 nin0)) K261 (ninS ne_b232_b254 nin0))
      have Sh_289 := (own_sta_keep (own_sta_keep (own_sta_keep ((((((((((S_H.ext E221).wr W224).wr W227).wr W230).ext E232).wr W237).wr W241).wr W245).wr W249).ext E254) K257 ns257) K259 ns259) K261 ns261)
      have Arh_290 := (own_arr_keep (own_arr_keep (own_arr_keep (Arh_255.ext E254) K257 (ninS ne_ra_b254 nin0)) K259 (ninS ne_ra_b254 nin0)) K261 (ninS ne_ra_b254 nin0))
      have K0_292 := (K0_262.trans K261 (allS ((Or.inr sz_b254)) all0))
      obtain ⟨_, _, ⟨T291, L291, k291, n291⟩, -, X291, ⟨Lc291, hQ291, l291, y291, z291⟩, st291⟩ := Jvm.LawKit.callS X261 hx (y := (⟨"shelfmark/IriPattern", "percentEncoded", "([B[Z)[B"⟩ : MethodName)) hown (mvT hZ (hw _ (List.mem_of_getElem? (i := 9) rfl))) (mvT hZ (hw _ (List.mem_of_getElem? (i := 10) rfl))) (mvT hZ (hw _ (List.mem_of_getElem? (i := 11) rfl))) (mvT hZ (hw _ (List.mem_of_getElem? (i := 12) rfl))) (by decide) (backOf (W := 0) (rm3 l Z a0 hw [] b221 b232 k221 [c0, c1, c2] ck ra ch  T261.heap n0 (Nat.le_trans Z0 K0_292.1) V230_287 (Nat.le_of_ble_eq_true rfl) (by intro b hb; simp only [List.mem_cons, List.not_mem_nil, or_false] at hb; rcases hb with rfl | rfl | rfl; all_goals assumption) ⟨Ark_288, Tk.2⟩ Sh_289 Arh_290 hH) hZ (hw _ (List.mem_of_getElem? (i := 12) rfl)) (hw _ (List.mem_of_getElem? (i := 11) rfl)) (by decide) (by decide)) (g := (mkF m 268 #[.val (.int p0), .val (.int p1), .val (.int p2), .val (.int p3), .val (.int p4), .val (.int (3 : Int32)), .val (.int c0), .val (.int c1), .val (.int c2), .val (.ref b221), .val (.ref b232), .val (.int d0), .val (.int d1), .val (.int d2), .val (.ref b254), .val (.int mm), .val (.int (0 : Int32)), .unset, .unset] [(.ref b232), (.ref b221)])) rfl (by rw [hml]; rfl) (argsL := [(.ref b221), (.ref b232)]) (rest := []) (lenOf pd__28_5bB_5bZ_29_5bB rfl) rfl (by show 2 * 0 + _ ≤ _; exact Nat.le_of_eq rfl) (hb hby at_268) (fun _ _ => ⟨rfl, rfl, (by decide : 3 + 1 ≤ _), (by decide : 268 + 9 ≤ _)⟩)
      dsimp only [Pt.U, Pt.locs, Pt.cells, Pt.slots] at X291 l291 y291 z291 st291 hQ291
      subst l291 y291 z291
      obtain ⟨b291, k291, rfl, N291q, K291, hbu, V291⟩ := hQ291
      obtain ⟨_, X291, N291⟩ := own_hide X291 (Fr.app N261 N291q)
      refine own_st st291 ?_
      show own_Go _ _ _ _ T291 (mkF m 271 #[.val (.int p0), .val (.int p1), .val (.int p2), .val (.int p3), .val (.int p4), .val (.int (3 : Int32)), .val (.int c0), .val (.int c1), .val (.int c2), .val (.ref b221), .val (.ref b232), .val (.int d0), .val (.int d1), .val (.int d2), .val (.ref b254), .val (.int mm), .val (.int (0 : Int32)), .unset, .unset] [(.ref b291)])
      refine own_st (fun t k => XS.astore X291.here hx rfl (hb hby at_271) rfl rfl (l' := #[.val (.int p0), .val (.int p1), .val (.int p2), .val (.int p3), .val (.int p4), .val (.int (3 : Int32)), .val (.int c0), .val (.int c1), .val (.int c2), .val (.ref b221), .val (.ref b232), .val (.int d0), .val (.int d1), .val (.int d2), .val (.ref b254), .val (.int mm), .val (.int (0 : Int32)), .val (.ref b291), .unset]) rfl k) ?_
      show own_Go _ _ _ _ T291 (mkF m 273 #[.val (.int p0), .val (.int p1), .val (.int p2), .val (.int p3), .val (.int p4), .val (.int (3 : Int32)), .val (.int c0), .val (.int c1), .val (.int c2), .val (.ref b221), .val (.ref b232), .val (.int d0), .val (.int d1), .val (.int d2), .val (.ref b254), .val (.int mm), .val (.int (0 : Int32)), .val (.ref b291), .unset] [])
      refine own_st (fun t k => XS.aload X291.here hx rfl (hb hby at_273) rfl rfl k) ?_
      show own_Go _ _ _ _ T291 (mkF m 275 #[.val (.int p0), .val (.int p1), .val (.int p2), .val (.int p3), .val (.int p4), .val (.int (3 : Int32)), .val (.int c0), .val (.int c1), .val (.int c2), .val (.ref b221), .val (.ref b232), .val (.int d0), .val (.int d1), .val (.int d2), .val (.ref b254), .val (.int mm), .val (.int (0 : Int32)), .val (.ref b291), .unset] [(.ref b291)])
      refine own_st (fun t k => XS.ifnullNo X291.here hx rfl (hb hby at_275) rfl k) ?_
      show own_Go _ _ _ _ T291 (mkF m 278 #[.val (.int p0), .val (.int p1), .val (.int p2), .val (.int p3), .val (.int p4), .val (.int (3 : Int32)), .val (.int c0), .val (.int c1), .val (.int c2), .val (.ref b221), .val (.ref b232), .val (.int d0), .val (.int d1), .val (.int d2), .val (.ref b254), .val (.int mm), .val (.int (0 : Int32)), .val (.ref b291), .unset] [])
      refine own_st (fun t k => XS.aload X291.here hx rfl (hb hby at_278) rfl rfl k) ?_
      show own_Go _ _ _ _ T291 (mkF m 280 #[.val (.int p0), .val (.int p1), .val (.int p2), .val (.int p3), .val (.int p4), .val (.int (3 : Int32)), .val (.int c0), .val (.int c1), .val (.int c2), .val (.ref b221), .val (.ref b232), .val (.int d0), .val (.int d1), .val (.int d2), .val (.ref b254), .val (.int mm), .val (.int (0 : Int32)), .val (.ref b291), .unset] [(.ref b291)])
      obtain ⟨cl293, Ar293, qk293, Sz293, Nn293, Hs293, Gf293⟩ := id V291
      refine own_st (X291.arraylength hx (id Ar293.1) (State.isArrayOf_alike hZ.alike Ar293.2.1) (g := (mkF m 280 #[.val (.int p0), .val (.int p1), .val (.int p2), .val (.int p3), .val (.int p4), .val (.int (3 : Int32)), .val (.int c0), .val (.int c1), .val (.int c2), .val (.ref b221), .val (.ref b232), .val (.int d0), .val (.int d1), .val (.int d2), .val (.ref b254), .val (.int mm), .val (.int (0 : Int32)), .val (.ref b291), .unset] [(.ref b291)])) rfl rfl (hb hby at_280)) ?_
      rw [len_of Sz293 Nn293]
      show own_Go _ _ _ _ T291 (mkF m 281 #[.val (.int p0), .val (.int p1), .val (.int p2), .val (.int p3), .val (.int p4), .val (.int (3 : Int32)), .val (.int c0), .val (.int c1), .val (.int c2), .val (.ref b221), .val (.ref b232), .val (.int d0), .val (.int d1), .val (.int d2), .val (.ref b254), .val (.int mm), .val (.int (0 : Int32)), .val (.ref b291), .unset] [(.int (Int32.ofNat (own_flat (own_kf ck) [c0, c1, c2]).length))])
      refine own_st (fun t k => XS.iload X291.here hx rfl (hb hby at_281) rfl k) ?_
      refine own_st (fun t k => XS.icmpYes X291.here hx rfl (pc0 := 283) (pc' := 288) rfl (hb hby at_283) rfl (teq hmm.symm).1 (by decide) (by decide) k) ?_
      show own_Go _ _ _ _ T291 (mkF m 288 #[.val (.int p0), .val (.int p1), .val (.int p2), .val (.int p3), .val (.int p4), .val (.int (3 : Int32)), .val (.int c0), .val (.int c1), .val (.int c2), .val (.ref b221), .val (.ref b232), .val (.int d0), .val (.int d1), .val (.int d2), .val (.ref b254), .val (.int mm), .val (.int (0 : Int32)), .val (.ref b291), .unset] [])
      refine own_st (fun t k => XS.iload X291.here hx rfl (hb hby at_288) rfl k) ?_
      refine own_st (fun t k => XS.ifYes X291.here hx rfl (pc0 := 290) (pc' := 302) rfl (hb hby at_290) rfl ((if0 _ _).trans (teq (by decide : (0 : Int32) = (0 : Int32))).1) (by decide) (by decide) k) ?_
      show own_Go _ _ _ _ T291 (mkF m 302 #[.val (.int p0), .val (.int p1), .val (.int p2), .val (.int p3), .val (.int p4), .val (.int (3 : Int32)), .val (.int c0), .val (.int c1), .val (.int c2), .val (.ref b221), .val (.ref b232), .val (.int d0), .val (.int d1), .val (.int d2), .val (.ref b254), .val (.int mm), .val (.int (0 : Int32)), .val (.ref b291), .unset] [])
      refine own_st (fun t k => XS.iload X291.here hx rfl (hb hby at_302) rfl k) ?_
      refine own_st (fun t k => XS.iconst X291.here hx rfl (hb hby at_304) k) ?_
      refine own_st (fun t k => XS.icmpNo X291.here hx rfl (hb hby at_305) rfl (flt (by decide : ¬ ((3 : Int32) < (1 : Int32)))).1 k) ?_
      show own_Go _ _ _ _ T291 (mkF m 308 #[.val (.int p0), .val (.int p1), .val (.int p2), .val (.int p3), .val (.int p4), .val (.int (3 : Int32)), .val (.int c0), .val (.int c1), .val (.int c2), .val (.ref b221), .val (.ref b232), .val (.int d0), .val (.int d1), .val (.int d2), .val (.ref b254), .val (.int mm), .val (.int (0 : Int32)), .val (.ref b291), .unset] [])
      refine own_st (fun t k => XS.aload X291.here hx rfl (hb hby at_308) rfl rfl k) ?_
      refine own_st (fun t k => XS.iconst X291.here hx rfl (hb hby at_310) k) ?_
      show own_Go _ _ _ _ T291 (mkF m 311 #[.val (.int p0), .val (.int p1), .val (.int p2), .val (.int p3), .val (.int p4), .val (.int (3 : Int32)), .val (.int c0), .val (.int c1), .val (.int c2), .val (.ref b221), .val (.ref b232), .val (.int d0), .val (.int d1), .val (.int d2), .val (.ref b254), .val (.int mm), .val (.int (0 : Int32)), .val (.ref b291), .unset] [(.int (0 : Int32)), (.ref b221)])
      have V230_295 := (V230_287.keep K291 nin0)
      obtain ⟨cl294, Ar294, qk294, Sz294, Nn294, Hs294, Gf294⟩ := id V230_295
      have hin294 : ¬ ((0 : Int32) < 0 ∨ cl294.slots.size ≤ ((0 : Int32)).toNatClampNeg) := inb_of Sz294 ⟨by decide, by decide⟩
      have hat294 : cl294.slots[((0 : Int32)).toNatClampNeg]? = some (.int c0) := Has.at Hs294 hin294 rfl
      refine own_st (X291.baloadBytes hx (j := (0 : Int32)) (v := (.int c0)) (id Ar294.1) (State.isArrayOf_alike hZ.alike Ar294.2.1) Ar294.2.2 hin294 hat294 (g := (mkF m 311 #[.val (.int p0), .val (.int p1), .val (.int p2), .val (.int p3), .val (.int p4), .val (.int (3 : Int32)), .val (.int c0), .val (.int c1), .val (.int c2), .val (.ref b221), .val (.ref b232), .val (.int d0), .val (.int d1), .val (.int d2), .val (.ref b254), .val (.int mm), .val (.int (0 : Int32)), .val (.ref b291), .unset] [(.int (0 : Int32)), (.ref b221)])) rfl rfl (hb hby at_311)) ?_
      show own_Go _ _ _ _ T291 (mkF m 312 #[.val (.int p0), .val (.int p1), .val (.int p2), .val (.int p3), .val (.int p4), .val (.int (3 : Int32)), .val (.int c0), .val (.int c1), .val (.int c2), .val (.ref b221), .val (.ref b232), .val (.int d0), .val (.int d1), .val (.int d2), .val (.ref b254), .val (.int mm), .val (.int (0 : Int32)), .val (.ref b291), .unset] [(.int c0)])
      refine own_st (fun t k => XS.iload X291.here hx rfl (hb hby at_312) rfl k) ?_
      refine own_st (fun t k => XS.icmpNo X291.here hx rfl (hb hby at_314) rfl (teq rfl).2 k) ?_
      show own_Go _ _ _ _ T291 (mkF m 317 #[.val (.int p0), .val (.int p1), .val (.int p2), .val (.int p3), .val (.int p4), .val (.int (3 : Int32)), .val (.int c0), .val (.int c1), .val (.int c2), .val (.ref b221), .val (.ref b232), .val (.int d0), .val (.int d1), .val (.int d2), .val (.ref b254), .val (.int mm), .val (.int (0 : Int32)), .val (.ref b291), .unset] [])
      refine own_st (fun t k => XS.iload X291.here hx rfl (hb hby at_317) rfl k) ?_
      refine own_st (fun t k => XS.iconst X291.here hx rfl (hb hby at_319) k) ?_
      refine own_st (fun t k => XS.icmpNo X291.here hx rfl (hb hby at_320) rfl (flt (by decide : ¬ ((3 : Int32) < (2 : Int32)))).1 k) ?_
      show own_Go _ _ _ _ T291 (mkF m 323 #[.val (.int p0), .val (.int p1), .val (.int p2), .val (.int p3), .val (.int p4), .val (.int (3 : Int32)), .val (.int c0), .val (.int c1), .val (.int c2), .val (.ref b221), .val (.ref b232), .val (.int d0), .val (.int d1), .val (.int d2), .val (.ref b254), .val (.int mm), .val (.int (0 : Int32)), .val (.ref b291), .unset] [])
      refine own_st (fun t k => XS.aload X291.here hx rfl (hb hby at_323) rfl rfl k) ?_
      refine own_st (fun t k => XS.iconst X291.here hx rfl (hb hby at_325) k) ?_
      show own_Go _ _ _ _ T291 (mkF m 326 #[.val (.int p0), .val (.int p1), .val (.int p2), .val (.int p3), .val (.int p4), .val (.int (3 : Int32)), .val (.int c0), .val (.int c1), .val (.int c2), .val (.ref b221), .val (.ref b232), .val (.int d0), .val (.int d1), .val (.int d2), .val (.ref b254), .val (.int mm), .val (.int (0 : Int32)), .val (.ref b291), .unset] [(.int (1 : Int32)), (.ref b221)])
      obtain ⟨cl296, Ar296, qk296, Sz296, Nn296, Hs296, Gf296⟩ := id V230_295
      have hin296 : ¬ ((1 : Int32) < 0 ∨ cl296.slots.size ≤ ((1 : Int32)).toNatClampNeg) := inb_of Sz296 ⟨by decide, by decide⟩
      have hat296 : cl296.slots[((1 : Int32)).toNatClampNeg]? = some (.int c1) := Has.at Hs296 hin296 rfl
      refine own_st (X291.baloadBytes hx (j := (1 : Int32)) (v := (.int c1)) (id Ar296.1) (State.isArrayOf_alike hZ.alike Ar296.2.1) Ar296.2.2 hin296 hat296 (g := (mkF m 326 #[.val (.int p0), .val (.int p1), .val (.int p2), .val (.int p3), .val (.int p4), .val (.int (3 : Int32)), .val (.int c0), .val (.int c1), .val (.int c2), .val (.ref b221), .val (.ref b232), .val (.int d0), .val (.int d1), .val (.int d2), .val (.ref b254), .val (.int mm), .val (.int (0 : Int32)), .val (.ref b291), .unset] [(.int (1 : Int32)), (.ref b221)])) rfl rfl (hb hby at_326)) ?_
      show own_Go _ _ _ _ T291 (mkF m 327 #[.val (.int p0), .val (.int p1), .val (.int p2), .val (.int p3), .val (.int p4), .val (.int (3 : Int32)), .val (.int c0), .val (.int c1), .val (.int c2), .val (.ref b221), .val (.ref b232), .val (.int d0), .val (.int d1), .val (.int d2), .val (.ref b254), .val (.int mm), .val (.int (0 : Int32)), .val (.ref b291), .unset] [(.int c1)])
      refine own_st (fun t k => XS.iload X291.here hx rfl (hb hby at_327) rfl k) ?_
      refine own_st (fun t k => XS.icmpNo X291.here hx rfl (hb hby at_329) rfl (teq rfl).2 k) ?_
      show own_Go _ _ _ _ T291 (mkF m 332 #[.val (.int p0), .val (.int p1), .val (.int p2), .val (.int p3), .val (.int p4), .val (.int (3 : Int32)), .val (.int c0), .val (.int c1), .val (.int c2), .val (.ref b221), .val (.ref b232), .val (.int d0), .val (.int d1), .val (.int d2), .val (.ref b254), .val (.int mm), .val (.int (0 : Int32)), .val (.ref b291), .unset] [])
      refine own_st (fun t k => XS.iload X291.here hx rfl (hb hby at_332) rfl k) ?_
      refine own_st (fun t k => XS.iconst X291.here hx rfl (hb hby at_334) k) ?_
      refine own_st (fun t k => XS.icmpNo X291.here hx rfl (hb hby at_335) rfl (flt (by decide : ¬ ((3 : Int32) < (3 : Int32)))).1 k) ?_
      show own_Go _ _ _ _ T291 (mkF m 338 #[.val (.int p0), .val (.int p1), .val (.int p2), .val (.int p3), .val (.int p4), .val (.int (3 : Int32)), .val (.int c0), .val (.int c1), .val (.int c2), .val (.ref b221), .val (.ref b232), .val (.int d0), .val (.int d1), .val (.int d2), .val (.ref b254), .val (.int mm), .val (.int (0 : Int32)), .val (.ref b291), .unset] [])
      refine own_st (fun t k => XS.aload X291.here hx rfl (hb hby at_338) rfl rfl k) ?_
      refine own_st (fun t k => XS.iconst X291.here hx rfl (hb hby at_340) k) ?_
      show own_Go _ _ _ _ T291 (mkF m 341 #[.val (.int p0), .val (.int p1), .val (.int p2), .val (.int p3), .val (.int p4), .val (.int (3 : Int32)), .val (.int c0), .val (.int c1), .val (.int c2), .val (.ref b221), .val (.ref b232), .val (.int d0), .val (.int d1), .val (.int d2), .val (.ref b254), .val (.int mm), .val (.int (0 : Int32)), .val (.ref b291), .unset] [(.int (2 : Int32)), (.ref b221)])
      obtain ⟨cl297, Ar297, qk297, Sz297, Nn297, Hs297, Gf297⟩ := id V230_295
      have hin297 : ¬ ((2 : Int32) < 0 ∨ cl297.slots.size ≤ ((2 : Int32)).toNatClampNeg) := inb_of Sz297 ⟨by decide, by decide⟩
      have hat297 : cl297.slots[((2 : Int32)).toNatClampNeg]? = some (.int c2) := Has.at Hs297 hin297 rfl
      refine own_st (X291.baloadBytes hx (j := (2 : Int32)) (v := (.int c2)) (id Ar297.1) (State.isArrayOf_alike hZ.alike Ar297.2.1) Ar297.2.2 hin297 hat297 (g := (mkF m 341 #[.val (.int p0), .val (.int p1), .val (.int p2), .val (.int p3), .val (.int p4), .val (.int (3 : Int32)), .val (.int c0), .val (.int c1), .val (.int c2), .val (.ref b221), .val (.ref b232), .val (.int d0), .val (.int d1), .val (.int d2), .val (.ref b254), .val (.int mm), .val (.int (0 : Int32)), .val (.ref b291), .unset] [(.int (2 : Int32)), (.ref b221)])) rfl rfl (hb hby at_341)) ?_
      show own_Go _ _ _ _ T291 (mkF m 342 #[.val (.int p0), .val (.int p1), .val (.int p2), .val (.int p3), .val (.int p4), .val (.int (3 : Int32)), .val (.int c0), .val (.int c1), .val (.int c2), .val (.ref b221), .val (.ref b232), .val (.int d0), .val (.int d1), .val (.int d2), .val (.ref b254), .val (.int mm), .val (.int (0 : Int32)), .val (.ref b291), .unset] [(.int c2)])
      refine own_st (fun t k => XS.iload X291.here hx rfl (hb hby at_342) rfl k) ?_
      refine own_st (fun t k => XS.icmpNo X291.here hx rfl (hb hby at_344) rfl (teq rfl).2 k) ?_
      show own_Go _ _ _ _ T291 (mkF m 347 #[.val (.int p0), .val (.int p1), .val (.int p2), .val (.int p3), .val (.int p4), .val (.int (3 : Int32)), .val (.int c0), .val (.int c1), .val (.int c2), .val (.ref b221), .val (.ref b232), .val (.int d0), .val (.int d1), .val (.int d2), .val (.ref b254), .val (.int mm), .val (.int (0 : Int32)), .val (.ref b291), .unset] [])
      refine own_st (fun t k => XS.iconst X291.here hx rfl (hb hby at_347) k) ?_
      refine own_st (fun t k => XS.goto X291.here hx rfl (pc0 := 348) (pc' := 352) rfl (hb hby at_348) (by decide) (by decide) k) ?_
      show own_Go _ _ _ _ T291 (mkF m 352 #[.val (.int p0), .val (.int p1), .val (.int p2), .val (.int p3), .val (.int p4), .val (.int (3 : Int32)), .val (.int c0), .val (.int c1), .val (.int c2), .val (.ref b221), .val (.ref b232), .val (.int d0), .val (.int d1), .val (.int d2), .val (.ref b254), .val (.int mm), .val (.int (0 : Int32)), .val (.ref b291), .unset] [(.int (1 : Int32))])
      refine own_st (fun t k => XS.istore X291.here hx rfl (hb hby at_352) rfl (l' := #[.val (.int p0), .val (.int p1), .val (.int p2), .val (.int p3), .val (.int p4), .val (.int (3 : Int32)), .val (.int c0), .val (.int c1), .val (.int c2), .val (.ref b221), .val (.ref b232), .val (.int d0), .val (.int d1), .val (.int d2), .val (.ref b254), .val (.int mm), .val (.int (0 : Int32)), .val (.ref b291), .val (.int (1 : Int32))]) rfl k) ?_
      show own_Go _ _ _ _ T291 (mkF m 354 #[.val (.int p0), .val (.int p1), .val (.int p2), .val (.int p3), .val (.int p4), .val (.int (3 : Int32)), .val (.int c0), .val (.int c1), .val (.int c2), .val (.ref b221), .val (.ref b232), .val (.int d0), .val (.int d1), .val (.int d2), .val (.ref b254), .val (.int mm), .val (.int (0 : Int32)), .val (.ref b291), .val (.int (1 : Int32))] [])
      obtain ⟨cr, Arr_r, -, Szr, -, Hsr, -⟩ := id V291
      have Vx_298 := (Vx.keep K291 nin0)
      obtain ⟨ce, Arr_e, -, Sze, -, Hse, -⟩ := id Vx_298
      have h9 := own_flat9 (own_kf ck) (bs := [c0, c1, c2]) (Nat.le_of_ble_eq_true rfl)
      refine own_st (fun t k => XS.iload X291.here hx rfl (hb hby at_354) rfl k) ?_
      refine own_st (fun t k => XS.ifNo X291.here hx rfl (hb hby at_356) rfl ((if0 _ _).trans (feq (by decide : ¬ ((1 : Int32) = (0 : Int32)))).1) k) ?_
      show own_Go _ _ _ _ T291 (mkF m 359 #[.val (.int p0), .val (.int p1), .val (.int p2), .val (.int p3), .val (.int p4), .val (.int (3 : Int32)), .val (.int c0), .val (.int c1), .val (.int c2), .val (.ref b221), .val (.ref b232), .val (.int d0), .val (.int d1), .val (.int d2), .val (.ref b254), .val (.int mm), .val (.int (0 : Int32)), .val (.ref b291), .val (.int (1 : Int32))] [])
      refine own_st (fun t k => XS.aload X291.here hx rfl (hb hby at_359) rfl rfl k) ?_
      refine own_st (fun t k => XS.aload X291.here hx rfl (hb hby at_361) rfl rfl k) ?_
      refine own_st (fun t k => XS.iconst X291.here hx rfl (hb hby at_363) k) ?_
      refine own_st (fun t k => XS.iload X291.here hx rfl (hb hby at_364) rfl k) ?_
      show own_Go _ _ _ _ T291 (mkF m 366 #[.val (.int p0), .val (.int p1), .val (.int p2), .val (.int p3), .val (.int p4), .val (.int (3 : Int32)), .val (.int c0), .val (.int c1), .val (.int c2), .val (.ref b221), .val (.ref b232), .val (.int d0), .val (.int d1), .val (.int d2), .val (.ref b254), .val (.int mm), .val (.int (0 : Int32)), .val (.ref b291), .val (.int (1 : Int32))] [(.int mm), (.int (0 : Int32)), (.ref b254), (.ref b291)])
      have K0_300 := (K0_292.trans K291 (all0))
      obtain ⟨_, _, ⟨T299, L299, k299, n299⟩, -, X299, ⟨Lc299, hQ299, l299, y299, z299⟩, st299⟩ := Jvm.LawKit.callS X291 hx (y := (⟨"shelfmark/IriPatternPercentEncodedPinLaw", "same", "([B[BII)Z"⟩ : MethodName)) hown (mvT hZ (hw _ (List.mem_of_getElem? (i := 15) rfl))) (mvT hZ (hw _ (List.mem_of_getElem? (i := 16) rfl))) (mvT hZ (hw _ (List.mem_of_getElem? (i := 4) rfl))) (mvT hZ (hw _ (List.mem_of_getElem? (i := 17) rfl))) (by decide) (backOf (W := 0) (rm4 l Z a0 hw [] b291 b254 (0 : Int32) mm cr ce  T291.heap n0 (Nat.le_trans Z0 K0_300.1) Arr_r Arr_e (by rw [hmm]; exact own_hs h9 Szr Hsr Sze Hse 0 (by decide))) hZ (hw _ (List.mem_of_getElem? (i := 17) rfl)) (hw _ (List.mem_of_getElem? (i := 4) rfl)) (by decide) (by decide)) (g := (mkF m 366 #[.val (.int p0), .val (.int p1), .val (.int p2), .val (.int p3), .val (.int p4), .val (.int (3 : Int32)), .val (.int c0), .val (.int c1), .val (.int c2), .val (.ref b221), .val (.ref b232), .val (.int d0), .val (.int d1), .val (.int d2), .val (.ref b254), .val (.int mm), .val (.int (0 : Int32)), .val (.ref b291), .val (.int (1 : Int32))] [(.int mm), (.int (0 : Int32)), (.ref b254), (.ref b291)])) rfl (by rw [hml]; rfl) (argsL := [(.ref b291), (.ref b254), (.int (0 : Int32)), (.int mm)]) (rest := []) (lenOf pd__28_5bB_5bBII_29Z rfl) rfl (by show 2 * 0 + _ ≤ _; exact Nat.le_of_eq rfl) (hb hby at_366) (fun _ _ => ⟨rfl, rfl, (by decide : 4 + 0 ≤ _), (by decide : 277 + 0 ≤ _)⟩)
      dsimp only [Pt.U, Pt.locs, Pt.cells, Pt.slots] at X299 l299 y299 z299 st299 hQ299
      subst l299 y299 z299
      obtain ⟨rfl, N299q, e299⟩ := hQ299
      obtain ⟨_, X299, N299⟩ := own_hide X299 (Fr.app N291 N299q)
      refine own_st st299 ?_
      show own_Go _ _ _ _ T299 (mkF m 369 #[.val (.int p0), .val (.int p1), .val (.int p2), .val (.int p3), .val (.int p4), .val (.int (3 : Int32)), .val (.int c0), .val (.int c1), .val (.int c2), .val (.ref b221), .val (.ref b232), .val (.int d0), .val (.int d1), .val (.int d2), .val (.ref b254), .val (.int mm), .val (.int (0 : Int32)), .val (.ref b291), .val (.int (1 : Int32))] [(.int (1 : Int32))])
      refine own_st (fun t k => XS.ifNo X299.here hx rfl (hb hby at_369) rfl ((if0 _ _).trans (feq (by decide : ¬ ((1 : Int32) = (0 : Int32)))).1) k) ?_
      show own_Go _ _ _ _ T299 (mkF m 372 #[.val (.int p0), .val (.int p1), .val (.int p2), .val (.int p3), .val (.int p4), .val (.int (3 : Int32)), .val (.int c0), .val (.int c1), .val (.int c2), .val (.ref b221), .val (.ref b232), .val (.int d0), .val (.int d1), .val (.int d2), .val (.ref b254), .val (.int mm), .val (.int (0 : Int32)), .val (.ref b291), .val (.int (1 : Int32))] [])
      refine own_st (fun t k => XS.aload X299.here hx rfl (hb hby at_372) rfl rfl k) ?_
      refine own_st (fun t k => XS.aload X299.here hx rfl (hb hby at_374) rfl rfl k) ?_
      refine own_st (fun t k => XS.iconst X299.here hx rfl (hb hby at_376) k) ?_
      refine own_st (fun t k => XS.iload X299.here hx rfl (hb hby at_377) rfl k) ?_
      show own_Go _ _ _ _ T299 (mkF m 379 #[.val (.int p0), .val (.int p1), .val (.int p2), .val (.int p3), .val (.int p4), .val (.int (3 : Int32)), .val (.int c0), .val (.int c1), .val (.int c2), .val (.ref b221), .val (.ref b232), .val (.int d0), .val (.int d1), .val (.int d2), .val (.ref b254), .val (.int mm), .val (.int (0 : Int32)), .val (.ref b291), .val (.int (1 : Int32))] [(.int mm), (.int (1 : Int32)), (.ref b254), (.ref b291)])
      obtain ⟨_, _, ⟨T301, L301, k301, n301⟩, -, X301, ⟨Lc301, hQ301, l301, y301, z301⟩, st301⟩ := Jvm.LawKit.callS X299 hx (y := (⟨"shelfmark/IriPatternPercentEncodedPinLaw", "same", "([B[BII)Z"⟩ : MethodName)) hown (mvT hZ (hw _ (List.mem_of_getElem? (i := 15) rfl))) (mvT hZ (hw _ (List.mem_of_getElem? (i := 16) rfl))) (mvT hZ (hw _ (List.mem_of_getElem? (i := 4) rfl))) (mvT hZ (hw _ (List.mem_of_getElem? (i := 17) rfl))) (by decide) (backOf (W := 0) (rm4 l Z a0 hw [] b291 b254 (1 : Int32) mm cr ce  T291.heap n0 (Nat.le_trans Z0 K0_300.1) Arr_r Arr_e (by rw [hmm]; exact own_hs h9 Szr Hsr Sze Hse 1 (by decide))) hZ (hw _ (List.mem_of_getElem? (i := 17) rfl)) (hw _ (List.mem_of_getElem? (i := 4) rfl)) (by decide) (by decide)) (g := (mkF m 379 #[.val (.int p0), .val (.int p1), .val (.int p2), .val (.int p3), .val (.int p4), .val (.int (3 : Int32)), .val (.int c0), .val (.int c1), .val (.int c2), .val (.ref b221), .val (.ref b232), .val (.int d0), .val (.int d1), .val (.int d2), .val (.ref b254), .val (.int mm), .val (.int (0 : Int32)), .val (.ref b291), .val (.int (1 : Int32))] [(.int mm), (.int (1 : Int32)), (.ref b254), (.ref b291)])) rfl (by rw [hml]; rfl) (argsL := [(.ref b291), (.ref b254), (.int (1 : Int32)), (.int mm)]) (rest := []) (lenOf pd__28_5bB_5bBII_29Z rfl) rfl (by show 2 * 0 + _ ≤ _; exact Nat.le_of_eq rfl) (hb hby at_379) (fun _ _ => ⟨rfl, e299, (by decide : 4 + 0 ≤ _), (by decide : 277 + 0 ≤ _)⟩)
      dsimp only [Pt.U, Pt.locs, Pt.cells, Pt.slots] at X301 l301 y301 z301 st301 hQ301
      subst l301 y301 z301
      obtain ⟨rfl, N301q, e301⟩ := hQ301
      obtain ⟨_, X301, N301⟩ := own_hide X301 (Fr.app N299 N301q)
      refine own_st st301 ?_
      show own_Go _ _ _ _ T301 (mkF m 382 #[.val (.int p0), .val (.int p1), .val (.int p2), .val (.int p3), .val (.int p4), .val (.int (3 : Int32)), .val (.int c0), .val (.int c1), .val (.int c2), .val (.ref b221), .val (.ref b232), .val (.int d0), .val (.int d1), .val (.int d2), .val (.ref b254), .val (.int mm), .val (.int (0 : Int32)), .val (.ref b291), .val (.int (1 : Int32))] [(.int (1 : Int32))])
      refine own_st (fun t k => XS.ifNo X301.here hx rfl (hb hby at_382) rfl ((if0 _ _).trans (feq (by decide : ¬ ((1 : Int32) = (0 : Int32)))).1) k) ?_
      show own_Go _ _ _ _ T301 (mkF m 385 #[.val (.int p0), .val (.int p1), .val (.int p2), .val (.int p3), .val (.int p4), .val (.int (3 : Int32)), .val (.int c0), .val (.int c1), .val (.int c2), .val (.ref b221), .val (.ref b232), .val (.int d0), .val (.int d1), .val (.int d2), .val (.ref b254), .val (.int mm), .val (.int (0 : Int32)), .val (.ref b291), .val (.int (1 : Int32))] [])
      refine own_st (fun t k => XS.aload X301.here hx rfl (hb hby at_385) rfl rfl k) ?_
      refine own_st (fun t k => XS.aload X301.here hx rfl (hb hby at_387) rfl rfl k) ?_
      refine own_st (fun t k => XS.iconst X301.here hx rfl (hb hby at_389) k) ?_
      refine own_st (fun t k => XS.iload X301.here hx rfl (hb hby at_390) rfl k) ?_
      show own_Go _ _ _ _ T301 (mkF m 392 #[.val (.int p0), .val (.int p1), .val (.int p2), .val (.int p3), .val (.int p4), .val (.int (3 : Int32)), .val (.int c0), .val (.int c1), .val (.int c2), .val (.ref b221), .val (.ref b232), .val (.int d0), .val (.int d1), .val (.int d2), .val (.ref b254), .val (.int mm), .val (.int (0 : Int32)), .val (.ref b291), .val (.int (1 : Int32))] [(.int mm), (.int (2 : Int32)), (.ref b254), (.ref b291)])
      obtain ⟨_, _, ⟨T302, L302, k302, n302⟩, -, X302, ⟨Lc302, hQ302, l302, y302, z302⟩, st302⟩ := Jvm.LawKit.callS X301 hx (y := (⟨"shelfmark/IriPatternPercentEncodedPinLaw", "same", "([B[BII)Z"⟩ : MethodName)) hown (mvT hZ (hw _ (List.mem_of_getElem? (i := 15) rfl))) (mvT hZ (hw _ (List.mem_of_getElem? (i := 16) rfl))) (mvT hZ (hw _ (List.mem_of_getElem? (i := 4) rfl))) (mvT hZ (hw _ (List.mem_of_getElem? (i := 17) rfl))) (by decide) (backOf (W := 0) (rm4 l Z a0 hw [] b291 b254 (2 : Int32) mm cr ce  T291.heap n0 (Nat.le_trans Z0 K0_300.1) Arr_r Arr_e (by rw [hmm]; exact own_hs h9 Szr Hsr Sze Hse 2 (by decide))) hZ (hw _ (List.mem_of_getElem? (i := 17) rfl)) (hw _ (List.mem_of_getElem? (i := 4) rfl)) (by decide) (by decide)) (g := (mkF m 392 #[.val (.int p0), .val (.int p1), .val (.int p2), .val (.int p3), .val (.int p4), .val (.int (3 : Int32)), .val (.int c0), .val (.int c1), .val (.int c2), .val (.ref b221), .val (.ref b232), .val (.int d0), .val (.int d1), .val (.int d2), .val (.ref b254), .val (.int mm), .val (.int (0 : Int32)), .val (.ref b291), .val (.int (1 : Int32))] [(.int mm), (.int (2 : Int32)), (.ref b254), (.ref b291)])) rfl (by rw [hml]; rfl) (argsL := [(.ref b291), (.ref b254), (.int (2 : Int32)), (.int mm)]) (rest := []) (lenOf pd__28_5bB_5bBII_29Z rfl) rfl (by show 2 * 0 + _ ≤ _; exact Nat.le_of_eq rfl) (hb hby at_392) (fun _ _ => ⟨rfl, e301, (by decide : 4 + 0 ≤ _), (by decide : 277 + 0 ≤ _)⟩)
      dsimp only [Pt.U, Pt.locs, Pt.cells, Pt.slots] at X302 l302 y302 z302 st302 hQ302
      subst l302 y302 z302
      obtain ⟨rfl, N302q, e302⟩ := hQ302
      obtain ⟨_, X302, N302⟩ := own_hide X302 (Fr.app N301 N302q)
      refine own_st st302 ?_
      show own_Go _ _ _ _ T302 (mkF m 395 #[.val (.int p0), .val (.int p1), .val (.int p2), .val (.int p3), .val (.int p4), .val (.int (3 : Int32)), .val (.int c0), .val (.int c1), .val (.int c2), .val (.ref b221), .val (.ref b232), .val (.int d0), .val (.int d1), .val (.int d2), .val (.ref b254), .val (.int mm), .val (.int (0 : Int32)), .val (.ref b291), .val (.int (1 : Int32))] [(.int (1 : Int32))])
      refine own_st (fun t k => XS.ifNo X302.here hx rfl (hb hby at_395) rfl ((if0 _ _).trans (feq (by decide : ¬ ((1 : Int32) = (0 : Int32)))).1) k) ?_
      show own_Go _ _ _ _ T302 (mkF m 398 #[.val (.int p0), .val (.int p1), .val (.int p2), .val (.int p3), .val (.int p4), .val (.int (3 : Int32)), .val (.int c0), .val (.int c1), .val (.int c2), .val (.ref b221), .val (.ref b232), .val (.int d0), .val (.int d1), .val (.int d2), .val (.ref b254), .val (.int mm), .val (.int (0 : Int32)), .val (.ref b291), .val (.int (1 : Int32))] [])
      refine own_st (fun t k => XS.aload X302.here hx rfl (hb hby at_398) rfl rfl k) ?_
      refine own_st (fun t k => XS.aload X302.here hx rfl (hb hby at_400) rfl rfl k) ?_
      refine own_st (fun t k => XS.iconst X302.here hx rfl (hb hby at_402) k) ?_
      refine own_st (fun t k => XS.iload X302.here hx rfl (hb hby at_403) rfl k) ?_
      show own_Go _ _ _ _ T302 (mkF m 405 #[.val (.int p0), .val (.int p1), .val (.int p2), .val (.int p3), .val (.int p4), .val (.int (3 : Int32)), .val (.int c0), .val (.int c1), .val (.int c2), .val (.ref b221), .val (.ref b232), .val (.int d0), .val (.int d1), .val (.int d2), .val (.ref b254), .val (.int mm), .val (.int (0 : Int32)), .val (.ref b291), .val (.int (1 : Int32))] [(.int mm), (.int (3 : Int32)), (.ref b254), (.ref b291)])
      obtain ⟨_, _, ⟨T303, L303, k303, n303⟩, -, X303, ⟨Lc303, hQ303, l303, y303, z303⟩, st303⟩ := Jvm.LawKit.callS X302 hx (y := (⟨"shelfmark/IriPatternPercentEncodedPinLaw", "same", "([B[BII)Z"⟩ : MethodName)) hown (mvT hZ (hw _ (List.mem_of_getElem? (i := 15) rfl))) (mvT hZ (hw _ (List.mem_of_getElem? (i := 16) rfl))) (mvT hZ (hw _ (List.mem_of_getElem? (i := 4) rfl))) (mvT hZ (hw _ (List.mem_of_getElem? (i := 17) rfl))) (by decide) (backOf (W := 0) (rm4 l Z a0 hw [] b291 b254 (3 : Int32) mm cr ce  T291.heap n0 (Nat.le_trans Z0 K0_300.1) Arr_r Arr_e (by rw [hmm]; exact own_hs h9 Szr Hsr Sze Hse 3 (by decide))) hZ (hw _ (List.mem_of_getElem? (i := 17) rfl)) (hw _ (List.mem_of_getElem? (i := 4) rfl)) (by decide) (by decide)) (g := (mkF m 405 #[.val (.int p0), .val (.int p1), .val (.int p2), .val (.int p3), .val (.int p4), .val (.int (3 : Int32)), .val (.int c0), .val (.int c1), .val (.int c2), .val (.ref b221), .val (.ref b232), .val (.int d0), .val (.int d1), .val (.int d2), .val (.ref b254), .val (.int mm), .val (.int (0 : Int32)), .val (.ref b291), .val (.int (1 : Int32))] [(.int mm), (.int (3 : Int32)), (.ref b254), (.ref b291)])) rfl (by rw [hml]; rfl) (argsL := [(.ref b291), (.ref b254), (.int (3 : Int32)), (.int mm)]) (rest := []) (lenOf pd__28_5bB_5bBII_29Z rfl) rfl (by show 2 * 0 + _ ≤ _; exact Nat.le_of_eq rfl) (hb hby at_405) (fun _ _ => ⟨rfl, e302, (by decide : 4 + 0 ≤ _), (by decide : 277 + 0 ≤ _)⟩)
      dsimp only [Pt.U, Pt.locs, Pt.cells, Pt.slots] at X303 l303 y303 z303 st303 hQ303
      subst l303 y303 z303
      obtain ⟨rfl, N303q, e303⟩ := hQ303
      obtain ⟨_, X303, N303⟩ := own_hide X303 (Fr.app N302 N303q)
      refine own_st st303 ?_
      show own_Go _ _ _ _ T303 (mkF m 408 #[.val (.int p0), .val (.int p1), .val (.int p2), .val (.int p3), .val (.int p4), .val (.int (3 : Int32)), .val (.int c0), .val (.int c1), .val (.int c2), .val (.ref b221), .val (.ref b232), .val (.int d0), .val (.int d1), .val (.int d2), .val (.ref b254), .val (.int mm), .val (.int (0 : Int32)), .val (.ref b291), .val (.int (1 : Int32))] [(.int (1 : Int32))])
      refine own_st (fun t k => XS.ifNo X303.here hx rfl (hb hby at_408) rfl ((if0 _ _).trans (feq (by decide : ¬ ((1 : Int32) = (0 : Int32)))).1) k) ?_
      show own_Go _ _ _ _ T303 (mkF m 411 #[.val (.int p0), .val (.int p1), .val (.int p2), .val (.int p3), .val (.int p4), .val (.int (3 : Int32)), .val (.int c0), .val (.int c1), .val (.int c2), .val (.ref b221), .val (.ref b232), .val (.int d0), .val (.int d1), .val (.int d2), .val (.ref b254), .val (.int mm), .val (.int (0 : Int32)), .val (.ref b291), .val (.int (1 : Int32))] [])
      refine own_st (fun t k => XS.aload X303.here hx rfl (hb hby at_411) rfl rfl k) ?_
      refine own_st (fun t k => XS.aload X303.here hx rfl (hb hby at_413) rfl rfl k) ?_
      refine own_st (fun t k => XS.iconst X303.here hx rfl (hb hby at_415) k) ?_
      refine own_st (fun t k => XS.iload X303.here hx rfl (hb hby at_416) rfl k) ?_
      show own_Go _ _ _ _ T303 (mkF m 418 #[.val (.int p0), .val (.int p1), .val (.int p2), .val (.int p3), .val (.int p4), .val (.int (3 : Int32)), .val (.int c0), .val (.int c1), .val (.int c2), .val (.ref b221), .val (.ref b232), .val (.int d0), .val (.int d1), .val (.int d2), .val (.ref b254), .val (.int mm), .val (.int (0 : Int32)), .val (.ref b291), .val (.int (1 : Int32))] [(.int mm), (.int (4 : Int32)), (.ref b254), (.ref b291)])
      obtain ⟨_, _, ⟨T304, L304, k304, n304⟩, -, X304, ⟨Lc304, hQ304, l304, y304, z304⟩, st304⟩ := Jvm.LawKit.callS X303 hx (y := (⟨"shelfmark/IriPatternPercentEncodedPinLaw", "same", "([B[BII)Z"⟩ : MethodName)) hown (mvT hZ (hw _ (List.mem_of_getElem? (i := 15) rfl))) (mvT hZ (hw _ (List.mem_of_getElem? (i := 16) rfl))) (mvT hZ (hw _ (List.mem_of_getElem? (i := 4) rfl))) (mvT hZ (hw _ (List.mem_of_getElem? (i := 17) rfl))) (by decide) (backOf (W := 0) (rm4 l Z a0 hw [] b291 b254 (4 : Int32) mm cr ce  T291.heap n0 (Nat.le_trans Z0 K0_300.1) Arr_r Arr_e (by rw [hmm]; exact own_hs h9 Szr Hsr Sze Hse 4 (by decide))) hZ (hw _ (List.mem_of_getElem? (i := 17) rfl)) (hw _ (List.mem_of_getElem? (i := 4) rfl)) (by decide) (by decide)) (g := (mkF m 418 #[.val (.int p0), .val (.int p1), .val (.int p2), .val (.int p3), .val (.int p4), .val (.int (3 : Int32)), .val (.int c0), .val (.int c1), .val (.int c2), .val (.ref b221), .val (.ref b232), .val (.int d0), .val (.int d1), .val (.int d2), .val (.ref b254), .val (.int mm), .val (.int (0 : Int32)), .val (.ref b291), .val (.int (1 : Int32))] [(.int mm), (.int (4 : Int32)), (.ref b254), (.ref b291)])) rfl (by rw [hml]; rfl) (argsL := [(.ref b291), (.ref b254), (.int (4 : Int32)), (.int mm)]) (rest := []) (lenOf pd__28_5bB_5bBII_29Z rfl) rfl (by show 2 * 0 + _ ≤ _; exact Nat.le_of_eq rfl) (hb hby at_418) (fun _ _ => ⟨rfl, e303, (by decide : 4 + 0 ≤ _), (by decide : 277 + 0 ≤ _)⟩)
      dsimp only [Pt.U, Pt.locs, Pt.cells, Pt.slots] at X304 l304 y304 z304 st304 hQ304
      subst l304 y304 z304
      obtain ⟨rfl, N304q, e304⟩ := hQ304
      obtain ⟨_, X304, N304⟩ := own_hide X304 (Fr.app N303 N304q)
      refine own_st st304 ?_
      show own_Go _ _ _ _ T304 (mkF m 421 #[.val (.int p0), .val (.int p1), .val (.int p2), .val (.int p3), .val (.int p4), .val (.int (3 : Int32)), .val (.int c0), .val (.int c1), .val (.int c2), .val (.ref b221), .val (.ref b232), .val (.int d0), .val (.int d1), .val (.int d2), .val (.ref b254), .val (.int mm), .val (.int (0 : Int32)), .val (.ref b291), .val (.int (1 : Int32))] [(.int (1 : Int32))])
      refine own_st (fun t k => XS.ifNo X304.here hx rfl (hb hby at_421) rfl ((if0 _ _).trans (feq (by decide : ¬ ((1 : Int32) = (0 : Int32)))).1) k) ?_
      show own_Go _ _ _ _ T304 (mkF m 424 #[.val (.int p0), .val (.int p1), .val (.int p2), .val (.int p3), .val (.int p4), .val (.int (3 : Int32)), .val (.int c0), .val (.int c1), .val (.int c2), .val (.ref b221), .val (.ref b232), .val (.int d0), .val (.int d1), .val (.int d2), .val (.ref b254), .val (.int mm), .val (.int (0 : Int32)), .val (.ref b291), .val (.int (1 : Int32))] [])
      refine own_st (fun t k => XS.aload X304.here hx rfl (hb hby at_424) rfl rfl k) ?_
      refine own_st (fun t k => XS.aload X304.here hx rfl (hb hby at_426) rfl rfl k) ?_
      refine own_st (fun t k => XS.iconst X304.here hx rfl (hb hby at_428) k) ?_
      refine own_st (fun t k => XS.iload X304.here hx rfl (hb hby at_429) rfl k) ?_
      show own_Go _ _ _ _ T304 (mkF m 431 #[.val (.int p0), .val (.int p1), .val (.int p2), .val (.int p3), .val (.int p4), .val (.int (3 : Int32)), .val (.int c0), .val (.int c1), .val (.int c2), .val (.ref b221), .val (.ref b232), .val (.int d0), .val (.int d1), .val (.int d2), .val (.ref b254), .val (.int mm), .val (.int (0 : Int32)), .val (.ref b291), .val (.int (1 : Int32))] [(.int mm), (.int (5 : Int32)), (.ref b254), (.ref b291)])
      obtain ⟨_, _, ⟨T305, L305, k305, n305⟩, -, X305, ⟨Lc305, hQ305, l305, y305, z305⟩, st305⟩ := Jvm.LawKit.callS X304 hx (y := (⟨"shelfmark/IriPatternPercentEncodedPinLaw", "same", "([B[BII)Z"⟩ : MethodName)) hown (mvT hZ (hw _ (List.mem_of_getElem? (i := 15) rfl))) (mvT hZ (hw _ (List.mem_of_getElem? (i := 16) rfl))) (mvT hZ (hw _ (List.mem_of_getElem? (i := 4) rfl))) (mvT hZ (hw _ (List.mem_of_getElem? (i := 17) rfl))) (by decide) (backOf (W := 0) (rm4 l Z a0 hw [] b291 b254 (5 : Int32) mm cr ce  T291.heap n0 (Nat.le_trans Z0 K0_300.1) Arr_r Arr_e (by rw [hmm]; exact own_hs h9 Szr Hsr Sze Hse 5 (by decide))) hZ (hw _ (List.mem_of_getElem? (i := 17) rfl)) (hw _ (List.mem_of_getElem? (i := 4) rfl)) (by decide) (by decide)) (g := (mkF m 431 #[.val (.int p0), .val (.int p1), .val (.int p2), .val (.int p3), .val (.int p4), .val (.int (3 : Int32)), .val (.int c0), .val (.int c1), .val (.int c2), .val (.ref b221), .val (.ref b232), .val (.int d0), .val (.int d1), .val (.int d2), .val (.ref b254), .val (.int mm), .val (.int (0 : Int32)), .val (.ref b291), .val (.int (1 : Int32))] [(.int mm), (.int (5 : Int32)), (.ref b254), (.ref b291)])) rfl (by rw [hml]; rfl) (argsL := [(.ref b291), (.ref b254), (.int (5 : Int32)), (.int mm)]) (rest := []) (lenOf pd__28_5bB_5bBII_29Z rfl) rfl (by show 2 * 0 + _ ≤ _; exact Nat.le_of_eq rfl) (hb hby at_431) (fun _ _ => ⟨rfl, e304, (by decide : 4 + 0 ≤ _), (by decide : 277 + 0 ≤ _)⟩)
      dsimp only [Pt.U, Pt.locs, Pt.cells, Pt.slots] at X305 l305 y305 z305 st305 hQ305
      subst l305 y305 z305
      obtain ⟨rfl, N305q, e305⟩ := hQ305
      obtain ⟨_, X305, N305⟩ := own_hide X305 (Fr.app N304 N305q)
      refine own_st st305 ?_
      show own_Go _ _ _ _ T305 (mkF m 434 #[.val (.int p0), .val (.int p1), .val (.int p2), .val (.int p3), .val (.int p4), .val (.int (3 : Int32)), .val (.int c0), .val (.int c1), .val (.int c2), .val (.ref b221), .val (.ref b232), .val (.int d0), .val (.int d1), .val (.int d2), .val (.ref b254), .val (.int mm), .val (.int (0 : Int32)), .val (.ref b291), .val (.int (1 : Int32))] [(.int (1 : Int32))])
      refine own_st (fun t k => XS.ifNo X305.here hx rfl (hb hby at_434) rfl ((if0 _ _).trans (feq (by decide : ¬ ((1 : Int32) = (0 : Int32)))).1) k) ?_
      show own_Go _ _ _ _ T305 (mkF m 437 #[.val (.int p0), .val (.int p1), .val (.int p2), .val (.int p3), .val (.int p4), .val (.int (3 : Int32)), .val (.int c0), .val (.int c1), .val (.int c2), .val (.ref b221), .val (.ref b232), .val (.int d0), .val (.int d1), .val (.int d2), .val (.ref b254), .val (.int mm), .val (.int (0 : Int32)), .val (.ref b291), .val (.int (1 : Int32))] [])
      refine own_st (fun t k => XS.aload X305.here hx rfl (hb hby at_437) rfl rfl k) ?_
      refine own_st (fun t k => XS.aload X305.here hx rfl (hb hby at_439) rfl rfl k) ?_
      refine own_st (fun t k => XS.bipush X305.here hx rfl (hb hby at_441) k) ?_
      refine own_st (fun t k => XS.iload X305.here hx rfl (hb hby at_443) rfl k) ?_
      show own_Go _ _ _ _ T305 (mkF m 445 #[.val (.int p0), .val (.int p1), .val (.int p2), .val (.int p3), .val (.int p4), .val (.int (3 : Int32)), .val (.int c0), .val (.int c1), .val (.int c2), .val (.ref b221), .val (.ref b232), .val (.int d0), .val (.int d1), .val (.int d2), .val (.ref b254), .val (.int mm), .val (.int (0 : Int32)), .val (.ref b291), .val (.int (1 : Int32))] [(.int mm), (.int (6 : Int32)), (.ref b254), (.ref b291)])
      obtain ⟨_, _, ⟨T306, L306, k306, n306⟩, -, X306, ⟨Lc306, hQ306, l306, y306, z306⟩, st306⟩ := Jvm.LawKit.callS X305 hx (y := (⟨"shelfmark/IriPatternPercentEncodedPinLaw", "same", "([B[BII)Z"⟩ : MethodName)) hown (mvT hZ (hw _ (List.mem_of_getElem? (i := 15) rfl))) (mvT hZ (hw _ (List.mem_of_getElem? (i := 16) rfl))) (mvT hZ (hw _ (List.mem_of_getElem? (i := 4) rfl))) (mvT hZ (hw _ (List.mem_of_getElem? (i := 17) rfl))) (by decide) (backOf (W := 0) (rm4 l Z a0 hw [] b291 b254 (6 : Int32) mm cr ce  T291.heap n0 (Nat.le_trans Z0 K0_300.1) Arr_r Arr_e (by rw [hmm]; exact own_hs h9 Szr Hsr Sze Hse 6 (by decide))) hZ (hw _ (List.mem_of_getElem? (i := 17) rfl)) (hw _ (List.mem_of_getElem? (i := 4) rfl)) (by decide) (by decide)) (g := (mkF m 445 #[.val (.int p0), .val (.int p1), .val (.int p2), .val (.int p3), .val (.int p4), .val (.int (3 : Int32)), .val (.int c0), .val (.int c1), .val (.int c2), .val (.ref b221), .val (.ref b232), .val (.int d0), .val (.int d1), .val (.int d2), .val (.ref b254), .val (.int mm), .val (.int (0 : Int32)), .val (.ref b291), .val (.int (1 : Int32))] [(.int mm), (.int (6 : Int32)), (.ref b254), (.ref b291)])) rfl (by rw [hml]; rfl) (argsL := [(.ref b291), (.ref b254), (.int (6 : Int32)), (.int mm)]) (rest := []) (lenOf pd__28_5bB_5bBII_29Z rfl) rfl (by show 2 * 0 + _ ≤ _; exact Nat.le_of_eq rfl) (hb hby at_445) (fun _ _ => ⟨rfl, e305, (by decide : 4 + 0 ≤ _), (by decide : 277 + 0 ≤ _)⟩)
      dsimp only [Pt.U, Pt.locs, Pt.cells, Pt.slots] at X306 l306 y306 z306 st306 hQ306
      subst l306 y306 z306
      obtain ⟨rfl, N306q, e306⟩ := hQ306
      obtain ⟨_, X306, N306⟩ := own_hide X306 (Fr.app N305 N306q)
      refine own_st st306 ?_
      show own_Go _ _ _ _ T306 (mkF m 448 #[.val (.int p0), .val (.int p1), .val (.int p2), .val (.int p3), .val (.int p4), .val (.int (3 : Int32)), .val (.int c0), .val (.int c1), .val (.int c2), .val (.ref b221), .val (.ref b232), .val (.int d0), .val (.int d1), .val (.int d2), .val (.ref b254), .val (.int mm), .val (.int (0 : Int32)), .val (.ref b291), .val (.int (1 : Int32))] [(.int (1 : Int32))])
      refine own_st (fun t k => XS.ifNo X306.here hx rfl (hb hby at_448) rfl ((if0 _ _).trans (feq (by decide : ¬ ((1 : Int32) = (0 : Int32)))).1) k) ?_
      show own_Go _ _ _ _ T306 (mkF m 451 #[.val (.int p0), .val (.int p1), .val (.int p2), .val (.int p3), .val (.int p4), .val (.int (3 : Int32)), .val (.int c0), .val (.int c1), .val (.int c2), .val (.ref b221), .val (.ref b232), .val (.int d0), .val (.int d1), .val (.int d2), .val (.ref b254), .val (.int mm), .val (.int (0 : Int32)), .val (.ref b291), .val (.int (1 : Int32))] [])
      refine own_st (fun t k => XS.aload X306.here hx rfl (hb hby at_451) rfl rfl k) ?_
      refine own_st (fun t k => XS.aload X306.here hx rfl (hb hby at_453) rfl rfl k) ?_
      refine own_st (fun t k => XS.bipush X306.here hx rfl (hb hby at_455) k) ?_
      refine own_st (fun t k => XS.iload X306.here hx rfl (hb hby at_457) rfl k) ?_
      show own_Go _ _ _ _ T306 (mkF m 459 #[.val (.int p0), .val (.int p1), .val (.int p2), .val (.int p3), .val (.int p4), .val (.int (3 : Int32)), .val (.int c0), .val (.int c1), .val (.int c2), .val (.ref b221), .val (.ref b232), .val (.int d0), .val (.int d1), .val (.int d2), .val (.ref b254), .val (.int mm), .val (.int (0 : Int32)), .val (.ref b291), .val (.int (1 : Int32))] [(.int mm), (.int (7 : Int32)), (.ref b254), (.ref b291)])
      obtain ⟨_, _, ⟨T307, L307, k307, n307⟩, -, X307, ⟨Lc307, hQ307, l307, y307, z307⟩, st307⟩ := Jvm.LawKit.callS X306 hx (y := (⟨"shelfmark/IriPatternPercentEncodedPinLaw", "same", "([B[BII)Z"⟩ : MethodName)) hown (mvT hZ (hw _ (List.mem_of_getElem? (i := 15) rfl))) (mvT hZ (hw _ (List.mem_of_getElem? (i := 16) rfl))) (mvT hZ (hw _ (List.mem_of_getElem? (i := 4) rfl))) (mvT hZ (hw _ (List.mem_of_getElem? (i := 17) rfl))) (by decide) (backOf (W := 0) (rm4 l Z a0 hw [] b291 b254 (7 : Int32) mm cr ce  T291.heap n0 (Nat.le_trans Z0 K0_300.1) Arr_r Arr_e (by rw [hmm]; exact own_hs h9 Szr Hsr Sze Hse 7 (by decide))) hZ (hw _ (List.mem_of_getElem? (i := 17) rfl)) (hw _ (List.mem_of_getElem? (i := 4) rfl)) (by decide) (by decide)) (g := (mkF m 459 #[.val (.int p0), .val (.int p1), .val (.int p2), .val (.int p3), .val (.int p4), .val (.int (3 : Int32)), .val (.int c0), .val (.int c1), .val (.int c2), .val (.ref b221), .val (.ref b232), .val (.int d0), .val (.int d1), .val (.int d2), .val (.ref b254), .val (.int mm), .val (.int (0 : Int32)), .val (.ref b291), .val (.int (1 : Int32))] [(.int mm), (.int (7 : Int32)), (.ref b254), (.ref b291)])) rfl (by rw [hml]; rfl) (argsL := [(.ref b291), (.ref b254), (.int (7 : Int32)), (.int mm)]) (rest := []) (lenOf pd__28_5bB_5bBII_29Z rfl) rfl (by show 2 * 0 + _ ≤ _; exact Nat.le_of_eq rfl) (hb hby at_459) (fun _ _ => ⟨rfl, e306, (by decide : 4 + 0 ≤ _), (by decide : 277 + 0 ≤ _)⟩)
      dsimp only [Pt.U, Pt.locs, Pt.cells, Pt.slots] at X307 l307 y307 z307 st307 hQ307
      subst l307 y307 z307
      obtain ⟨rfl, N307q, e307⟩ := hQ307
      obtain ⟨_, X307, N307⟩ := own_hide X307 (Fr.app N306 N307q)
      refine own_st st307 ?_
      show own_Go _ _ _ _ T307 (mkF m 462 #[.val (.int p0), .val (.int p1), .val (.int p2), .val (.int p3), .val (.int p4), .val (.int (3 : Int32)), .val (.int c0), .val (.int c1), .val (.int c2), .val (.ref b221), .val (.ref b232), .val (.int d0), .val (.int d1), .val (.int d2), .val (.ref b254), .val (.int mm), .val (.int (0 : Int32)), .val (.ref b291), .val (.int (1 : Int32))] [(.int (1 : Int32))])
      refine own_st (fun t k => XS.ifNo X307.here hx rfl (hb hby at_462) rfl ((if0 _ _).trans (feq (by decide : ¬ ((1 : Int32) = (0 : Int32)))).1) k) ?_
      show own_Go _ _ _ _ T307 (mkF m 465 #[.val (.int p0), .val (.int p1), .val (.int p2), .val (.int p3), .val (.int p4), .val (.int (3 : Int32)), .val (.int c0), .val (.int c1), .val (.int c2), .val (.ref b221), .val (.ref b232), .val (.int d0), .val (.int d1), .val (.int d2), .val (.ref b254), .val (.int mm), .val (.int (0 : Int32)), .val (.ref b291), .val (.int (1 : Int32))] [])
      refine own_st (fun t k => XS.aload X307.here hx rfl (hb hby at_465) rfl rfl k) ?_
      refine own_st (fun t k => XS.aload X307.here hx rfl (hb hby at_467) rfl rfl k) ?_
      refine own_st (fun t k => XS.bipush X307.here hx rfl (hb hby at_469) k) ?_
      refine own_st (fun t k => XS.iload X307.here hx rfl (hb hby at_471) rfl k) ?_
      show own_Go _ _ _ _ T307 (mkF m 473 #[.val (.int p0), .val (.int p1), .val (.int p2), .val (.int p3), .val (.int p4), .val (.int (3 : Int32)), .val (.int c0), .val (.int c1), .val (.int c2), .val (.ref b221), .val (.ref b232), .val (.int d0), .val (.int d1), .val (.int d2), .val (.ref b254), .val (.int mm), .val (.int (0 : Int32)), .val (.ref b291), .val (.int (1 : Int32))] [(.int mm), (.int (8 : Int32)), (.ref b254), (.ref b291)])
      obtain ⟨_, _, ⟨T308, L308, k308, n308⟩, -, X308, ⟨Lc308, hQ308, l308, y308, z308⟩, st308⟩ := Jvm.LawKit.callS X307 hx (y := (⟨"shelfmark/IriPatternPercentEncodedPinLaw", "same", "([B[BII)Z"⟩ : MethodName)) hown (mvT hZ (hw _ (List.mem_of_getElem? (i := 15) rfl))) (mvT hZ (hw _ (List.mem_of_getElem? (i := 16) rfl))) (mvT hZ (hw _ (List.mem_of_getElem? (i := 4) rfl))) (mvT hZ (hw _ (List.mem_of_getElem? (i := 17) rfl))) (by decide) (backOf (W := 0) (rm4 l Z a0 hw [] b291 b254 (8 : Int32) mm cr ce  T291.heap n0 (Nat.le_trans Z0 K0_300.1) Arr_r Arr_e (by rw [hmm]; exact own_hs h9 Szr Hsr Sze Hse 8 (by decide))) hZ (hw _ (List.mem_of_getElem? (i := 17) rfl)) (hw _ (List.mem_of_getElem? (i := 4) rfl)) (by decide) (by decide)) (g := (mkF m 473 #[.val (.int p0), .val (.int p1), .val (.int p2), .val (.int p3), .val (.int p4), .val (.int (3 : Int32)), .val (.int c0), .val (.int c1), .val (.int c2), .val (.ref b221), .val (.ref b232), .val (.int d0), .val (.int d1), .val (.int d2), .val (.ref b254), .val (.int mm), .val (.int (0 : Int32)), .val (.ref b291), .val (.int (1 : Int32))] [(.int mm), (.int (8 : Int32)), (.ref b254), (.ref b291)])) rfl (by rw [hml]; rfl) (argsL := [(.ref b291), (.ref b254), (.int (8 : Int32)), (.int mm)]) (rest := []) (lenOf pd__28_5bB_5bBII_29Z rfl) rfl (by show 2 * 0 + _ ≤ _; exact Nat.le_of_eq rfl) (hb hby at_473) (fun _ _ => ⟨rfl, e307, (by decide : 4 + 0 ≤ _), (by decide : 277 + 0 ≤ _)⟩)
      dsimp only [Pt.U, Pt.locs, Pt.cells, Pt.slots] at X308 l308 y308 z308 st308 hQ308
      subst l308 y308 z308
      obtain ⟨rfl, N308q, e308⟩ := hQ308
      obtain ⟨_, X308, N308⟩ := own_hide X308 (Fr.app N307 N308q)
      refine own_st st308 ?_
      show own_Go _ _ _ _ T308 (mkF m 476 #[.val (.int p0), .val (.int p1), .val (.int p2), .val (.int p3), .val (.int p4), .val (.int (3 : Int32)), .val (.int c0), .val (.int c1), .val (.int c2), .val (.ref b221), .val (.ref b232), .val (.int d0), .val (.int d1), .val (.int d2), .val (.ref b254), .val (.int mm), .val (.int (0 : Int32)), .val (.ref b291), .val (.int (1 : Int32))] [(.int (1 : Int32))])
      refine own_st (fun t k => XS.ifNo X308.here hx rfl (hb hby at_476) rfl ((if0 _ _).trans (feq (by decide : ¬ ((1 : Int32) = (0 : Int32)))).1) k) ?_
      show own_Go _ _ _ _ T308 (mkF m 479 #[.val (.int p0), .val (.int p1), .val (.int p2), .val (.int p3), .val (.int p4), .val (.int (3 : Int32)), .val (.int c0), .val (.int c1), .val (.int c2), .val (.ref b221), .val (.ref b232), .val (.int d0), .val (.int d1), .val (.int d2), .val (.ref b254), .val (.int mm), .val (.int (0 : Int32)), .val (.ref b291), .val (.int (1 : Int32))] [])
      refine own_st (fun t k => XS.iconst X308.here hx rfl (hb hby at_479) k) ?_
      refine own_st (fun t k => XS.goto X308.here hx rfl (pc0 := 480) (pc' := 484) rfl (hb hby at_480) (by decide) (by decide) k) ?_
      show own_Go _ _ _ _ T308 (mkF m 484 #[.val (.int p0), .val (.int p1), .val (.int p2), .val (.int p3), .val (.int p4), .val (.int (3 : Int32)), .val (.int c0), .val (.int c1), .val (.int c2), .val (.ref b221), .val (.ref b232), .val (.int d0), .val (.int d1), .val (.int d2), .val (.ref b254), .val (.int mm), .val (.int (0 : Int32)), .val (.ref b291), .val (.int (1 : Int32))] [(.int (1 : Int32))])
      exact own_retN X308 hx hlk (t := .boolean) hrt (by simp) (hb hby at_484) ⟨rfl, N308⟩ (by decide) (by decide)
theorem own_len {args : Array Value} {s : State} {t : Term} {a : Addr} {c : Cell} {ty : FieldType} {z : Int32} (ev : t.eval args s none [] s = some (.ref a)) (A : Arr s s.heap a c ty) (h : (Term.length t).eval args s none [] s = some (.int z)) : c.slots.size = z.toNatClampNeg := by
  have ha := A.fin (U := s) (Vm.Alike.refl _)
  by_cases hl : c.slots.size < 2 ^ 31
  · rw [len_f ev ha hl] at h
    cases h
    have q := len_toInt hl
    simp only [Int32.toNatClampNeg, q]
    omega
  · simp [Term.eval, ev, ha, hl] at h
theorem own_elem {args : Array Value} {s : State} {X : Term} {idx : List Nat} {j : Int32} {k : Int64} {v : Option Value} (hX : X.eval args s none idx s = v) (ij : (Term.index 0).eval args s none idx s = some (.int j)) (h : (Cond.eq (.op1 .i2l X) (.op2 .ladd (.op1 .i2l (.index 0)) (.long k))).value args s none s idx = some true) : ∃ z : Int32, v = some (.int z) ∧ z.toInt64 = j.toInt64 + k := by
  have hF : (Term.op2 .ladd (.op1 .i2l (.index 0)) (.long k)).eval args s none idx s = some (.long (j.toInt64 + k)) := by
    rw [op2_f (i2l_at ij) (rfl : (Term.long k).eval args s none idx s = some (.long k))]
    rfl
  have q := eqv_l hF h
  obtain ⟨x, e1, e2⟩ := op1_v q
  rw [hX] at e1
  cases x with
  | int z => simp [Unary.apply] at e2; exact ⟨z, e1, e2⟩
  | _ => simp [Unary.apply] at e2
theorem own_hexat {args : Array Value} {s : State} {a : Addr} {c : Cell} {C n d : String} (eva : (Term.static C n d).eval args s none [] s = some (.ref a)) (A : Arr s s.heap a c .byte) (hsz : c.slots.size = 16)
    (h3 : (Cond.all (Term.static C n d) (.or (.le (.int 10) (.index 0)) (.eq (.op1 .i2l (.elem (Term.static C n d) (.index 0))) (.op2 .ladd (.op1 .i2l (.index 0)) (.long 48))))).value args s none s [] = some true) (h4 : (Cond.all (Term.static C n d) (.or (.lt (.index 0) (.int 10)) (.eq (.op1 .i2l (.elem (Term.static C n d) (.index 0))) (.op2 .ladd (.op1 .i2l (.index 0)) (.long 55))))).value args s none s [] = some true) :
    ∀ j : Int32, (0 ≤ j.toInt ∧ j.toInt < 16) → c.slots[j.toNatClampNeg]? = some (.int (own_H j)) := by
  intro j hj
  have ha := A.fin (U := s) (Vm.Alike.refl _)
  have et : ∀ idx, (Term.static C n d).eval args s none idx s = some (.ref a) := fun idx => by simpa [Term.eval] using eva
  have nn : ¬ j < 0 := by rw [Int32.lt_iff_toInt_lt]; simp only [Int32.reduceToInt]; omega
  have hk : j.toNatClampNeg < c.slots.size := by rw [hsz]; simp only [Int32.toNatClampNeg]; omega
  have ij : (Term.index 0).eval args s none [j.toNatClampNeg] s = some (.int j) := idx_at nn
  have el := elem_f (et [j.toNatClampNeg]) ij ha nn
  by_cases q : j < 10
  · have u := Cond.all_elim (et []) ha h3 _ hk
    have hg : (Cond.le (.int 10) (.index 0)).value args s none s [j.toNatClampNeg] = some false := nay (Cond.le_ints (Term.int_eval _) ij) (by rw [Int32.not_le]; exact q)
    rw [Cond.or_of_right hg] at u
    obtain ⟨z, e1, e2⟩ := own_elem el ij u
    rw [e1]
    congr 2
    rw [own_H, if_pos q]
    apply Int32.toInt_inj.mp
    have e3 := congrArg Int64.toInt e2
    have a1 := c_ladd j.toInt64 48
    have a2 := c_iadd j 48
    have r1 := rng64 (j.toInt64 + 48)
    have r2 := rng32 (j + 48)
    rw [c_i2l] at e3 a1
    simp only [Int64.reduceToInt, Int32.reduceToInt] at a1 a2
    omega
  · have u := Cond.all_elim (et []) ha h4 _ hk
    have hg : (Cond.lt (.index 0) (.int 10)).value args s none s [j.toNatClampNeg] = some false := nay (Cond.lt_ints ij (Term.int_eval _)) q
    rw [Cond.or_of_right hg] at u
    obtain ⟨z, e1, e2⟩ := own_elem el ij u
    rw [e1]
    congr 2
    rw [own_H, if_neg q]
    apply Int32.toInt_inj.mp
    have e3 := congrArg Int64.toInt e2
    have a1 := c_ladd j.toInt64 55
    have a2 := c_iadd j 55
    have r1 := rng64 (j.toInt64 + 55)
    have r2 := rng32 (j + 55)
    rw [c_i2l] at e3 a1
    simp only [Int64.reduceToInt, Int32.reduceToInt] at a1 a2
    omega
set_option maxRecDepth 65536 in
set_option maxHeartbeats 40000000 in
theorem comes_1 {Post : Tables → Env → Array Value → State → Outcome → State → Prop} (hpost : ∀ tb e args s v u, (limb_1_1.after args s (.returned v) u = true ∧ limb_1_2.after args s (.returned v) u = true ∧ True) → FrameEnd s (.returned v) u (Jvm.fieldLocs frame_1_writes args s ++ Jvm.arrayLocs frame_1_arrays args s ++ Jvm.staticLocs frame_1_statics s) 16 640 → Post tb e args s (.returned v) u) :
    ArmFor flags0 classFile x code maxLocals ret World_1 tables_1 room_1 Calls_1 rest_1 Pre_1 Post := by
  intro l hfl _ _ p e ha hc hk s m args below hf hA hF happ hP
  obtain ⟨hcalls, hrest, hpre⟩ := hP
  obtain ⟨-, -, -, hnamed, -, -, -, hat⟩ := (Spec.applies_iff hf).mp happ
  obtain ⟨hg, hn⟩ := and_e (Cond.before_iff.mp (show (Jvm.Cond.and given_1 narrow_1).before args s = true from hpre))
  obtain ⟨gc, gr0⟩ := and_e hg
  obtain ⟨ga0, gr1⟩ := and_e gr0
  obtain ⟨ga1, gr2⟩ := and_e gr1
  obtain ⟨ga2, gr3⟩ := and_e gr2
  obtain ⟨ga3, gr4⟩ := and_e gr3
  obtain ⟨w0, w1, w2, w3, w4, rfl⟩ : ∃ w0 w1 w2 w3 w4 : Value, args = #[w0, w1, w2, w3, w4] := by
    have hs : args.size = 5 := by simpa [Cond.value, given_1] using gc
    obtain ⟨L⟩ := args
    match L, hs with
    | [w0, w1, w2, w3, w4], _ => exact ⟨w0, w1, w2, w3, w4, rfl⟩
  have hw := fun d (hd : d ∈ tables_1) => atoms_spec (ws := Jvm.Cond.code x code maxLocals ret :: tables_1) hat d (List.mem_cons_of_mem _ hd)
  have hfit : Fit s := fun {y c} hc i hi => by
    obtain ⟨ha, rfl⟩ := Array.getElem?_eq_some_iff.mp hc
    have q := List.all_eq_true.mp ((Array.all_eq_true_iff_forall_mem.mp hF) _ (Array.getElem_mem ha)) i (List.mem_range.mpr hi)
    simpa [Array.getElem?_eq_getElem hi] using q
  obtain ⟨i0, ei0⟩ := is_v ga0
  obtain rfl : w0 = (.int i0) := Option.some.inj ei0
  obtain ⟨i1, ei1⟩ := is_v ga1
  obtain rfl : w1 = (.int i1) := Option.some.inj ei1
  obtain ⟨i2, ei2⟩ := is_v ga2
  obtain rfl : w2 = (.int i2) := Option.some.inj ei2
  obtain ⟨i3, ei3⟩ := is_v ga3
  obtain rfl : w3 = (.int i3) := Option.some.inj ei3
  obtain ⟨i4, ei4⟩ := is_v gr4
  obtain rfl : w4 = (.int i4) := Option.some.inj ei4
  obtain ⟨hn1, hn⟩ := and_e hn
  obtain ⟨hn2, hn⟩ := and_e hn
  obtain ⟨hn3, hn4⟩ := and_e hn
  obtain ⟨ra, eva⟩ := arr_v hn1
  have SH := Sta.start eva (Or.inr ⟨(hw _ (List.mem_of_getElem? (i := 11) rfl)), (hw _ (List.mem_of_getElem? (i := 14) rfl))⟩)
  obtain ⟨ch, AH⟩ := Arr.start eva hn1
  have hsz : ch.slots.size = 16 := own_len eva AH (own_eq_int hn2)
  have hH := own_hexat eva AH hsz hn3 hn4
  obtain ⟨n, o, h1, h2, h3, _, L, rfl, ⟨rfl, N⟩, hq⟩ := rm0 l s _ hw tables_1 i0 i1 i2 i3 i4 ra ch s.heap s.heap.size (Nat.le_refl _) SH AH ⟨hsz, hH⟩ p e ha hc hk s m _ below hf ((Spec.applies_iff_loose hf).mp happ).1 ⟨rfl, State.Warmed39.refl s, rfl⟩ trivial
  refine ⟨n, _, h1, h2, h3, hpost _ _ _ _ _ _ ⟨Cond.after_iff.mpr rfl, Cond.after_iff.mpr (eq_i res_at (Term.int_eval (1)) rfl), trivial⟩ ⟨hq.1, hq.2.1, (hq.2.2.sift fun y hy => Or.inr (N y hy)).mono (by decide) (by decide)⟩⟩
theorem main_1_1 : Claimed_1_1 := comes_1 fun _ _ _ _ _ _ h hF => ⟨h.1, hF⟩
theorem main_1_2 : Claimed_1_2 := comes_1 fun _ _ _ _ _ _ h hF => ⟨h.2.1, hF⟩
end Jvm.Pilot.@@N@@
namespace Jvm.Pilot.@@N@@
open Jvm Jvm.ClassFile Sem Op Lib Jvm.Free Jvm.Stand Jvm.Pilot.@@N@@.Jvm.D
/-! MADE BY PROGRAM (witnessworld.py) out of the Statement's table words and the real class files: 11 classes; the members and pool entries that the words name. The judged class is class 1, her method 1. -/
namespace start1
open Jvm.ClassFile
def u (s : String) : CpInfo := .utf8 (stringToUtf16 s)
/-- a pool by its gaps: so many unusable entries, then the entry; so many at the end -/
def gap : Nat → List CpInfo → List CpInfo
  | 0, r => r
  | n + 1, r => .unusable :: gap n r
def poolList (es : List (Nat × CpInfo)) (last : Nat) : List CpInfo := es.foldr (fun e r => gap e.1 (e.2 :: r)) (gap last [])
def pool (es : List (Nat × CpInfo)) (last : Nat) : Array CpInfo := ⟨poolList es last⟩
def fileOf (pool : Array CpInfo) (this : Nat) (attrs : Array Attribute := #[]) (ms : Array MethodInfo := #[]) (fl : Nat := 33) (sup : Nat := 0) (ifs : Array Nat := #[]) (fds : Array FieldInfo := #[]) : ClassFile where
  minorVersion := 0
  majorVersion := 65
  constantPool := pool
  accessFlags := fl
  thisClass := this
  superClass := sup
  interfaces := ifs
  fields := fds
  methods := ms
  attributes := attrs
def plain (name : String) (sup : Option ClassId) : Class where
  name := name
  kind := .ordinary
  loader := none
  accessFlags := 33
  super := sup
  interfaces := #[]
  cf := none
  fields := #[]
  methods := #[]
  instanceTypes := #[]
  staticTypes := #[]
  resolved := #[]
  callSites := []
  init := .initialized
  statics := none
  mirror := none

def pool0 : Array CpInfo := pool [(5, u "<init>"), (0, u "()V"), (1, .class_ 10), (1, u "java/lang/Object")] 113

def k0m0 : Method := { name := "<init>", desc := "()V", sig := { parameters := [], returnType := none }, accessFlags := 1, code := none }
/-- java/lang/Object -/
def k0 : Class := { plain "java/lang/Object" none with
  accessFlags := 33
  interfaces := #[]
  cf := some (fileOf pool0 8 #[] #[{ accessFlags := 1, nameIndex := 5, descriptorIndex := 6, attributes := #[] }] 33 0 #[] #[])
  fields := #[]
  methods := #[k0m0]
  instanceTypes := #[]
  staticTypes := #[]
  resolved := Array.replicate 124 none
  statics := none }

def pool1 : Array CpInfo := pool [(2, .class_ 4), (1, u "java/lang/Object"), (0, u "<init>"), (0, u "()V"), (0, .methodref 8 9), (0, .class_ 10), (0, .nameAndType 11 12), (0, u "shelfmark/IriPatternPercentEncodedPinLaw"), (0, u "put"), (0, u "([BIBZ)I"), (0, .methodref 14 15), (0, .class_ 16), (0, .nameAndType 17 18), (0, u "shelfmark/IriPattern"), (0, u "percentEncoded"), (0, u "([B[Z)[B"), (0, .methodref 8 20), (0, .nameAndType 21 22), (0, u "same"), (0, u "([B[BII)Z"), (0, .methodref 8 24), (0, .nameAndType 25 26), (0, u "hex"), (0, u "(I)B"), (2, u "law"), (0, u "(IIIII)Z")] 7

def k1m0 : Method := { name := "<init>", desc := "()V", sig := { parameters := [], returnType := none }, accessFlags := 1, code := none }
def k1c1 : Code := { maxStack := 4, maxLocals := 19, code := code, exceptionTable := #[], attributes := #[] }
def k1m1 : Method := { name := "law", desc := "(IIIII)Z", sig := { parameters := [.int, .int, .int, .int, .int], returnType := some .boolean }, accessFlags := 9, code := some k1c1 }
def k1c2 : Code := { maxStack := 4, maxLocals := 4, code := method_3_code, exceptionTable := #[], attributes := #[] }
def k1m2 : Method := { name := "put", desc := "([BIBZ)I", sig := { parameters := [(.array .byte), .int, .byte, .boolean], returnType := some .int }, accessFlags := 10, code := some k1c2 }
def k1c3 : Code := { maxStack := 3, maxLocals := 1, code := method_4_code, exceptionTable := #[], attributes := #[] }
def k1m3 : Method := { name := "hex", desc := "(I)B", sig := { parameters := [.int], returnType := some .byte }, accessFlags := 10, code := some k1c3 }
def k1c4 : Code := { maxStack := 3, maxLocals := 4, code := method_5_code, exceptionTable := #[], attributes := #[] }
def k1m4 : Method := { name := "same", desc := "([B[BII)Z", sig := { parameters := [(.array .byte), (.array .byte), .int, .int], returnType := some .boolean }, accessFlags := 10, code := some k1c4 }
/-- shelfmark/IriPatternPercentEncodedPinLaw -/
def k1 : Class := { plain "shelfmark/IriPatternPercentEncodedPinLaw" (some 0) with
  accessFlags := 49
  interfaces := #[]
  cf := some (fileOf pool1 8 #[] #[{ accessFlags := 1, nameIndex := 5, descriptorIndex := 6, attributes := #[] }, { accessFlags := 9, nameIndex := 29, descriptorIndex := 30, attributes := #[] }, { accessFlags := 10, nameIndex := 11, descriptorIndex := 12, attributes := #[] }, { accessFlags := 10, nameIndex := 25, descriptorIndex := 26, attributes := #[] }, { accessFlags := 10, nameIndex := 21, descriptorIndex := 22, attributes := #[] }] 49 2 #[] #[])
  fields := #[]
  methods := #[k1m0, k1m1, k1m2, k1m3, k1m4]
  instanceTypes := #[]
  staticTypes := #[]
  resolved := Array.replicate 38 none
  statics := none }

def pool2 : Array CpInfo := pool [(2, .class_ 4), (1, u "java/lang/Object"), (15, .class_ 22), (1, u "shelfmark/IriPattern"), (0, u "prefix"), (0, u "[B"), (2, u "suffix"), (9, u "SEGMENT_BYTES"), (0, u "[Z"), (2, u "percentEncoded"), (0, u "([B[Z)[B"), (36, .fieldref 20 80), (0, .nameAndType 81 24), (0, u "HEX_DIGITS"), (2, u "SEGMENT_PUNCTUATION"), (0, u "Ljava/lang/String;")] 13

def k2c0 : Code := { maxStack := 5, maxLocals := 9, code := prog_17_method_6_code, exceptionTable := #[], attributes := #[] }
def k2m0 : Method := { name := "percentEncoded", desc := "([B[Z)[B", sig := { parameters := [(.array .byte), (.array .boolean)], returnType := some (.array .byte) }, accessFlags := 8, code := some k2c0 }
/-- shelfmark/IriPattern -/
def k2 : Class := { plain "shelfmark/IriPattern" (some 0) with
  accessFlags := 48
  interfaces := #[]
  cf := some (fileOf pool2 20 #[] #[{ accessFlags := 8, nameIndex := 41, descriptorIndex := 42, attributes := #[] }] 48 2 #[] #[{ accessFlags := 26, nameIndex := 84, descriptorIndex := 85, attributes := #[] }, { accessFlags := 26, nameIndex := 37, descriptorIndex := 38, attributes := #[] }, { accessFlags := 26, nameIndex := 81, descriptorIndex := 24, attributes := #[] }, { accessFlags := 18, nameIndex := 23, descriptorIndex := 24, attributes := #[] }, { accessFlags := 18, nameIndex := 27, descriptorIndex := 24, attributes := #[] }])
  fields := #[{ name := "SEGMENT_PUNCTUATION", type := (.object "java/lang/String"), accessFlags := 26, slot := 0, constantValue := 0 }, { name := "SEGMENT_BYTES", type := (.array .boolean), accessFlags := 26, slot := 1, constantValue := 0 }, { name := "HEX_DIGITS", type := (.array .byte), accessFlags := 26, slot := 2, constantValue := 0 }, { name := "prefix", type := (.array .byte), accessFlags := 18, slot := 0, constantValue := 0 }, { name := "suffix", type := (.array .byte), accessFlags := 18, slot := 1, constantValue := 0 }]
  methods := #[k2m0]
  instanceTypes := #[(.array .byte), (.array .byte)]
  staticTypes := #[(.object "java/lang/String"), (.array .boolean), (.array .byte)]
  resolved := Array.replicate 99 none
  statics := some 0 }

def pool3 : Array CpInfo := pool [(1, u "java/lang/Cloneable"), (0, .class_ 1), (0, u "java/lang/Object"), (0, .class_ 3)] 3

/-- java/lang/Cloneable -/
def k3 : Class := { plain "java/lang/Cloneable" (some 0) with
  accessFlags := 1537
  interfaces := #[]
  cf := some (fileOf pool3 2 #[] #[] 1537 4 #[] #[])
  fields := #[]
  methods := #[]
  instanceTypes := #[]
  staticTypes := #[]
  resolved := Array.replicate 8 none
  statics := none }

def pool4 : Array CpInfo := pool [(1, u "java/io/Serializable"), (0, .class_ 1), (0, u "java/lang/Object"), (0, .class_ 3)] 3

/-- java/io/Serializable -/
def k4 : Class := { plain "java/io/Serializable" (some 0) with
  accessFlags := 1537
  interfaces := #[]
  cf := some (fileOf pool4 2 #[] #[] 1537 4 #[] #[])
  fields := #[]
  methods := #[]
  instanceTypes := #[]
  staticTypes := #[]
  resolved := Array.replicate 8 none
  statics := none }

/-- the primitive boolean -/
def k5 : Class := { plain "boolean" none with kind := .primitive 'Z', accessFlags := 0x411 }
/-- [Z -/
def k6 : Class := { plain "[Z" (some 0) with kind := .array 5 .boolean, interfaces := #[3, 4], accessFlags := 1041 }

/-- the primitive byte -/
def k7 : Class := { plain "byte" none with kind := .primitive 'B', accessFlags := 0x411 }
/-- [B -/
def k8 : Class := { plain "[B" (some 0) with kind := .array 7 .byte, interfaces := #[3, 4], accessFlags := 1041 }

/-- the primitive int -/
def k9 : Class := { plain "int" none with kind := .primitive 'I', accessFlags := 0x411 }
/-- [I -/
def k10 : Class := { plain "[I" (some 0) with kind := .array 9 .int, interfaces := #[3, 4], accessFlags := 1041 }

def heap : Heap := #[{ cls := 2, slots := #[.null, .null, .ref 1], vm := .statics 2 },
  { cls := 8, slots := #[.int 48, .int 49, .int 50, .int 51, .int 52, .int 53, .int 54, .int 55, .int 56, .int 57, .int 65, .int 66, .int 67, .int 68, .int 69, .int 70], vm := .none }]
def classes : Array Class := #[k0, k1, k2, k3, k4, k5, k6, k7, k8, k9, k10]
def interned : List (Array UInt16 × Addr) := []
def slotsUsed : Nat := 19
def theMethod : MethodId := ⟨1, 1⟩
def args0 : Array Value := #[.int 65, .int 37, .int 7, .int 3, .int 5]
def aboutOver (below : List Frame) : State where
  vm := { classes := classes, interned := interned.toArray }
  heap := heap
  slotsUsed := slotsUsed
  threads := #[{ frames := .invoking theMethod args0 :: below }]
def below0 : List Frame := [.native { method := ⟨0, 0⟩, args := #[] }]
def about1 : State := aboutOver below0
def p0 : Program := .bare "" "" ""
def e0 : Env := launch0.env 0 0 0
theorem w_frames : about1.frames = Frame.invoking theMethod args0 :: below0 := rfl
set_option maxRecDepth 65536 in
theorem w_args : argsFit about1.vm theMethod args0 = true := by decide +kernel
set_option maxRecDepth 65536 in
theorem w_heap : heapFits about1 = true := by decide +kernel
set_option maxRecDepth 65536 in
theorem w_runnable : about1.curStatus? = some .runnable := by decide +kernel
set_option maxRecDepth 65536 in
theorem w_alone : about1.alone = true := by decide +kernel
set_option maxRecDepth 65536 in
theorem w_named : about1.methodNamed? x = some theMethod := by decide +kernel
set_option maxRecDepth 65536 in
theorem w_hears : about1.hears theMethod below0 = true := by decide +kernel
set_option maxRecDepth 65536 in
theorem w_ripe : about1.ripe theMethod args0 below0 = true := by decide +kernel
theorem w_running : about1.status = .running := rfl
set_option maxRecDepth 65536 in
theorem w_room : about1.hasRoom e0.platform room_1 = true :=
  launch0.hasRoom_least _ room_1 (by decide +kernel) (by decide +kernel) (by decide +kernel) (by decide +kernel) (by decide +kernel) (by decide +kernel)
theorem allAtoms_all (ts : List Jvm.Cond) (a : Array Jvm.Value) (st : Jvm.State) : (allAtoms ts).before a st = ts.all (fun c => c.before a st) := by
  induction ts with
  | nil => rfl
  | cons c t ih =>
    show (Jvm.Cond.and c (allAtoms t)).before a st = _
    rw [Jvm.Cond.before_and, ih, List.all_cons]
def words1 : List Jvm.Cond := Jvm.Cond.code x code maxLocals ret :: tables_1
/-- a 'code' word, met by the world's own term for the bytes: nothing is compared byte by byte -/
theorem code_word {y : MethodName} {bytes : ByteArray} {mx : Nat} {rt : Option FieldType} {a : Array Value} {s : State} {m : MethodId} {meth : Method} {c : Code} (h1 : s.methodNamed? y = some m) (h2 : s.vm.method? m = some meth) (h3 : meth.code = some c) (h4 : c.code = bytes)
    (h5 : (c.maxLocals == mx && c.exceptionTable.isEmpty && decide (c.maxStack ≤ mostOperands) && decide (meth.sig.returnType = rt) && !meth.locks && decide (parseMethodDescriptor y.desc = some meth.sig)) = true) : (Jvm.Cond.code y bytes mx rt).before a s = true := by
  simp only [Bool.and_eq_true, beq_iff_eq, Bool.not_eq_true', decide_eq_true_eq] at h5
  obtain ⟨⟨⟨⟨⟨g1, g2⟩, g3⟩, g4⟩, g5⟩, g6⟩ := h5
  simp [Cond.before, Cond.holds, Cond.value, h1, h2, h3, h4, g1, g2, g3, g4, g5, g6]
def isCode : Jvm.Cond → Bool
  | .code _ _ _ _ => true
  | _ => false
theorem all_split {L : List Jvm.Cond} {P : Jvm.Cond → Bool} (h1 : L.all (fun c => isCode c || P c) = true) (h2 : ∀ c ∈ L.filter isCode, P c = true) : L.all P = true := by
  refine List.all_eq_true.mpr fun c hc => ?_
  have h := List.all_eq_true.mp h1 c hc
  rcases Bool.eq_false_or_eq_true (isCode c) with hi | hi
  · exact h2 c (List.mem_filter.mpr ⟨hc, hi⟩)
  · simpa [hi] using h
set_option maxRecDepth 65536 in
theorem w_c0 : (Jvm.Cond.code x code maxLocals ret).before args0 about1 = true := code_word (m := ⟨1, 1⟩) (meth := k1m1) (c := k1c1) (by decide +kernel) rfl rfl rfl (by decide +kernel)
set_option maxRecDepth 65536 in
theorem w_c1 : (Jvm.Cond.code ({ cls := "shelfmark/IriPatternPercentEncodedPinLaw", name := "put", desc := "([BIBZ)I" } : Jvm.MethodName) method_3_code (4 : Nat) (Option.some Jvm.ClassFile.FieldType.int)).before args0 about1 = true := code_word (m := ⟨1, 2⟩) (meth := k1m2) (c := k1c2) (by decide +kernel) rfl rfl rfl (by decide +kernel)
set_option maxRecDepth 65536 in
theorem w_c2 : (Jvm.Cond.code ({ cls := "shelfmark/IriPatternPercentEncodedPinLaw", name := "hex", desc := "(I)B" } : Jvm.MethodName) method_4_code (1 : Nat) (Option.some Jvm.ClassFile.FieldType.byte)).before args0 about1 = true := code_word (m := ⟨1, 3⟩) (meth := k1m3) (c := k1c3) (by decide +kernel) rfl rfl rfl (by decide +kernel)
set_option maxRecDepth 65536 in
theorem w_c3 : (Jvm.Cond.code ({ cls := "shelfmark/IriPattern", name := "percentEncoded", desc := "([B[Z)[B" } : Jvm.MethodName) prog_17_method_6_code (9 : Nat) (Option.some (Jvm.ClassFile.FieldType.array Jvm.ClassFile.FieldType.byte))).before args0 about1 = true := code_word (m := ⟨2, 0⟩) (meth := k2m0) (c := k2c0) (by decide +kernel) rfl rfl rfl (by decide +kernel)
set_option maxRecDepth 65536 in
theorem w_c4 : (Jvm.Cond.code ({ cls := "shelfmark/IriPatternPercentEncodedPinLaw", name := "same", desc := "([B[BII)Z" } : Jvm.MethodName) method_5_code (4 : Nat) (Option.some Jvm.ClassFile.FieldType.boolean)).before args0 about1 = true := code_word (m := ⟨1, 4⟩) (meth := k1m4) (c := k1c4) (by decide +kernel) rfl rfl rfl (by decide +kernel)
def codes1 : List Jvm.Cond := [Jvm.Cond.code x code maxLocals ret, Jvm.Cond.code ({ cls := "shelfmark/IriPatternPercentEncodedPinLaw", name := "put", desc := "([BIBZ)I" } : Jvm.MethodName) method_3_code (4 : Nat) (Option.some Jvm.ClassFile.FieldType.int), Jvm.Cond.code ({ cls := "shelfmark/IriPatternPercentEncodedPinLaw", name := "hex", desc := "(I)B" } : Jvm.MethodName) method_4_code (1 : Nat) (Option.some Jvm.ClassFile.FieldType.byte), Jvm.Cond.code ({ cls := "shelfmark/IriPattern", name := "percentEncoded", desc := "([B[Z)[B" } : Jvm.MethodName) prog_17_method_6_code (9 : Nat) (Option.some (Jvm.ClassFile.FieldType.array Jvm.ClassFile.FieldType.byte)), Jvm.Cond.code ({ cls := "shelfmark/IriPatternPercentEncodedPinLaw", name := "same", desc := "([B[BII)Z" } : Jvm.MethodName) method_5_code (4 : Nat) (Option.some Jvm.ClassFile.FieldType.boolean)]
set_option maxRecDepth 65536 in
theorem codes_eq : words1.filter isCode = codes1 := rfl
theorem w_codes : ∀ c ∈ words1.filter isCode, c.before args0 about1 = true := by
  rw [codes_eq]
  intro c hc
  simp only [codes1, List.mem_cons, List.not_mem_nil, or_false] at hc
  rcases hc with rfl | rfl | rfl | rfl | rfl
  · exact w_c0
  · exact w_c1
  · exact w_c2
  · exact w_c3
  · exact w_c4
set_option maxRecDepth 65536 in
theorem w_t1 : words1.all (fun c => isCode c || c.before args0 about1) = true := by decide +kernel
theorem w_tables : (allAtoms (Jvm.Cond.code x code maxLocals ret :: tables_1)).before args0 about1 = true := by
  rw [allAtoms_all]
  show words1.all (fun c => c.before args0 about1) = true
  refine all_split ?_ w_codes
  rw [w_t1]
set_option maxRecDepth 65536 in
theorem w_case : (Jvm.Cond.and given_1 narrow_1).before args0 about1 = true := by decide +kernel
theorem w_applies : (headSpec (Jvm.Cond.code x code maxLocals ret :: tables_1) room_1).applies x e0.platform about1 = true :=
  (Spec.applies_iff w_frames).mpr ⟨w_running, w_runnable, w_alone, w_named, w_hears, w_ripe, w_room, w_tables⟩
theorem atStart : AtStart classFile x code maxLocals ret World_1 tables_1 room_1 Calls_1 rest_1 Pre_1 launch0 p0 e0 about1 theMethod args0 below0 :=
  ⟨lists_1, trivial, launch0.admits_env _ _ _, launch0.least_env, fairChoices_fair.cas, fairChoices_fair.clock, w_frames, w_args, w_heap, w_applies, trivial, trivial, w_case⟩
end start1
theorem witness_1 : WitnessClaimed_1 := ⟨start1.p0, start1.e0, start1.about1, start1.theMethod, start1.args0, start1.below0, start1.atStart⟩
end Jvm.Pilot.@@N@@
