import JvmDerived
import JvmDerived.Pilot.@@N@@Statement
import JvmDerived.Pilot.@@N@@Code
set_option linter.unusedVariables false
set_option linter.unusedSimpArgs false
namespace Jvm.RoadKit
open Sem ClassFile Op Lib Jvm.Stand Jvm.Free Jvm.LawKit
section OwnGo
/-- from the state T with the frame g on top the run comes to a state of which K holds -/
def own_Go (tb : Tables) (e : Env) (below : List Frame) (K : State → Prop) (T : State) (g : JFrame) : Prop := ∃ t, Steps tb e below (T.setTop g) t ∧ K t
/-- the invocation has ended by a return, with what Q says of the value, the heap and the written places -/
def own_Fin (below : List Frame) (s : State) (Q : Option Value → Heap → List Loc → Prop) (k n : Nat) (t : State) : Prop := ∃ o, t.status = .running ∧ Ended t below o ∧ ∃ v L, o = .returned v ∧ Q v t.heap L ∧ FrameEnd s o t L k n
variable {p : Program} {l : Launch} {e : Env} {R : Room} {s : State} {m : MethodId} {args : Array Value} {below : List Frame} {meth : Method} {c : Code} {T : State} {locs : List Loc} {cells slots : Nat}
variable {K : State → Prop} {T' : State} {g g' : JFrame} {tb : Tables} {Q : Option Value → Heap → List Loc → Prop} {k n : Nat}
theorem own_st (h : ∀ t, Steps tb e below (T'.setTop g') t → Steps tb e below (T.setTop g) t) (q : own_Go tb e below K T' g') : own_Go tb e below K T g := by
  obtain ⟨t, h1, h2⟩ := q
  exact ⟨t, h _ h1, h2⟩
theorem own_tr (h : Steps tb e below (T.setTop g) (T'.setTop g')) (q : own_Go tb e below K T' g') : own_Go tb e below K T g := by
  obtain ⟨t, h1, h2⟩ := q
  exact ⟨t, h.trans h1, h2⟩
theorem own_in (h : g = g') (q : own_Go tb e below K T g') : own_Go tb e below K T g := h ▸ q
theorem own_out (q : own_Go tb e below (own_Fin below s Q k n) T g) : ∃ s₂ o, Steps tb e below (T.setTop g) s₂ ∧ s₂.status = .running ∧ Ended s₂ below o ∧ ∃ v L, o = .returned v ∧ Q v s₂.heap L ∧ FrameEnd s o s₂ L k n := by
  obtain ⟨t, h1, o, h2, h3, h4⟩ := q
  exact ⟨t, o, h1, h2, h3, h4⟩
theorem own_leave (X : Stand p l e R s m args below meth c T locs cells slots) (hlk : meth.locks = false) {v : Option Value} (hv : meth.sig.returnType = none → v = none) (hq : Q v T.heap locs) (hk : cells ≤ k) (hn : slots ≤ n)
    (st : ∀ fs, (∀ (f : JFrame) (acts : List Action), f.method = m → f.locked = none → f.entered = [] → (doReturn e (T.setTop f) acts v).1 = T.setFrames fs) → Steps p.tables e below (T.setTop g) (T.setFrames fs)) :
    own_Go p.tables e below (own_Fin below s Q k n) T g := by
  obtain ⟨fs, hr, hrun, hended, hW, hsame⟩ := X.leave (v := v) hv hlk
  exact ⟨_, st fs hr, _, hrun, hended, _, _, rfl, hq, ⟨_, rfl⟩, hW, hsame.mono hk hn⟩
variable {pc : Nat} {Ls : Array Slot} {rest : List Value}
theorem own_retV (X : Stand p l e R s m args below meth c T locs cells slots) (hx : p.tables.exec = Jvm.exec) (hlk : meth.locks = false) (hret : meth.sig.returnType = none) (hd : decode c.code pc = .ok (.return_, 1)) (hq : Q none T.heap locs) (hk : cells ≤ k) (hn : slots ≤ n) :
    own_Go p.tables e below (own_Fin below s Q k n) T (mkF m pc Ls []) :=
  own_leave X hlk (fun _ => rfl) hq hk hn fun _ hr => X.returnOut hx hret hd hr
theorem own_retW (X : Stand p l e R s m args below meth c T locs cells slots) (hx : p.tables.exec = Jvm.exec) (hlk : meth.locks = false) {w : Value} {t : FieldType} {i : Instr} (hret : meth.sig.returnType = some t) (hn' : narrow t w = w)
    (hi : (i = .ireturn ∧ (t = .int ∨ t = .boolean ∨ t = .byte ∨ t = .char ∨ t = .short) ∧ ∃ z, w = .int z) ∨ (i = .lreturn ∧ t = .long ∧ ∃ z, w = .long z) ∨ (i = .dreturn ∧ t = .double ∧ ∃ z, w = .double z) ∨ (i = .freturn ∧ t = .float ∧ ∃ z, w = .float z) ∨ (i = .areturn ∧ t.isReference = true ∧ w.isRef = true))
    (hd : decode c.code pc = .ok (i, 1)) (hq : Q (some w) T.heap locs) (hk : cells ≤ k) (hn : slots ≤ n) :
    own_Go p.tables e below (own_Fin below s Q k n) T (mkF m pc Ls (w :: rest)) :=
  own_leave X hlk (fun h => by rw [hret] at h; cases h) hq hk hn fun _ hr => retOut X hx hret hn' hi hd hr
theorem own_retI (X : Stand p l e R s m args below meth c T locs cells slots) (hx : p.tables.exec = Jvm.exec) (hlk : meth.locks = false) {z : Int32} (hret : meth.sig.returnType = some .int) (hd : decode c.code pc = .ok (.ireturn, 1)) (hq : Q (some (.int z)) T.heap locs) (hk : cells ≤ k) (hn : slots ≤ n) :
    own_Go p.tables e below (own_Fin below s Q k n) T (mkF m pc Ls (.int z :: rest)) :=
  own_retW X hx hlk hret rfl (Or.inl ⟨rfl, Or.inl rfl, _, rfl⟩) hd hq hk hn
theorem own_retJ (X : Stand p l e R s m args below meth c T locs cells slots) (hx : p.tables.exec = Jvm.exec) (hlk : meth.locks = false) {z : Int64} (hret : meth.sig.returnType = some .long) (hd : decode c.code pc = .ok (.lreturn, 1)) (hq : Q (some (.long z)) T.heap locs) (hk : cells ≤ k) (hn : slots ≤ n) :
    own_Go p.tables e below (own_Fin below s Q k n) T (mkF m pc Ls (.long z :: rest)) :=
  own_retW X hx hlk hret rfl (Or.inr (Or.inl ⟨rfl, rfl, _, rfl⟩)) hd hq hk hn
theorem own_retR (X : Stand p l e R s m args below meth c T locs cells slots) (hx : p.tables.exec = Jvm.exec) (hlk : meth.locks = false) {w : Value} {t : FieldType} (hret : meth.sig.returnType = some t) (ht : t.isReference = true) (hw : w.isRef = true) (hn' : narrow t w = w) (hd : decode c.code pc = .ok (.areturn, 1)) (hq : Q (some w) T.heap locs) (hk : cells ≤ k) (hn : slots ≤ n) :
    own_Go p.tables e below (own_Fin below s Q k n) T (mkF m pc Ls (w :: rest)) :=
  own_retW X hx hlk hret hn' (Or.inr (Or.inr (Or.inr (Or.inr ⟨rfl, ht, hw⟩)))) hd hq hk hn
theorem own_retN (X : Stand p l e R s m args below meth c T locs cells slots) (hx : p.tables.exec = Jvm.exec) (hlk : meth.locks = false) {z : Int32} {t : FieldType} (hret : meth.sig.returnType = some t) (ht : t = .boolean ∨ t = .byte ∨ t = .char ∨ t = .short) (hd : decode c.code pc = .ok (.ireturn, 1)) (hq : Q (some (.int (nar t z))) T.heap locs) (hk : cells ≤ k) (hn : slots ≤ n) :
    own_Go p.tables e below (own_Fin below s Q k n) T (mkF m pc Ls (.int z :: rest)) :=
  own_leave X hlk (fun h => by rw [hret] at h; cases h) hq hk hn fun _ hr => retN X hx hret ht hd hr
/-- the same, where String constants may have been resolved -/
def own_FinW (below : List Frame) (s : State) (Q : Option Value → Heap → List Loc → Prop) (k n : Nat) (t : State) : Prop := ∃ o, t.status = .running ∧ Ended t below o ∧ ∃ v L, o = .returned v ∧ Q v t.heap L ∧ ReturnedEndW s o t L k n
theorem own_outW (q : own_Go tb e below (own_FinW below s Q k n) T g) : ∃ s₂ o, Steps tb e below (T.setTop g) s₂ ∧ s₂.status = .running ∧ Ended s₂ below o ∧ ∃ v L, o = .returned v ∧ Q v s₂.heap L ∧ ReturnedEndW s o s₂ L k n := by
  obtain ⟨t, h1, o, h2, h3, h4⟩ := q
  exact ⟨t, o, h1, h2, h3, h4⟩
theorem own_leaveW {vm0 : Vm} {k0 : Nat} (X : Stand p l e R (s.setVm vm0) m args below meth c T locs cells slots) (hS : s.Since vm0 k0) (hk0 : k0 ≤ T.heap.size) (hlk : meth.locks = false) {v : Option Value} (hv : meth.sig.returnType = none → v = none) (hq : Q v T.heap locs) (hk : cells ≤ k) (hn : slots ≤ n)
    (st : ∀ fs, (∀ (f : JFrame) (acts : List Action), f.method = m → f.locked = none → f.entered = [] → (doReturn e (T.setTop f) acts v).1 = T.setFrames fs) → Steps p.tables e below (T.setTop g) (T.setFrames fs)) :
    own_Go p.tables e below (own_FinW below s Q k n) T g := by
  obtain ⟨fs, hr, hrun, hended, h1, h2, h3, h4⟩ := X.leaveW hS hk0 (v := v) hv hlk
  exact ⟨_, st fs hr, _, hrun, hended, _, _, rfl, hq, h1, h2, h3, h4.mono hk hn⟩
theorem own_retVW {vm0 : Vm} {k0 : Nat} (X : Stand p l e R (s.setVm vm0) m args below meth c T locs cells slots) (hS : s.Since vm0 k0) (hk0 : k0 ≤ T.heap.size) (hx : p.tables.exec = Jvm.exec) (hlk : meth.locks = false) (hret : meth.sig.returnType = none) (hd : decode c.code pc = .ok (.return_, 1)) (hq : Q none T.heap locs) (hk : cells ≤ k) (hn : slots ≤ n) :
    own_Go p.tables e below (own_FinW below s Q k n) T (mkF m pc Ls []) :=
  own_leaveW X hS hk0 hlk (fun _ => rfl) hq hk hn fun _ hr => X.returnOut hx hret hd hr
theorem own_retWW {vm0 : Vm} {k0 : Nat} (X : Stand p l e R (s.setVm vm0) m args below meth c T locs cells slots) (hS : s.Since vm0 k0) (hk0 : k0 ≤ T.heap.size) (hx : p.tables.exec = Jvm.exec) (hlk : meth.locks = false) {w : Value} {t : FieldType} {i : Instr} (hret : meth.sig.returnType = some t) (hn' : narrow t w = w)
    (hi : (i = .ireturn ∧ (t = .int ∨ t = .boolean ∨ t = .byte ∨ t = .char ∨ t = .short) ∧ ∃ z, w = .int z) ∨ (i = .lreturn ∧ t = .long ∧ ∃ z, w = .long z) ∨ (i = .dreturn ∧ t = .double ∧ ∃ z, w = .double z) ∨ (i = .freturn ∧ t = .float ∧ ∃ z, w = .float z) ∨ (i = .areturn ∧ t.isReference = true ∧ w.isRef = true))
    (hd : decode c.code pc = .ok (i, 1)) (hq : Q (some w) T.heap locs) (hk : cells ≤ k) (hn : slots ≤ n) :
    own_Go p.tables e below (own_FinW below s Q k n) T (mkF m pc Ls (w :: rest)) :=
  own_leaveW X hS hk0 hlk (fun h => by rw [hret] at h; cases h) hq hk hn fun _ hr => retOut X hx hret hn' hi hd hr
theorem own_retNW {vm0 : Vm} {k0 : Nat} (X : Stand p l e R (s.setVm vm0) m args below meth c T locs cells slots) (hS : s.Since vm0 k0) (hk0 : k0 ≤ T.heap.size) (hx : p.tables.exec = Jvm.exec) (hlk : meth.locks = false) {z : Int32} {t : FieldType} (hret : meth.sig.returnType = some t) (ht : t = .boolean ∨ t = .byte ∨ t = .char ∨ t = .short) (hd : decode c.code pc = .ok (.ireturn, 1)) (hq : Q (some (.int (nar t z))) T.heap locs) (hk : cells ≤ k) (hn : slots ≤ n) :
    own_Go p.tables e below (own_FinW below s Q k n) T (mkF m pc Ls (.int z :: rest)) :=
  own_leaveW X hS hk0 hlk (fun h => by rw [hret] at h; cases h) hq hk hn fun _ hr => retN X hx hret ht hd hr
theorem own_wz {Z : State} {vm0 vm1 : Vm} {k1 : Nat} (hZ : Z.Warmed39 vm0) (hs : (s.setVm vm0).Since vm1 k1) : Z.Warmed39 (s.setVm vm1).vm := State.Warmed39.trans (t := s.setVm vm0) hZ hs.1
theorem own_wo {vm0 vm1 : Vm} {k1 : Nat} {own : String} {q : ClassId} (h : (s.setVm vm0).vm.findClass own = some q) (hs : (s.setVm vm0).Since vm1 k1) : (s.setVm vm1).vm.findClass own = some q := by
  rw [show (s.setVm vm1).vm = vm1 from rfl, hs.1.alike.findClass]; exact h
theorem own_sta_keep {Z : State} {h h' : Heap} {C f d : String} {v : Value} {ws : List Addr} (F : Sta Z h C f d v) (K : Keep h h' ws) (hs : ∀ x ∈ ws, ∀ cl : Cell, h[x]? = some cl → cl.vm.isStatics = false) : Sta Z h' C f d v := by
  obtain ⟨cf, i, k, f', st, cell, h1, h2, h3, h4, h5, h6, h7⟩ := F
  refine ⟨cf, i, k, f', st, cell, h1, h2, h3, h4, K.2.1 _ _ h5 fun q => ?_, h6, h7⟩
  rw [hs st q cell h5] at h6
  cases h6
theorem own_getD_int (es : List Int32) (i : Nat) : (es.map Value.int).getD i (.int 0) = .int (es.getD i 0) := by
  induction es generalizing i with
  | nil => rfl
  | cons a t ih => cases i with
    | zero => rfl
    | succ j => simpa using ih j
theorem own_getD_long (es : List Int64) (i : Nat) : (es.map Value.long).getD i (.long 0) = .long (es.getD i 0) := by
  induction es generalizing i with
  | nil => rfl
  | cons a t ih => cases i with
    | zero => rfl
    | succ j => simpa using ih j
theorem own_eq_int {args : Array Value} {s : State} {t : Term} {k : Int32} (h : (Cond.eq t (.int k)).value args s none s [] = some true) : t.eval args s none [] s = some (.int k) := by
  obtain ⟨x, y, e1, e2, hk, hk'⟩ := cmp_v (Or.inl h)
  have e3 : y = .int k := by simpa [Term.eval] using e2.symm
  subst e3
  cases x with
  | int z => simp [Cond.value, e1, e2] at h; rw [e1, h]
  | _ => simp [Kin] at hk'
end OwnGo
end Jvm.RoadKit
namespace Jvm.Pilot.@@N@@
open Jvm Jvm.ClassFile Sem Op Lib Jvm.Free Jvm.Stand Jvm.LawKit Jvm.RoadKit Bundle Jvm.Pilot.@@N@@.Jvm.D
theorem own_pos (x : Int64) : ¬ ((x &&& (9223372036854775807 : Int64)) < (0 : Int64)) := by
  have h := c_maskL x (9223372036854775807 : Int64) 63 (by decide) (by decide)
  rw [Int64.lt_iff_toInt_lt, h]
  simp only [Int64.reduceToInt]
  omega
/-! body 1: Math.max -/
theorem d1_0 : decode jdk_29_method_66_code 0 = .ok (.lload_n 0, 1) := by decide +kernel
theorem d1_1 : decode jdk_29_method_66_code 1 = .ok (.lload_n 2, 1) := by decide +kernel
theorem d1_2 : decode jdk_29_method_66_code 2 = .ok (.lcmp, 1) := by decide +kernel
theorem d1_3 : decode jdk_29_method_66_code 3 = .ok (.ifCond .lt 7, 3) := by decide +kernel
theorem d1_6 : decode jdk_29_method_66_code 6 = .ok (.lload_n 0, 1) := by decide +kernel
theorem d1_7 : decode jdk_29_method_66_code 7 = .ok (.goto 4, 3) := by decide +kernel
theorem d1_10 : decode jdk_29_method_66_code 10 = .ok (.lload_n 2, 1) := by decide +kernel
theorem d1_11 : decode jdk_29_method_66_code 11 = .ok (.lreturn, 1) := by decide +kernel
theorem ef_1 (m : MethodId) (x0 : Int64) (x1 : Int64) : entryFrame m #[(.long x0), (.long x1)] 4 = mkF m 0 #[.val (.long x0), .second, .val (.long x1), .second] [] := by first | (simp [entryFrame, mkF, argsToLocals, Value.category]; done) | rfl
def own_max (q0 : Int64) (q2 : Int64) : Int64 := (if q0 < q2 then q2 else q0)
def Q1 (Z : State) (q0 : Int64) (q2 : Int64) (h0 : Heap) (n0 : Nat) (v : Option Value) (h : Heap) (L : List Loc) : Prop := v = some (.long (own_max q0 q2)) ∧ Fr n0 L ∧ h = h0
set_option maxRecDepth 65536 in
set_option maxHeartbeats 40000000 in
theorem rm1 (l : Launch) (Z : State) (a0 : Array Value) (hw : ∀ d ∈ tables_1, d.before a0 Z = true) (ws : List Jvm.Cond) (q0 : Int64) (q2 : Int64) (h0 : Heap) (n0 : Nat) (Z0 : n0 ≤ h0.size) :
    MetFree l (⟨"java/lang/Math", "max", "(JJ)J"⟩ : MethodName) (head1 (Jvm.Cond.code (⟨"java/lang/Math", "max", "(JJ)J"⟩ : MethodName) jdk_29_method_66_code 4 (some .long) :: ws) ({ frames := 0, cells := 0, slots := 0, locals := 0 } : Room)) (fun a U => a = #[(.long q0), (.long q2)] ∧ Z.Warmed39 U.vm ∧ U.heap = h0) (fun _ _ _ _ _ => True) (fun _ U o U' => ∃ v L, o = .returned v ∧ Q1 Z q0 q2 h0 n0 v U'.heap L ∧ FrameEnd U o U' L ({ frames := 0, cells := 0, slots := 0, locals := 0 } : Room).cells ({ frames := 0, cells := 0, slots := 0, locals := 0 } : Room).slots) := by
  refine MetFree.of_bodySF (Jvm.Free.JP.mathPlain rfl (by decide +kernel)) hisR ?_
  intro p e s m args below meth c s₁ Bd hml0 hP hK
  obtain ⟨rfl, hZ, hh⟩ := hP
  have hx := Bd.exec
  have hby := Bd.bytes
  have hlk := Bd.notSynchronized
  have hrt := Bd.returns
  have hml : c.maxLocals = 4 := hml0
  have hown : s.vm.findClass "java/lang/Math" = some m.cls := findClass_of_methodNamed Bd.named
  have hnm := (name_of_methodNamed Bd.named Bd.method).1
  have X0 : Stand p l e ({ frames := 0, cells := 0, slots := 0, locals := 0 } : Room) s m #[(.long q0), (.long q2)] below meth c s₁ [] 0 0 := Stand.of_body Bd
  have e0 : s₁.heap = h0 := by rw [← hh, Bd.state]; rfl
  have N0 := Fr.nil n0
  have K0 := Keep.refl h0 []
  refine own_out (Q := Q1 Z q0 q2 h0 n0) ?_
  refine own_in (ef_1 m q0 q2) ?_
  show own_Go _ _ _ _ s₁ (mkF m 0 #[.val (.long q0), .second, .val (.long q2), .second] [])
  refine own_st (fun t k => XS.lloadN X0.here hx rfl (hb hby d1_0) rfl k) ?_
  show own_Go _ _ _ _ s₁ (mkF m 1 #[.val (.long q0), .second, .val (.long q2), .second] [(.long q0)])
  refine own_st (fun t k => XS.lloadN X0.here hx rfl (hb hby d1_1) rfl k) ?_
  show own_Go _ _ _ _ s₁ (mkF m 2 #[.val (.long q0), .second, .val (.long q2), .second] [(.long q2), (.long q0)])
  refine own_st (fun t k => XS.lcmp X0.here hx rfl (hb hby d1_2) rfl k) ?_
  show own_Go _ _ _ _ s₁ (mkF m 3 #[.val (.long q0), .second, .val (.long q2), .second] [(.int (lcmpW q0 q2))])
  by_cases c3_1 : q0 < q2
  ·
    refine own_st (fun t k => XS.ifYes X0.here hx rfl (pc0 := 3) (pc' := 10) rfl (hb hby d1_3) rfl ((if0 _ _).trans (tlt ((lw_lt _ _).mpr c3_1)).1) (by decide) (by decide) k) ?_
    show own_Go _ _ _ _ s₁ (mkF m 10 #[.val (.long q0), .second, .val (.long q2), .second] [])
    refine own_st (fun t k => XS.lloadN X0.here hx rfl (hb hby d1_10) rfl k) ?_
    show own_Go _ _ _ _ s₁ (mkF m 11 #[.val (.long q0), .second, .val (.long q2), .second] [(.long q2)])
    exact own_retJ X0 hx hlk hrt (hb hby d1_11) ⟨(by simp only [own_max, if_pos c3_1]; first | rfl | done), N0, e0⟩ (by decide) (by decide)
  ·
    refine own_st (fun t k => XS.ifNo X0.here hx rfl (hb hby d1_3) rfl ((if0 _ _).trans (flt (fun q => c3_1 ((lw_lt _ _).mp q))).1) k) ?_
    show own_Go _ _ _ _ s₁ (mkF m 6 #[.val (.long q0), .second, .val (.long q2), .second] [])
    refine own_st (fun t k => XS.lloadN X0.here hx rfl (hb hby d1_6) rfl k) ?_
    show own_Go _ _ _ _ s₁ (mkF m 7 #[.val (.long q0), .second, .val (.long q2), .second] [(.long q0)])
    refine own_st (fun t k => XS.goto X0.here hx rfl (pc0 := 7) (pc' := 11) rfl (hb hby d1_7) (by decide) (by decide) k) ?_
    show own_Go _ _ _ _ s₁ (mkF m 11 #[.val (.long q0), .second, .val (.long q2), .second] [(.long q0)])
    exact own_retJ X0 hx hlk hrt (hb hby d1_11) ⟨(by simp only [own_max, if_neg c3_1]; first | rfl | done), N0, e0⟩ (by decide) (by decide)
/-! body 3: ConstantRule.<init> -/
theorem d3_0 : decode prog_3_method_1_code 0 = .ok (.aload_n 0, 1) := by decide +kernel
theorem d3_1 : decode prog_3_method_1_code 1 = .ok (.invokespecial 1, 3) := by decide +kernel
theorem d3_4 : decode prog_3_method_1_code 4 = .ok (.aload_n 0, 1) := by decide +kernel
theorem d3_5 : decode prog_3_method_1_code 5 = .ok (.lload_n 1, 1) := by decide +kernel
theorem d3_6 : decode prog_3_method_1_code 6 = .ok (.putfield 7, 3) := by decide +kernel
theorem d3_9 : decode prog_3_method_1_code 9 = .ok (.aload_n 0, 1) := by decide +kernel
theorem d3_10 : decode prog_3_method_1_code 10 = .ok (.aload_n 3, 1) := by decide +kernel
theorem d3_11 : decode prog_3_method_1_code 11 = .ok (.putfield 13, 3) := by decide +kernel
theorem d3_14 : decode prog_3_method_1_code 14 = .ok (.return_, 1) := by decide +kernel
theorem pn_com_example_libhorn_libhorn_bias_ConstantRule : plainName "com/example/libhorn/libhorn/bias/ConstantRule" = true := by first | (simp [plainName, overriddenIn]; done) | decide +kernel
theorem ef_3 (m : MethodId) (x0 : Addr) (x1 : Int64) : entryFrame m #[(.ref x0), (.long x1), .null] 4 = mkF m 0 #[.val (.ref x0), .val (.long x1), .second, .val .null] [] := by first | (simp [entryFrame, mkF, argsToLocals, Value.category]; done) | rfl
def Q3 (Z : State) (r0 : Addr) (q1 : Int64) (h0 : Heap) (n0 : Nat) (v : Option Value) (h : Heap) (L : List Loc) : Prop := v = none ∧ Fr n0 L ∧ Keep h0 h [r0] ∧ Fld Z h r0 "com/example/libhorn/libhorn/bias/ConstantRule" "threshold" "J" (.long q1) ∧ Fld Z h r0 "com/example/libhorn/libhorn/bias/ConstantRule" "ratio" "Ljava/math/BigDecimal;" .null
set_option maxRecDepth 65536 in
set_option maxHeartbeats 40000000 in
theorem rm3 (l : Launch) (Z : State) (a0 : Array Value) (hw : ∀ d ∈ tables_1, d.before a0 Z = true) (ws : List Jvm.Cond) (r0 : Addr) (q1 : Int64) (h0 : Heap) (n0 : Nat) (Z0 : n0 ≤ h0.size) (E_r0 : Exa Z h0 r0 "com/example/libhorn/libhorn/bias/ConstantRule") (F_threshold_r0 : Fld Z h0 r0 "com/example/libhorn/libhorn/bias/ConstantRule" "threshold" "J" (.long (0 : Int64))) (F_ratio_r0 : Fld Z h0 r0 "com/example/libhorn/libhorn/bias/ConstantRule" "ratio" "Ljava/math/BigDecimal;" .null) (g_r0 : n0 ≤ r0) :
    MetFree l (⟨"com/example/libhorn/libhorn/bias/ConstantRule", "<init>", "(JLjava/math/BigDecimal;)V"⟩ : MethodName) (head1 (Jvm.Cond.code (⟨"com/example/libhorn/libhorn/bias/ConstantRule", "<init>", "(JLjava/math/BigDecimal;)V"⟩ : MethodName) prog_3_method_1_code 4 none :: ws) ({ frames := 1, cells := 0, slots := 0, locals := 12 } : Room)) (fun a U => a = #[(.ref r0), (.long q1), .null] ∧ Z.Warmed39 U.vm ∧ U.heap = h0) (fun _ _ _ _ _ => True) (fun _ U o U' => ∃ v L, o = .returned v ∧ Q3 Z r0 q1 h0 n0 v U'.heap L ∧ FrameEnd U o U' L ({ frames := 1, cells := 0, slots := 0, locals := 12 } : Room).cells ({ frames := 1, cells := 0, slots := 0, locals := 12 } : Room).slots) := by
  refine MetFree.of_bodySF (plainFor_of_name pn_com_example_libhorn_libhorn_bias_ConstantRule) hisR ?_
  intro p e s m args below meth c s₁ Bd hml0 hP hK
  obtain ⟨rfl, hZ, hh⟩ := hP
  have hx := Bd.exec
  have hby := Bd.bytes
  have hlk := Bd.notSynchronized
  have hrt := Bd.returns
  have hml : c.maxLocals = 4 := hml0
  have hown : s.vm.findClass "com/example/libhorn/libhorn/bias/ConstantRule" = some m.cls := findClass_of_methodNamed Bd.named
  have hnm := (name_of_methodNamed Bd.named Bd.method).1
  have X0 : Stand p l e ({ frames := 1, cells := 0, slots := 0, locals := 12 } : Room) s m #[(.ref r0), (.long q1), .null] below meth c s₁ [] 0 0 := Stand.of_body Bd
  have e0 : s₁.heap = h0 := by rw [← hh, Bd.state]; rfl
  have N0 := Fr.nil n0
  have K0 := Keep.refl h0 [r0]
  refine own_out (Q := Q3 Z r0 q1 h0 n0) ?_
  refine own_in (ef_3 m r0 q1) ?_
  show own_Go _ _ _ _ s₁ (mkF m 0 #[.val (.ref r0), .val (.long q1), .second, .val .null] [])
  refine own_st (fun t k => XS.aloadN X0.here hx rfl (hb hby d3_0) rfl rfl k) ?_
  show own_Go _ _ _ _ s₁ (mkF m 1 #[.val (.ref r0), .val (.long q1), .second, .val .null] [(.ref r0)])
  obtain ⟨T1, X1, e1, st1⟩ := initO X0 hx hZ hown (hw _ (List.mem_of_getElem? (i := 13) rfl)) (hw _ (List.mem_of_getElem? (i := 14) rfl)) (hw _ (List.mem_of_getElem? (i := 15) rfl)) e0 (g := (mkF m 1 #[.val (.ref r0), .val (.long q1), .second, .val .null] [(.ref r0)])) rfl (by rw [hml]; rfl) rfl (hb hby d3_1) (by decide) (W := 0) (by show 2 * 0 + _ ≤ _; exact Nat.le_of_eq rfl) (by decide)
  refine own_st st1 ?_
  show own_Go _ _ _ _ T1 (mkF m 4 #[.val (.ref r0), .val (.long q1), .second, .val .null] [])
  refine own_st (fun t k => XS.aloadN X1.here hx rfl (hb hby d3_4) rfl rfl k) ?_
  show own_Go _ _ _ _ T1 (mkF m 5 #[.val (.ref r0), .val (.long q1), .second, .val .null] [(.ref r0)])
  refine own_st (fun t k => XS.lloadN X1.here hx rfl (hb hby d3_5) rfl k) ?_
  show own_Go _ _ _ _ T1 (mkF m 6 #[.val (.ref r0), .val (.long q1), .second, .val .null] [(.long q1), (.ref r0)])
  obtain ⟨T2, h2, X2, e2, W2, st2⟩ := putF X1 hx hZ hown (host := "") (Or.inl (hw _ (List.mem_of_getElem? (i := 16) rfl))) Via.refl e1 F_threshold_r0 E_r0 (Or.inr ⟨(hw _ (List.mem_of_getElem? (i := 17) rfl)), rfl, hnm⟩) (hw _ (List.mem_of_getElem? (i := 9) rfl)) (ty := .long) (by decide) rfl rfl (g := (mkF m 6 #[.val (.ref r0), .val (.long q1), .second, .val .null] [(.long q1), (.ref r0)])) rfl rfl (hb hby d3_6)
  have F2 := F_threshold_r0.same W2
  have N2 := Fr.snoc X2 N0 g_r0
  refine own_st st2 ?_
  show own_Go _ _ _ _ T2 (mkF m 9 #[.val (.ref r0), .val (.long q1), .second, .val .null] [])
  refine own_st (fun t k => XS.aloadN X2.here hx rfl (hb hby d3_9) rfl rfl k) ?_
  show own_Go _ _ _ _ T2 (mkF m 10 #[.val (.ref r0), .val (.long q1), .second, .val .null] [(.ref r0)])
  refine own_st (fun t k => XS.aloadN X2.here hx rfl (hb hby d3_10) rfl rfl k) ?_
  show own_Go _ _ _ _ T2 (mkF m 11 #[.val (.ref r0), .val (.long q1), .second, .val .null] [.null, (.ref r0)])
  have F_ratio_r0_3 := (F_ratio_r0.other W2 (Or.inr (slot_ne (Or.inr (hw _ (List.mem_of_getElem? (i := 19) rfl))) (Or.inr (hw _ (List.mem_of_getElem? (i := 17) rfl))) (by decide) (t := (.object "java/math/BigDecimal")) (t' := .long) (by decide) (by decide))))
  have E_r0_4 := (E_r0.wr W2)
  have K0_5 := (K0.wr W2 (Or.inl (List.mem_of_getElem? (i := 0) rfl)))
  obtain ⟨T6, h6, X6, e6, W6, st6⟩ := putF X2 hx hZ hown (host := "") (Or.inl (hw _ (List.mem_of_getElem? (i := 18) rfl))) Via.refl e2 F_ratio_r0_3 E_r0_4 (Or.inr ⟨(hw _ (List.mem_of_getElem? (i := 19) rfl)), rfl, hnm⟩) (hw _ (List.mem_of_getElem? (i := 9) rfl)) (ty := (.object "java/math/BigDecimal")) (by decide) rfl rfl (g := (mkF m 11 #[.val (.ref r0), .val (.long q1), .second, .val .null] [.null, (.ref r0)])) rfl rfl (hb hby d3_11)
  have F6 := F_ratio_r0_3.same W6
  have N6 := Fr.snoc X6 N2 g_r0
  refine own_st st6 ?_
  show own_Go _ _ _ _ T6 (mkF m 14 #[.val (.ref r0), .val (.long q1), .second, .val .null] [])
  have K0_7 := (K0_5.wr W6 (Or.inl (List.mem_of_getElem? (i := 0) rfl)))
  have F2_threshold_8 := (F2.other W6 (Or.inr (slot_ne (Or.inr (hw _ (List.mem_of_getElem? (i := 17) rfl))) (Or.inr (hw _ (List.mem_of_getElem? (i := 19) rfl))) (by decide) (t := .long) (t' := (.object "java/math/BigDecimal")) (by decide) (by decide))))
  exact own_retV X6 hx hlk hrt (hb hby d3_14) (by rw [e6]; exact ⟨rfl, N6, K0_7, F2_threshold_8, F6⟩) (by decide) (by decide)
theorem pd__28JLjava_2fmath_2fBigDecimal_3b_29V : parseMethodDescriptor "(JLjava/math/BigDecimal;)V" = some ⟨[.long, (.object "java/math/BigDecimal")], none⟩ := by decide +kernel
/-! body 2: ConstantRule.fewerThan -/
theorem d2_0 : decode prog_3_method_2_code 0 = .ok (.lload_n 0, 1) := by decide +kernel
theorem d2_1 : decode prog_3_method_2_code 1 = .ok (.lconst 0, 1) := by decide +kernel
theorem d2_2 : decode prog_3_method_2_code 2 = .ok (.lcmp, 1) := by decide +kernel
theorem d2_3 : decode prog_3_method_2_code 3 = .ok (.ifCond .ge 17, 3) := by decide +kernel
theorem d2_20 : decode prog_3_method_2_code 20 = .ok (.new 8, 3) := by decide +kernel
theorem d2_23 : decode prog_3_method_2_code 23 = .ok (.dup, 1) := by decide +kernel
theorem d2_24 : decode prog_3_method_2_code 24 = .ok (.lload_n 0, 1) := by decide +kernel
theorem d2_25 : decode prog_3_method_2_code 25 = .ok (.aconst_null, 1) := by decide +kernel
theorem d2_26 : decode prog_3_method_2_code 26 = .ok (.invokespecial 26, 3) := by decide +kernel
theorem d2_29 : decode prog_3_method_2_code 29 = .ok (.areturn, 1) := by decide +kernel
theorem ef_2 (m : MethodId) (x0 : Int64) : entryFrame m #[(.long x0)] 2 = mkF m 0 #[.val (.long x0), .second] [] := by first | (simp [entryFrame, mkF, argsToLocals, Value.category]; done) | rfl
def Q2 (Z : State) (q0 : Int64) (h0 : Heap) (n0 : Nat) (v : Option Value) (h : Heap) (L : List Loc) : Prop := ∃ b : Addr, v = some (.ref b) ∧ Fr n0 L ∧ Keep h0 h [] ∧ h0.size ≤ b ∧ Exa Z h b "com/example/libhorn/libhorn/bias/ConstantRule" ∧ Fld Z h b "com/example/libhorn/libhorn/bias/ConstantRule" "threshold" "J" (.long q0) ∧ Fld Z h b "com/example/libhorn/libhorn/bias/ConstantRule" "ratio" "Ljava/math/BigDecimal;" .null
set_option maxRecDepth 65536 in
set_option maxHeartbeats 40000000 in
theorem rm2 (l : Launch) (Z : State) (a0 : Array Value) (hw : ∀ d ∈ tables_1, d.before a0 Z = true) (ws : List Jvm.Cond) (q0 : Int64) (h0 : Heap) (n0 : Nat) (Z0 : n0 ≤ h0.size) (hpos : ¬ (q0 < (0 : Int64))) :
    MetFree l (⟨"com/example/libhorn/libhorn/bias/ConstantRule", "fewerThan", "(J)Lcom/example/libhorn/libhorn/bias/ConstantRule;"⟩ : MethodName) (head1 (Jvm.Cond.code (⟨"com/example/libhorn/libhorn/bias/ConstantRule", "fewerThan", "(J)Lcom/example/libhorn/libhorn/bias/ConstantRule;"⟩ : MethodName) prog_3_method_2_code 2 (some (.object "com/example/libhorn/libhorn/bias/ConstantRule")) :: ws) ({ frames := 2, cells := 1, slots := 2, locals := 28 } : Room)) (fun a U => a = #[(.long q0)] ∧ Z.Warmed39 U.vm ∧ U.heap = h0) (fun _ _ _ _ _ => True) (fun _ U o U' => ∃ v L, o = .returned v ∧ Q2 Z q0 h0 n0 v U'.heap L ∧ FrameEnd U o U' L ({ frames := 2, cells := 1, slots := 2, locals := 28 } : Room).cells ({ frames := 2, cells := 1, slots := 2, locals := 28 } : Room).slots) := by
  refine MetFree.of_bodySF (plainFor_of_name pn_com_example_libhorn_libhorn_bias_ConstantRule) hisR ?_
  intro p e s m args below meth c s₁ Bd hml0 hP hK
  obtain ⟨rfl, hZ, hh⟩ := hP
  have hx := Bd.exec
  have hby := Bd.bytes
  have hlk := Bd.notSynchronized
  have hrt := Bd.returns
  have hml : c.maxLocals = 2 := hml0
  have hown : s.vm.findClass "com/example/libhorn/libhorn/bias/ConstantRule" = some m.cls := findClass_of_methodNamed Bd.named
  have hnm := (name_of_methodNamed Bd.named Bd.method).1
  have X0 : Stand p l e ({ frames := 2, cells := 1, slots := 2, locals := 28 } : Room) s m #[(.long q0)] below meth c s₁ [] 0 0 := Stand.of_body Bd
  have e0 : s₁.heap = h0 := by rw [← hh, Bd.state]; rfl
  have N0 := Fr.nil n0
  have K0 := Keep.refl h0 []
  refine own_out (Q := Q2 Z q0 h0 n0) ?_
  refine own_in (ef_2 m q0) ?_
  show own_Go _ _ _ _ s₁ (mkF m 0 #[.val (.long q0), .second] [])
  refine own_st (fun t k => XS.lloadN X0.here hx rfl (hb hby d2_0) rfl k) ?_
  show own_Go _ _ _ _ s₁ (mkF m 1 #[.val (.long q0), .second] [(.long q0)])
  refine own_st (fun t k => XS.lconst X0.here hx rfl (hb hby d2_1) k) ?_
  show own_Go _ _ _ _ s₁ (mkF m 2 #[.val (.long q0), .second] [(.long (0 : Int64)), (.long q0)])
  refine own_st (fun t k => XS.lcmp X0.here hx rfl (hb hby d2_2) rfl k) ?_
  show own_Go _ _ _ _ s₁ (mkF m 3 #[.val (.long q0), .second] [(.int (lcmpW q0 (0 : Int64)))])
  refine own_st (fun t k => XS.ifYes X0.here hx rfl (pc0 := 3) (pc' := 20) rfl (hb hby d2_3) rfl ((if0 _ _).trans (flt (fun q => hpos ((lw_lt _ _).mp q))).2.1) (by decide) (by decide) k) ?_
  show own_Go _ _ _ _ s₁ (mkF m 20 #[.val (.long q0), .second] [])
  obtain ⟨T1, h1, X1, e1, E1, A1, D1, -, st1⟩ := newO X0 hx hZ hown (hw _ (List.mem_of_getElem? (i := 8) rfl)) (hw _ (List.mem_of_getElem? (i := 9) rfl)) (hw _ (List.mem_of_getElem? (i := 6) rfl)) e0 (g := (mkF m 20 #[.val (.long q0), .second] [])) rfl (hb hby d2_20) (by decide) (by decide)
  obtain ⟨b1, g1⟩ : ∃ z, z = h0.size := ⟨_, rfl⟩
  rw [← g1] at A1 D1 st1
  have sz_b1 : h0.size ≤ b1 := Nat.le_trans K0.1 (Nat.le_of_eq g1.symm)
  have g_b1 : n0 ≤ b1 := Nat.le_trans Z0 sz_b1
  have F1_threshold : Fld Z h1 b1 "com/example/libhorn/libhorn/bias/ConstantRule" "threshold" "J" (.long (0 : Int64)) := D1 (Or.inr (hw _ (List.mem_of_getElem? (i := 17) rfl))) (ty := .long) (by decide)
  have F1_ratio : Fld Z h1 b1 "com/example/libhorn/libhorn/bias/ConstantRule" "ratio" "Ljava/math/BigDecimal;" .null := D1 (Or.inr (hw _ (List.mem_of_getElem? (i := 19) rfl))) (ty := (.object "java/math/BigDecimal")) (by decide)
  refine own_st st1 ?_
  show own_Go _ _ _ _ T1 (mkF m 23 #[.val (.long q0), .second] [(.ref b1)])
  refine own_st (fun t k => XS.dup X1.here hx rfl (hb hby d2_23) rfl rfl k) ?_
  show own_Go _ _ _ _ T1 (mkF m 24 #[.val (.long q0), .second] [(.ref b1), (.ref b1)])
  refine own_st (fun t k => XS.lloadN X1.here hx rfl (hb hby d2_24) rfl k) ?_
  show own_Go _ _ _ _ T1 (mkF m 25 #[.val (.long q0), .second] [(.long q0), (.ref b1), (.ref b1)])
  refine own_st (fun t k => XS.aconstNull X1.here hx rfl (hb hby d2_25) k) ?_
  show own_Go _ _ _ _ T1 (mkF m 26 #[.val (.long q0), .second] [.null, (.long q0), (.ref b1), (.ref b1)])
  have K0_3 := (K0.ext E1)
  obtain ⟨_, _, ⟨T2, L2, k2, n2⟩, -, X2, ⟨Lc2, hQ2, l2, y2, z2⟩, st2⟩ := X1.specialBack hx (y := (⟨"com/example/libhorn/libhorn/bias/ConstantRule", "<init>", "(JLjava/math/BigDecimal;)V"⟩ : MethodName)) rfl hown (mvT hZ (hw _ (List.mem_of_getElem? (i := 10) rfl))) (mvT hZ (hw _ (List.mem_of_getElem? (i := 11) rfl))) (mvT hZ (hw _ (List.mem_of_getElem? (i := 12) rfl))) (by decide) (backOf (W := 1) (rm3 l Z a0 hw [] b1 q0  h1 n0 (Nat.le_trans Z0 K0_3.1) A1 F1_threshold F1_ratio g_b1) hZ (hw _ (List.mem_of_getElem? (i := 12) rfl)) (hw _ (List.mem_of_getElem? (i := 6) rfl)) (by decide) (by decide)) (g := (mkF m 26 #[.val (.long q0), .second] [.null, (.long q0), (.ref b1), (.ref b1)])) rfl (by rw [hml]; rfl) (Steps.refl _) (a := b1) (argsL := [(.long q0), .null]) (rest := [(.ref b1)]) (lenOf pd__28JLjava_2fmath_2fBigDecimal_3b_29V rfl) rfl (by show 2 * 0 + _ ≤ _; exact Nat.le_of_eq rfl) (hb hby d2_26) (fun _ _ => ⟨rfl, e1, (by decide : 1 + 0 ≤ _), (by decide : 2 + 0 ≤ _)⟩)
  dsimp only [Pt.U, Pt.locs, Pt.cells, Pt.slots] at X2 l2 y2 z2 st2 hQ2
  subst l2 y2 z2
  obtain ⟨rfl, N2q, K2, G2_0, G2_1⟩ := hQ2
  have N2 := Fr.app N0 N2q
  refine own_tr st2 ?_
  show own_Go _ _ _ _ T2 (mkF m 29 #[.val (.long q0), .second] [(.ref b1)])
  have K0_4 := (K0_3.trans K2 (allS ((Or.inr sz_b1)) all0))
  have A1_5 := (A1.keep K2)
  exact own_retR X2 hx hlk hrt rfl rfl rfl (hb hby d2_29) ⟨b1, rfl, N2, K0_4, sz_b1, A1_5, G2_0, G2_1⟩ (by decide) (by decide)
/-! body 5: ConstantRule.allows -/
theorem d5_0 : decode prog_3_method_4_code 0 = .ok (.aload_n 0, 1) := by decide +kernel
theorem d5_1 : decode prog_3_method_4_code 1 = .ok (.getfield 13, 3) := by decide +kernel
theorem d5_4 : decode prog_3_method_4_code 4 = .ok (.ifnonnull 22, 3) := by decide +kernel
theorem d5_7 : decode prog_3_method_4_code 7 = .ok (.iload_n 1, 1) := by decide +kernel
theorem d5_8 : decode prog_3_method_4_code 8 = .ok (.i2l, 1) := by decide +kernel
theorem d5_9 : decode prog_3_method_4_code 9 = .ok (.aload_n 0, 1) := by decide +kernel
theorem d5_10 : decode prog_3_method_4_code 10 = .ok (.getfield 7, 3) := by decide +kernel
theorem d5_13 : decode prog_3_method_4_code 13 = .ok (.lcmp, 1) := by decide +kernel
theorem d5_14 : decode prog_3_method_4_code 14 = .ok (.ifCond .ge 7, 3) := by decide +kernel
theorem d5_17 : decode prog_3_method_4_code 17 = .ok (.iconst 1, 1) := by decide +kernel
theorem d5_18 : decode prog_3_method_4_code 18 = .ok (.goto 4, 3) := by decide +kernel
theorem d5_21 : decode prog_3_method_4_code 21 = .ok (.iconst 0, 1) := by decide +kernel
theorem d5_22 : decode prog_3_method_4_code 22 = .ok (.istore_n 3, 1) := by decide +kernel
theorem d5_23 : decode prog_3_method_4_code 23 = .ok (.goto 32, 3) := by decide +kernel
theorem d5_55 : decode prog_3_method_4_code 55 = .ok (.iload_n 3, 1) := by decide +kernel
theorem d5_56 : decode prog_3_method_4_code 56 = .ok (.ireturn, 1) := by decide +kernel
theorem ef_5 (m : MethodId) (x0 : Addr) (x1 : Int32) (x2 : Int32) : entryFrame m #[(.ref x0), (.int x1), (.int x2)] 4 = mkF m 0 #[.val (.ref x0), .val (.int x1), .val (.int x2), .unset] [] := by first | (simp [entryFrame, mkF, argsToLocals, Value.category]; done) | rfl
def own_a (p1 : Int32) (th : Int64) : Int32 := (if (p1.toInt64) < th then (1 : Int32) else (0 : Int32))
def Q5 (Z : State) (r0 : Addr) (p1 : Int32) (p2 : Int32) (th : Int64) (h0 : Heap) (n0 : Nat) (v : Option Value) (h : Heap) (L : List Loc) : Prop := v = some (.int (own_a p1 th)) ∧ Fr n0 L ∧ h = h0
set_option maxRecDepth 65536 in
set_option maxHeartbeats 40000000 in
theorem rm5 (l : Launch) (Z : State) (a0 : Array Value) (hw : ∀ d ∈ tables_1, d.before a0 Z = true) (ws : List Jvm.Cond) (r0 : Addr) (p1 : Int32) (p2 : Int32) (th : Int64) (h0 : Heap) (n0 : Nat) (Z0 : n0 ≤ h0.size) (F_threshold_r0 : Fld Z h0 r0 "com/example/libhorn/libhorn/bias/ConstantRule" "threshold" "J" (.long th)) (F_ratio_r0 : Fld Z h0 r0 "com/example/libhorn/libhorn/bias/ConstantRule" "ratio" "Ljava/math/BigDecimal;" .null) :
    MetFree l (⟨"com/example/libhorn/libhorn/bias/ConstantRule", "allows", "(II)Z"⟩ : MethodName) (head1 (Jvm.Cond.code (⟨"com/example/libhorn/libhorn/bias/ConstantRule", "allows", "(II)Z"⟩ : MethodName) prog_3_method_4_code 4 (some .boolean) :: ws) ({ frames := 0, cells := 0, slots := 0, locals := 0 } : Room)) (fun a U => a = #[(.ref r0), (.int p1), (.int p2)] ∧ Z.Warmed39 U.vm ∧ U.heap = h0) (fun _ _ _ _ _ => True) (fun _ U o U' => ∃ v L, o = .returned v ∧ Q5 Z r0 p1 p2 th h0 n0 v U'.heap L ∧ FrameEnd U o U' L ({ frames := 0, cells := 0, slots := 0, locals := 0 } : Room).cells ({ frames := 0, cells := 0, slots := 0, locals := 0 } : Room).slots) := by
  refine MetFree.of_bodySF (plainFor_of_name pn_com_example_libhorn_libhorn_bias_ConstantRule) hisR ?_
  intro p e s m args below meth c s₁ Bd hml0 hP hK
  obtain ⟨rfl, hZ, hh⟩ := hP
  have hx := Bd.exec
  have hby := Bd.bytes
  have hlk := Bd.notSynchronized
  have hrt := Bd.returns
  have hml : c.maxLocals = 4 := hml0
  have hown : s.vm.findClass "com/example/libhorn/libhorn/bias/ConstantRule" = some m.cls := findClass_of_methodNamed Bd.named
  have hnm := (name_of_methodNamed Bd.named Bd.method).1
  have X0 : Stand p l e ({ frames := 0, cells := 0, slots := 0, locals := 0 } : Room) s m #[(.ref r0), (.int p1), (.int p2)] below meth c s₁ [] 0 0 := Stand.of_body Bd
  have e0 : s₁.heap = h0 := by rw [← hh, Bd.state]; rfl
  have N0 := Fr.nil n0
  have K0 := Keep.refl h0 []
  refine own_out (Q := Q5 Z r0 p1 p2 th h0 n0) ?_
  refine own_in (ef_5 m r0 p1 p2) ?_
  show own_Go _ _ _ _ s₁ (mkF m 0 #[.val (.ref r0), .val (.int p1), .val (.int p2), .unset] [])
  refine own_st (fun t k => XS.aloadN X0.here hx rfl (hb hby d5_0) rfl rfl k) ?_
  show own_Go _ _ _ _ s₁ (mkF m 1 #[.val (.ref r0), .val (.int p1), .val (.int p2), .unset] [(.ref r0)])
  obtain ⟨T1, X1, e1, st1⟩ := getF X0 hx hZ hown (host := "") (Or.inl (hw _ (List.mem_of_getElem? (i := 18) rfl))) Via.refl e0 F_ratio_r0 (g := (mkF m 1 #[.val (.ref r0), .val (.int p1), .val (.int p2), .unset] [(.ref r0)])) rfl rfl (hb hby d5_1)
  refine own_st st1 ?_
  show own_Go _ _ _ _ T1 (mkF m 4 #[.val (.ref r0), .val (.int p1), .val (.int p2), .unset] [.null])
  refine own_st (fun t k => XS.ifnonnullNo X1.here hx rfl (hb hby d5_4) rfl k) ?_
  show own_Go _ _ _ _ T1 (mkF m 7 #[.val (.ref r0), .val (.int p1), .val (.int p2), .unset] [])
  refine own_st (fun t k => XS.iloadN X1.here hx rfl (hb hby d5_7) rfl k) ?_
  show own_Go _ _ _ _ T1 (mkF m 8 #[.val (.ref r0), .val (.int p1), .val (.int p2), .unset] [(.int p1)])
  refine own_st (fun t k => XS.i2l X1.here hx rfl (hb hby d5_8) rfl k) ?_
  show own_Go _ _ _ _ T1 (mkF m 9 #[.val (.ref r0), .val (.int p1), .val (.int p2), .unset] [(.long (p1.toInt64))])
  refine own_st (fun t k => XS.aloadN X1.here hx rfl (hb hby d5_9) rfl rfl k) ?_
  show own_Go _ _ _ _ T1 (mkF m 10 #[.val (.ref r0), .val (.int p1), .val (.int p2), .unset] [(.ref r0), (.long (p1.toInt64))])
  obtain ⟨T2, X2, e2, st2⟩ := getF X1 hx hZ hown (host := "") (Or.inl (hw _ (List.mem_of_getElem? (i := 16) rfl))) Via.refl e1 F_threshold_r0 (g := (mkF m 10 #[.val (.ref r0), .val (.int p1), .val (.int p2), .unset] [(.ref r0), (.long (p1.toInt64))])) rfl rfl (hb hby d5_10)
  refine own_st st2 ?_
  show own_Go _ _ _ _ T2 (mkF m 13 #[.val (.ref r0), .val (.int p1), .val (.int p2), .unset] [(.long th), (.long (p1.toInt64))])
  refine own_st (fun t k => XS.lcmp X2.here hx rfl (hb hby d5_13) rfl k) ?_
  show own_Go _ _ _ _ T2 (mkF m 14 #[.val (.ref r0), .val (.int p1), .val (.int p2), .unset] [(.int (lcmpW (p1.toInt64) th))])
  by_cases c14_3 : (p1.toInt64) < th
  ·
    refine own_st (fun t k => XS.ifNo X2.here hx rfl (hb hby d5_14) rfl ((if0 _ _).trans (tlt ((lw_lt _ _).mpr c14_3)).2.1) k) ?_
    show own_Go _ _ _ _ T2 (mkF m 17 #[.val (.ref r0), .val (.int p1), .val (.int p2), .unset] [])
    refine own_st (fun t k => XS.iconst X2.here hx rfl (hb hby d5_17) k) ?_
    show own_Go _ _ _ _ T2 (mkF m 18 #[.val (.ref r0), .val (.int p1), .val (.int p2), .unset] [(.int (1 : Int32))])
    refine own_st (fun t k => XS.goto X2.here hx rfl (pc0 := 18) (pc' := 22) rfl (hb hby d5_18) (by decide) (by decide) k) ?_
    show own_Go _ _ _ _ T2 (mkF m 22 #[.val (.ref r0), .val (.int p1), .val (.int p2), .unset] [(.int (1 : Int32))])
    refine own_st (fun t k => XS.istoreN X2.here hx rfl (hb hby d5_22) rfl (l' := #[.val (.ref r0), .val (.int p1), .val (.int p2), .val (.int (1 : Int32))]) rfl k) ?_
    show own_Go _ _ _ _ T2 (mkF m 23 #[.val (.ref r0), .val (.int p1), .val (.int p2), .val (.int (1 : Int32))] [])
    refine own_st (fun t k => XS.goto X2.here hx rfl (pc0 := 23) (pc' := 55) rfl (hb hby d5_23) (by decide) (by decide) k) ?_
    show own_Go _ _ _ _ T2 (mkF m 55 #[.val (.ref r0), .val (.int p1), .val (.int p2), .val (.int (1 : Int32))] [])
    refine own_st (fun t k => XS.iloadN X2.here hx rfl (hb hby d5_55) rfl k) ?_
    show own_Go _ _ _ _ T2 (mkF m 56 #[.val (.ref r0), .val (.int p1), .val (.int p2), .val (.int (1 : Int32))] [(.int (1 : Int32))])
    exact own_retN X2 hx hlk (t := .boolean) hrt (by simp) (hb hby d5_56) ⟨(by simp only [own_a, if_pos c14_3]; first | rfl | done), N0, e2⟩ (by decide) (by decide)
  ·
    refine own_st (fun t k => XS.ifYes X2.here hx rfl (pc0 := 14) (pc' := 21) rfl (hb hby d5_14) rfl ((if0 _ _).trans (flt (fun q => c14_3 ((lw_lt _ _).mp q))).2.1) (by decide) (by decide) k) ?_
    show own_Go _ _ _ _ T2 (mkF m 21 #[.val (.ref r0), .val (.int p1), .val (.int p2), .unset] [])
    refine own_st (fun t k => XS.iconst X2.here hx rfl (hb hby d5_21) k) ?_
    show own_Go _ _ _ _ T2 (mkF m 22 #[.val (.ref r0), .val (.int p1), .val (.int p2), .unset] [(.int (0 : Int32))])
    refine own_st (fun t k => XS.istoreN X2.here hx rfl (hb hby d5_22) rfl (l' := #[.val (.ref r0), .val (.int p1), .val (.int p2), .val (.int (0 : Int32))]) rfl k) ?_
    show own_Go _ _ _ _ T2 (mkF m 23 #[.val (.ref r0), .val (.int p1), .val (.int p2), .val (.int (0 : Int32))] [])
    refine own_st (fun t k => XS.goto X2.here hx rfl (pc0 := 23) (pc' := 55) rfl (hb hby d5_23) (by decide) (by decide) k) ?_
    show own_Go _ _ _ _ T2 (mkF m 55 #[.val (.ref r0), .val (.int p1), .val (.int p2), .val (.int (0 : Int32))] [])
    refine own_st (fun t k => XS.iloadN X2.here hx rfl (hb hby d5_55) rfl k) ?_
    show own_Go _ _ _ _ T2 (mkF m 56 #[.val (.ref r0), .val (.int p1), .val (.int p2), .val (.int (0 : Int32))] [(.int (0 : Int32))])
    exact own_retN X2 hx hlk (t := .boolean) hrt (by simp) (hb hby d5_56) ⟨(by simp only [own_a, if_neg c14_3]; first | rfl | done), N0, e2⟩ (by decide) (by decide)
theorem own_maxpos (y : Int64) : ¬ (own_max 0 y < (0 : Int64)) := by
  by_cases h : (0 : Int64) < y
  · simp only [own_max, if_pos h]
    rw [Int64.lt_iff_toInt_lt] at *
    omega
  · simp only [own_max, if_neg h]
    decide
theorem own_a_yes {p : Int32} {t : Int64} (h : p.toInt64 < t) : own_a p t = 1 := by simp only [own_a, if_pos h]
theorem own_a_no {p : Int32} {t : Int64} (h : ¬ p.toInt64 < t) : own_a p t = 0 := by simp only [own_a, if_neg h]

theorem pd__28JJ_29J : parseMethodDescriptor "(JJ)J" = some ⟨[.long, .long], some .long⟩ := by decide +kernel
theorem pd_153407 : parseMethodDescriptor "(J)Lcom/example/libhorn/libhorn/bias/ConstantRule;" = some ⟨[.long], some (.object "com/example/libhorn/libhorn/bias/ConstantRule")⟩ := by decide +kernel
theorem pd__28II_29Z : parseMethodDescriptor "(II)Z" = some ⟨[.int, .int], some .boolean⟩ := by decide +kernel
/-! body 0: ConstantRuleFewerThanPinLaw.law -/
theorem pn_com_example_libhorn_libhorn_bias_ConstantRuleFewerThanPinLaw : plainName "com/example/libhorn/libhorn/bias/ConstantRuleFewerThanPinLaw" = true := by first | (simp [plainName, overriddenIn]; done) | decide +kernel
theorem ef_0 (m : MethodId) (x0 : Int64) (x1 : Int32) (x2 : Int32) (x3 : Int32) : entryFrame m #[(.long x0), (.int x1), (.int x2), (.int x3)] maxLocals = mkF m 0 #[.val (.long x0), .second, .val (.int x1), .val (.int x2), .val (.int x3), .unset, .unset, .unset, .unset, .unset, .unset] [] := by first | (simp [entryFrame, mkF, argsToLocals, Value.category, maxLocals]; done) | rfl
def Q0 (Z : State) (q0 : Int64) (p1 : Int32) (p2 : Int32) (p3 : Int32) (h0 : Heap) (n0 : Nat) (v : Option Value) (h : Heap) (L : List Loc) : Prop := v = some (.int (1 : Int32)) ∧ Fr n0 L
set_option maxRecDepth 65536 in
set_option maxHeartbeats 40000000 in
theorem rm0 (l : Launch) (Z : State) (a0 : Array Value) (hw : ∀ d ∈ tables_1, d.before a0 Z = true) (ws : List Jvm.Cond) (q0 : Int64) (p1 : Int32) (p2 : Int32) (p3 : Int32) (h0 : Heap) (n0 : Nat) (Z0 : n0 ≤ h0.size) :
    MetFree l x (head1 (Jvm.Cond.code x code maxLocals ret :: ws) room_1) (fun a U => a = #[(.long q0), (.int p1), (.int p2), (.int p3)] ∧ Z.Warmed39 U.vm ∧ U.heap = h0) (fun _ _ _ _ _ => True) (fun _ U o U' => ∃ v L, o = .returned v ∧ Q0 Z q0 p1 p2 p3 h0 n0 v U'.heap L ∧ FrameEnd U o U' L 1 2) := by
  refine MetFree.of_bodySF (plainFor_of_name pn_com_example_libhorn_libhorn_bias_ConstantRuleFewerThanPinLaw) hisR ?_
  intro p e s m args below meth c s₁ Bd hml0 hP hK
  obtain ⟨rfl, hZ, hh⟩ := hP
  have hx := Bd.exec
  have hby := Bd.bytes
  have hlk := Bd.notSynchronized
  have hrt := Bd.returns
  have hml : c.maxLocals = 11 := hml0
  have hown : s.vm.findClass "com/example/libhorn/libhorn/bias/ConstantRuleFewerThanPinLaw" = some m.cls := findClass_of_methodNamed Bd.named
  have hnm := (name_of_methodNamed Bd.named Bd.method).1
  have X0 : Stand p l e room_1 s m #[(.long q0), (.int p1), (.int p2), (.int p3)] below meth c s₁ [] 0 0 := Stand.of_body Bd
  have e0 : s₁.heap = h0 := by rw [← hh, Bd.state]; rfl
  have N0 := Fr.nil n0
  have K0 := Keep.refl h0 []
  refine own_out (Q := Q0 Z q0 p1 p2 p3 h0 n0) ?_
  refine own_in (ef_0 m q0 p1 p2 p3) ?_
  show own_Go _ _ _ _ s₁ (mkF m 0 #[.val (.long q0), .second, .val (.int p1), .val (.int p2), .val (.int p3), .unset, .unset, .unset, .unset, .unset, .unset] [])
  refine own_st (fun t k => XS.iload X0.here hx rfl (hb hby at_0) rfl k) ?_
  show own_Go _ _ _ _ s₁ (mkF m 2 #[.val (.long q0), .second, .val (.int p1), .val (.int p2), .val (.int p3), .unset, .unset, .unset, .unset, .unset, .unset] [(.int p3)])
  refine own_st (fun t k => XS.iconst X0.here hx rfl (hb hby at_2) k) ?_
  show own_Go _ _ _ _ s₁ (mkF m 3 #[.val (.long q0), .second, .val (.int p1), .val (.int p2), .val (.int p3), .unset, .unset, .unset, .unset, .unset, .unset] [(.int (1 : Int32)), (.int p3)])
  refine own_st (fun t k => XS.iand X0.here hx rfl (hb hby at_3) rfl k) ?_
  show own_Go _ _ _ _ s₁ (mkF m 4 #[.val (.long q0), .second, .val (.int p1), .val (.int p2), .val (.int p3), .unset, .unset, .unset, .unset, .unset, .unset] [(.int (p3 &&& (1 : Int32)))])
  by_cases c4_1 : (p3 &&& (1 : Int32)) = (0 : Int32)
  ·
    refine own_st (fun t k => XS.ifYes X0.here hx rfl (pc0 := 4) (pc' := 17) rfl (hb hby at_4) rfl ((if0 _ _).trans (teq c4_1).1) (by decide) (by decide) k) ?_
    show own_Go _ _ _ _ s₁ (mkF m 17 #[.val (.long q0), .second, .val (.int p1), .val (.int p2), .val (.int p3), .unset, .unset, .unset, .unset, .unset, .unset] [])
    refine own_st (fun t k => XS.iload X0.here hx rfl (hb hby at_17) rfl k) ?_
    show own_Go _ _ _ _ s₁ (mkF m 19 #[.val (.long q0), .second, .val (.int p1), .val (.int p2), .val (.int p3), .unset, .unset, .unset, .unset, .unset, .unset] [(.int p3)])
    refine own_st (fun t k => XS.iconst X0.here hx rfl (hb hby at_19) k) ?_
    show own_Go _ _ _ _ s₁ (mkF m 20 #[.val (.long q0), .second, .val (.int p1), .val (.int p2), .val (.int p3), .unset, .unset, .unset, .unset, .unset, .unset] [(.int (1 : Int32)), (.int p3)])
    refine own_st (fun t k => XS.ishr X0.here hx rfl (hb hby at_20) rfl k) ?_
    show own_Go _ _ _ _ s₁ (mkF m 21 #[.val (.long q0), .second, .val (.int p1), .val (.int p2), .val (.int p3), .unset, .unset, .unset, .unset, .unset, .unset] [(.int (p3 >>> ((1 : Int32) &&& 31)))])
    refine own_st (fun t k => XS.iconst X0.here hx rfl (hb hby at_21) k) ?_
    show own_Go _ _ _ _ s₁ (mkF m 22 #[.val (.long q0), .second, .val (.int p1), .val (.int p2), .val (.int p3), .unset, .unset, .unset, .unset, .unset, .unset] [(.int (3 : Int32)), (.int (p3 >>> ((1 : Int32) &&& 31)))])
    refine own_st (fun t k => XS.iand X0.here hx rfl (hb hby at_22) rfl k) ?_
    show own_Go _ _ _ _ s₁ (mkF m 23 #[.val (.long q0), .second, .val (.int p1), .val (.int p2), .val (.int p3), .unset, .unset, .unset, .unset, .unset, .unset] [(.int ((p3 >>> ((1 : Int32) &&& 31)) &&& (3 : Int32)))])
    refine own_st (fun t k => XS.i2l X0.here hx rfl (hb hby at_23) rfl k) ?_
    show own_Go _ _ _ _ s₁ (mkF m 24 #[.val (.long q0), .second, .val (.int p1), .val (.int p2), .val (.int p3), .unset, .unset, .unset, .unset, .unset, .unset] [(.long (((p3 >>> ((1 : Int32) &&& 31)) &&& (3 : Int32)).toInt64))])
    refine own_st (fun t k => XS.lconst X0.here hx rfl (hb hby at_24) k) ?_
    show own_Go _ _ _ _ s₁ (mkF m 25 #[.val (.long q0), .second, .val (.int p1), .val (.int p2), .val (.int p3), .unset, .unset, .unset, .unset, .unset, .unset] [(.long (1 : Int64)), (.long (((p3 >>> ((1 : Int32) &&& 31)) &&& (3 : Int32)).toInt64))])
    refine own_st (fun t k => XS.lsub X0.here hx rfl (hb hby at_25) rfl k) ?_
    show own_Go _ _ _ _ s₁ (mkF m 26 #[.val (.long q0), .second, .val (.int p1), .val (.int p2), .val (.int p3), .unset, .unset, .unset, .unset, .unset, .unset] [(.long ((((p3 >>> ((1 : Int32) &&& 31)) &&& (3 : Int32)).toInt64) - (1 : Int64)))])
    refine own_st (fun t k => XS.lstore X0.here hx rfl (hb hby at_26) rfl (l' := #[.val (.long q0), .second, .val (.int p1), .val (.int p2), .val (.int p3), .unset, .unset, .val (.long ((((p3 >>> ((1 : Int32) &&& 31)) &&& (3 : Int32)).toInt64) - (1 : Int64))), .second, .unset, .unset]) rfl k) ?_
    show own_Go _ _ _ _ s₁ (mkF m 28 #[.val (.long q0), .second, .val (.int p1), .val (.int p2), .val (.int p3), .unset, .unset, .val (.long ((((p3 >>> ((1 : Int32) &&& 31)) &&& (3 : Int32)).toInt64) - (1 : Int64))), .second, .unset, .unset] [])
    refine own_st (fun t k => XS.lconst X0.here hx rfl (hb hby at_28) k) ?_
    show own_Go _ _ _ _ s₁ (mkF m 29 #[.val (.long q0), .second, .val (.int p1), .val (.int p2), .val (.int p3), .unset, .unset, .val (.long ((((p3 >>> ((1 : Int32) &&& 31)) &&& (3 : Int32)).toInt64) - (1 : Int64))), .second, .unset, .unset] [(.long (0 : Int64))])
    refine own_st (fun t k => XS.iloadN X0.here hx rfl (hb hby at_29) rfl k) ?_
    show own_Go _ _ _ _ s₁ (mkF m 30 #[.val (.long q0), .second, .val (.int p1), .val (.int p2), .val (.int p3), .unset, .unset, .val (.long ((((p3 >>> ((1 : Int32) &&& 31)) &&& (3 : Int32)).toInt64) - (1 : Int64))), .second, .unset, .unset] [(.int p1), (.long (0 : Int64))])
    refine own_st (fun t k => XS.i2l X0.here hx rfl (hb hby at_30) rfl k) ?_
    show own_Go _ _ _ _ s₁ (mkF m 31 #[.val (.long q0), .second, .val (.int p1), .val (.int p2), .val (.int p3), .unset, .unset, .val (.long ((((p3 >>> ((1 : Int32) &&& 31)) &&& (3 : Int32)).toInt64) - (1 : Int64))), .second, .unset, .unset] [(.long (p1.toInt64)), (.long (0 : Int64))])
    refine own_st (fun t k => XS.lload X0.here hx rfl (hb hby at_31) rfl k) ?_
    show own_Go _ _ _ _ s₁ (mkF m 33 #[.val (.long q0), .second, .val (.int p1), .val (.int p2), .val (.int p3), .unset, .unset, .val (.long ((((p3 >>> ((1 : Int32) &&& 31)) &&& (3 : Int32)).toInt64) - (1 : Int64))), .second, .unset, .unset] [(.long ((((p3 >>> ((1 : Int32) &&& 31)) &&& (3 : Int32)).toInt64) - (1 : Int64))), (.long (p1.toInt64)), (.long (0 : Int64))])
    refine own_st (fun t k => XS.ladd X0.here hx rfl (hb hby at_33) rfl k) ?_
    show own_Go _ _ _ _ s₁ (mkF m 34 #[.val (.long q0), .second, .val (.int p1), .val (.int p2), .val (.int p3), .unset, .unset, .val (.long ((((p3 >>> ((1 : Int32) &&& 31)) &&& (3 : Int32)).toInt64) - (1 : Int64))), .second, .unset, .unset] [(.long ((p1.toInt64) + ((((p3 >>> ((1 : Int32) &&& 31)) &&& (3 : Int32)).toInt64) - (1 : Int64)))), (.long (0 : Int64))])
    obtain ⟨_, _, ⟨T2, L2, k2, n2⟩, -, X2, ⟨Lc2, hQ2, l2, y2, z2⟩, st2⟩ := Jvm.LawKit.callS X0 hx (y := (⟨"java/lang/Math", "max", "(JJ)J"⟩ : MethodName)) hown (mvT hZ (hw _ (List.mem_of_getElem? (i := 0) rfl))) (mvT hZ (hw _ (List.mem_of_getElem? (i := 1) rfl))) (mvT hZ (hw _ (List.mem_of_getElem? (i := 2) rfl))) (mvT hZ (hw _ (List.mem_of_getElem? (i := 3) rfl))) (by decide) (backOf (W := 0) (rm1 l Z a0 hw [] (0 : Int64) ((p1.toInt64) + ((((p3 >>> ((1 : Int32) &&& 31)) &&& (3 : Int32)).toInt64) - (1 : Int64)))  h0 n0 Z0 ) hZ (hw _ (List.mem_of_getElem? (i := 3) rfl)) (hw _ (List.mem_of_getElem? (i := 2) rfl)) (by decide) (by decide)) (g := (mkF m 34 #[.val (.long q0), .second, .val (.int p1), .val (.int p2), .val (.int p3), .unset, .unset, .val (.long ((((p3 >>> ((1 : Int32) &&& 31)) &&& (3 : Int32)).toInt64) - (1 : Int64))), .second, .unset, .unset] [(.long ((p1.toInt64) + ((((p3 >>> ((1 : Int32) &&& 31)) &&& (3 : Int32)).toInt64) - (1 : Int64)))), (.long (0 : Int64))])) rfl (by rw [hml]; rfl) (argsL := [(.long (0 : Int64)), (.long ((p1.toInt64) + ((((p3 >>> ((1 : Int32) &&& 31)) &&& (3 : Int32)).toInt64) - (1 : Int64))))]) (rest := []) (lenOf pd__28JJ_29J rfl) rfl (by show 2 * 0 + _ ≤ _; exact Nat.le_of_eq rfl) (hb hby at_34) (fun _ _ => ⟨rfl, e0, (by decide : 0 + 0 ≤ _), (by decide : 0 + 0 ≤ _)⟩)
    dsimp only [Pt.U, Pt.locs, Pt.cells, Pt.slots] at X2 l2 y2 z2 st2 hQ2
    subst l2 y2 z2
    obtain ⟨rfl, N2q, e2⟩ := hQ2
    have N2 := Fr.app N0 N2q
    refine own_st st2 ?_
    show own_Go _ _ _ _ T2 (mkF m 37 #[.val (.long q0), .second, .val (.int p1), .val (.int p2), .val (.int p3), .unset, .unset, .val (.long ((((p3 >>> ((1 : Int32) &&& 31)) &&& (3 : Int32)).toInt64) - (1 : Int64))), .second, .unset, .unset] [(.long (own_max (0 : Int64) ((p1.toInt64) + ((((p3 >>> ((1 : Int32) &&& 31)) &&& (3 : Int32)).toInt64) - (1 : Int64)))))])
    refine own_st (fun t k => XS.lstore X2.here hx rfl (hb hby at_37) rfl (l' := #[.val (.long q0), .second, .val (.int p1), .val (.int p2), .val (.int p3), .val (.long (own_max (0 : Int64) ((p1.toInt64) + ((((p3 >>> ((1 : Int32) &&& 31)) &&& (3 : Int32)).toInt64) - (1 : Int64))))), .second, .val (.long ((((p3 >>> ((1 : Int32) &&& 31)) &&& (3 : Int32)).toInt64) - (1 : Int64))), .second, .unset, .unset]) rfl k) ?_
    show own_Go _ _ _ _ T2 (mkF m 39 #[.val (.long q0), .second, .val (.int p1), .val (.int p2), .val (.int p3), .val (.long (own_max (0 : Int64) ((p1.toInt64) + ((((p3 >>> ((1 : Int32) &&& 31)) &&& (3 : Int32)).toInt64) - (1 : Int64))))), .second, .val (.long ((((p3 >>> ((1 : Int32) &&& 31)) &&& (3 : Int32)).toInt64) - (1 : Int64))), .second, .unset, .unset] [])
    refine own_st (fun t k => XS.lload X2.here hx rfl (hb hby at_39) rfl k) ?_
    show own_Go _ _ _ _ T2 (mkF m 41 #[.val (.long q0), .second, .val (.int p1), .val (.int p2), .val (.int p3), .val (.long (own_max (0 : Int64) ((p1.toInt64) + ((((p3 >>> ((1 : Int32) &&& 31)) &&& (3 : Int32)).toInt64) - (1 : Int64))))), .second, .val (.long ((((p3 >>> ((1 : Int32) &&& 31)) &&& (3 : Int32)).toInt64) - (1 : Int64))), .second, .unset, .unset] [(.long (own_max (0 : Int64) ((p1.toInt64) + ((((p3 >>> ((1 : Int32) &&& 31)) &&& (3 : Int32)).toInt64) - (1 : Int64)))))])
    obtain ⟨_, _, ⟨T3, L3, k3, n3⟩, -, X3, ⟨Lc3, hQ3, l3, y3, z3⟩, st3⟩ := Jvm.LawKit.callS X2 hx (y := (⟨"com/example/libhorn/libhorn/bias/ConstantRule", "fewerThan", "(J)Lcom/example/libhorn/libhorn/bias/ConstantRule;"⟩ : MethodName)) hown (mvT hZ (hw _ (List.mem_of_getElem? (i := 4) rfl))) (mvT hZ (hw _ (List.mem_of_getElem? (i := 5) rfl))) (mvT hZ (hw _ (List.mem_of_getElem? (i := 6) rfl))) (mvT hZ (hw _ (List.mem_of_getElem? (i := 7) rfl))) (by decide) (backOf (W := 0) (rm2 l Z a0 hw [] (own_max (0 : Int64) ((p1.toInt64) + ((((p3 >>> ((1 : Int32) &&& 31)) &&& (3 : Int32)).toInt64) - (1 : Int64))))  h0 n0 Z0 (own_maxpos _)) hZ (hw _ (List.mem_of_getElem? (i := 7) rfl)) (hw _ (List.mem_of_getElem? (i := 6) rfl)) (by decide) (by decide)) (g := (mkF m 41 #[.val (.long q0), .second, .val (.int p1), .val (.int p2), .val (.int p3), .val (.long (own_max (0 : Int64) ((p1.toInt64) + ((((p3 >>> ((1 : Int32) &&& 31)) &&& (3 : Int32)).toInt64) - (1 : Int64))))), .second, .val (.long ((((p3 >>> ((1 : Int32) &&& 31)) &&& (3 : Int32)).toInt64) - (1 : Int64))), .second, .unset, .unset] [(.long (own_max (0 : Int64) ((p1.toInt64) + ((((p3 >>> ((1 : Int32) &&& 31)) &&& (3 : Int32)).toInt64) - (1 : Int64)))))])) rfl (by rw [hml]; rfl) (argsL := [(.long (own_max (0 : Int64) ((p1.toInt64) + ((((p3 >>> ((1 : Int32) &&& 31)) &&& (3 : Int32)).toInt64) - (1 : Int64)))))]) (rest := []) (lenOf pd_153407 rfl) rfl (by show 2 * 0 + _ ≤ _; exact Nat.le_of_eq rfl) (hb hby at_41) (fun _ _ => ⟨rfl, e2, (by decide : 0 + 1 ≤ _), (by decide : 0 + 2 ≤ _)⟩)
    dsimp only [Pt.U, Pt.locs, Pt.cells, Pt.slots] at X3 l3 y3 z3 st3 hQ3
    subst l3 y3 z3
    obtain ⟨b3, rfl, N3q, K3, sy3, E3, G3_0, G3_1⟩ := hQ3
    have sz_b3 : h0.size ≤ b3 := Nat.le_trans K0.1 sy3
    have g_b3 : n0 ≤ b3 := Nat.le_trans Z0 sz_b3
    have N3 := Fr.app N2 N3q
    refine own_st st3 ?_
    show own_Go _ _ _ _ T3 (mkF m 44 #[.val (.long q0), .second, .val (.int p1), .val (.int p2), .val (.int p3), .val (.long (own_max (0 : Int64) ((p1.toInt64) + ((((p3 >>> ((1 : Int32) &&& 31)) &&& (3 : Int32)).toInt64) - (1 : Int64))))), .second, .val (.long ((((p3 >>> ((1 : Int32) &&& 31)) &&& (3 : Int32)).toInt64) - (1 : Int64))), .second, .unset, .unset] [(.ref b3)])
    refine own_st (fun t k => XS.astore X3.here hx rfl (hb hby at_44) rfl rfl (l' := #[.val (.long q0), .second, .val (.int p1), .val (.int p2), .val (.int p3), .val (.long (own_max (0 : Int64) ((p1.toInt64) + ((((p3 >>> ((1 : Int32) &&& 31)) &&& (3 : Int32)).toInt64) - (1 : Int64))))), .second, .val (.ref b3), .unset, .unset, .unset]) rfl k) ?_
    show own_Go _ _ _ _ T3 (mkF m 46 #[.val (.long q0), .second, .val (.int p1), .val (.int p2), .val (.int p3), .val (.long (own_max (0 : Int64) ((p1.toInt64) + ((((p3 >>> ((1 : Int32) &&& 31)) &&& (3 : Int32)).toInt64) - (1 : Int64))))), .second, .val (.ref b3), .unset, .unset, .unset] [])
    refine own_st (fun t k => XS.iloadN X3.here hx rfl (hb hby at_46) rfl k) ?_
    show own_Go _ _ _ _ T3 (mkF m 47 #[.val (.long q0), .second, .val (.int p1), .val (.int p2), .val (.int p3), .val (.long (own_max (0 : Int64) ((p1.toInt64) + ((((p3 >>> ((1 : Int32) &&& 31)) &&& (3 : Int32)).toInt64) - (1 : Int64))))), .second, .val (.ref b3), .unset, .unset, .unset] [(.int p1)])
    refine own_st (fun t k => XS.i2l X3.here hx rfl (hb hby at_47) rfl k) ?_
    show own_Go _ _ _ _ T3 (mkF m 48 #[.val (.long q0), .second, .val (.int p1), .val (.int p2), .val (.int p3), .val (.long (own_max (0 : Int64) ((p1.toInt64) + ((((p3 >>> ((1 : Int32) &&& 31)) &&& (3 : Int32)).toInt64) - (1 : Int64))))), .second, .val (.ref b3), .unset, .unset, .unset] [(.long (p1.toInt64))])
    refine own_st (fun t k => XS.lload X3.here hx rfl (hb hby at_48) rfl k) ?_
    show own_Go _ _ _ _ T3 (mkF m 50 #[.val (.long q0), .second, .val (.int p1), .val (.int p2), .val (.int p3), .val (.long (own_max (0 : Int64) ((p1.toInt64) + ((((p3 >>> ((1 : Int32) &&& 31)) &&& (3 : Int32)).toInt64) - (1 : Int64))))), .second, .val (.ref b3), .unset, .unset, .unset] [(.long (own_max (0 : Int64) ((p1.toInt64) + ((((p3 >>> ((1 : Int32) &&& 31)) &&& (3 : Int32)).toInt64) - (1 : Int64))))), (.long (p1.toInt64))])
    refine own_st (fun t k => XS.lcmp X3.here hx rfl (hb hby at_50) rfl k) ?_
    show own_Go _ _ _ _ T3 (mkF m 51 #[.val (.long q0), .second, .val (.int p1), .val (.int p2), .val (.int p3), .val (.long (own_max (0 : Int64) ((p1.toInt64) + ((((p3 >>> ((1 : Int32) &&& 31)) &&& (3 : Int32)).toInt64) - (1 : Int64))))), .second, .val (.ref b3), .unset, .unset, .unset] [(.int (lcmpW (p1.toInt64) (own_max (0 : Int64) ((p1.toInt64) + ((((p3 >>> ((1 : Int32) &&& 31)) &&& (3 : Int32)).toInt64) - (1 : Int64))))))])
    by_cases c51_4 : (p1.toInt64) < (own_max (0 : Int64) ((p1.toInt64) + ((((p3 >>> ((1 : Int32) &&& 31)) &&& (3 : Int32)).toInt64) - (1 : Int64))))
    ·
      refine own_st (fun t k => XS.ifNo X3.here hx rfl (hb hby at_51) rfl ((if0 _ _).trans (tlt ((lw_lt _ _).mpr c51_4)).2.1) k) ?_
      show own_Go _ _ _ _ T3 (mkF m 54 #[.val (.long q0), .second, .val (.int p1), .val (.int p2), .val (.int p3), .val (.long (own_max (0 : Int64) ((p1.toInt64) + ((((p3 >>> ((1 : Int32) &&& 31)) &&& (3 : Int32)).toInt64) - (1 : Int64))))), .second, .val (.ref b3), .unset, .unset, .unset] [])
      refine own_st (fun t k => XS.iconst X3.here hx rfl (hb hby at_54) k) ?_
      show own_Go _ _ _ _ T3 (mkF m 55 #[.val (.long q0), .second, .val (.int p1), .val (.int p2), .val (.int p3), .val (.long (own_max (0 : Int64) ((p1.toInt64) + ((((p3 >>> ((1 : Int32) &&& 31)) &&& (3 : Int32)).toInt64) - (1 : Int64))))), .second, .val (.ref b3), .unset, .unset, .unset] [(.int (1 : Int32))])
      refine own_st (fun t k => XS.goto X3.here hx rfl (pc0 := 55) (pc' := 59) rfl (hb hby at_55) (by decide) (by decide) k) ?_
      show own_Go _ _ _ _ T3 (mkF m 59 #[.val (.long q0), .second, .val (.int p1), .val (.int p2), .val (.int p3), .val (.long (own_max (0 : Int64) ((p1.toInt64) + ((((p3 >>> ((1 : Int32) &&& 31)) &&& (3 : Int32)).toInt64) - (1 : Int64))))), .second, .val (.ref b3), .unset, .unset, .unset] [(.int (1 : Int32))])
      refine own_st (fun t k => XS.istore X3.here hx rfl (hb hby at_59) rfl (l' := #[.val (.long q0), .second, .val (.int p1), .val (.int p2), .val (.int p3), .val (.long (own_max (0 : Int64) ((p1.toInt64) + ((((p3 >>> ((1 : Int32) &&& 31)) &&& (3 : Int32)).toInt64) - (1 : Int64))))), .second, .val (.ref b3), .val (.int (1 : Int32)), .unset, .unset]) rfl k) ?_
      show own_Go _ _ _ _ T3 (mkF m 61 #[.val (.long q0), .second, .val (.int p1), .val (.int p2), .val (.int p3), .val (.long (own_max (0 : Int64) ((p1.toInt64) + ((((p3 >>> ((1 : Int32) &&& 31)) &&& (3 : Int32)).toInt64) - (1 : Int64))))), .second, .val (.ref b3), .val (.int (1 : Int32)), .unset, .unset] [])
      refine own_st (fun t k => XS.aload X3.here hx rfl (hb hby at_61) rfl rfl k) ?_
      show own_Go _ _ _ _ T3 (mkF m 63 #[.val (.long q0), .second, .val (.int p1), .val (.int p2), .val (.int p3), .val (.long (own_max (0 : Int64) ((p1.toInt64) + ((((p3 >>> ((1 : Int32) &&& 31)) &&& (3 : Int32)).toInt64) - (1 : Int64))))), .second, .val (.ref b3), .val (.int (1 : Int32)), .unset, .unset] [(.ref b3)])
      refine own_st (fun t k => XS.iloadN X3.here hx rfl (hb hby at_63) rfl k) ?_
      show own_Go _ _ _ _ T3 (mkF m 64 #[.val (.long q0), .second, .val (.int p1), .val (.int p2), .val (.int p3), .val (.long (own_max (0 : Int64) ((p1.toInt64) + ((((p3 >>> ((1 : Int32) &&& 31)) &&& (3 : Int32)).toInt64) - (1 : Int64))))), .second, .val (.ref b3), .val (.int (1 : Int32)), .unset, .unset] [(.int p1), (.ref b3)])
      refine own_st (fun t k => XS.iloadN X3.here hx rfl (hb hby at_64) rfl k) ?_
      show own_Go _ _ _ _ T3 (mkF m 65 #[.val (.long q0), .second, .val (.int p1), .val (.int p2), .val (.int p3), .val (.long (own_max (0 : Int64) ((p1.toInt64) + ((((p3 >>> ((1 : Int32) &&& 31)) &&& (3 : Int32)).toInt64) - (1 : Int64))))), .second, .val (.ref b3), .val (.int (1 : Int32)), .unset, .unset] [(.int p2), (.int p1), (.ref b3)])
      have K0_6 := (K0.trans K3 (all0))
      obtain ⟨cq5, kq5, q5a, q5b, q5c⟩ := isOf hZ rfl E3
      obtain ⟨_, _, ⟨T5, L5, k5, n5⟩, -, X5, ⟨Lc5, hQ5, l5, y5, z5⟩, st5⟩ := X3.virtualBack hx (y := (⟨"com/example/libhorn/libhorn/bias/ConstantRule", "allows", "(II)Z"⟩ : MethodName)) (z := (⟨"com/example/libhorn/libhorn/bias/ConstantRule", "allows", "(II)Z"⟩ : MethodName)) hown (mvT hZ (hw _ (List.mem_of_getElem? (i := 20) rfl))) (mvT hZ (hw _ (List.mem_of_getElem? (i := 21) rfl))) (notFace_of_selects (args := #[]) (mvT hZ (hw _ (List.mem_of_getElem? (i := 23) rfl)))) (mvT hZ (hw _ (List.mem_of_getElem? (i := 23) rfl))) (mvT hZ (hw _ (List.mem_of_getElem? (i := 22) rfl))) (by decide) (backOf (W := 0) (rm5 l Z a0 hw [] b3 p1 p2 (own_max (0 : Int64) ((p1.toInt64) + ((((p3 >>> ((1 : Int32) &&& 31)) &&& (3 : Int32)).toInt64) - (1 : Int64))))  T3.heap n0 (Nat.le_trans Z0 K0_6.1) G3_0 G3_1) hZ (hw _ (List.mem_of_getElem? (i := 24) rfl)) (hw _ (List.mem_of_getElem? (i := 6) rfl)) (by decide) (by decide)) q5a q5c (g := (mkF m 65 #[.val (.long q0), .second, .val (.int p1), .val (.int p2), .val (.int p3), .val (.long (own_max (0 : Int64) ((p1.toInt64) + ((((p3 >>> ((1 : Int32) &&& 31)) &&& (3 : Int32)).toInt64) - (1 : Int64))))), .second, .val (.ref b3), .val (.int (1 : Int32)), .unset, .unset] [(.int p2), (.int p1), (.ref b3)])) rfl (by rw [hml]; rfl) (Steps.refl _) (argsL := [(.int p1), (.int p2)]) (rest := []) (lenOf pd__28II_29Z rfl) rfl (by show 2 * 0 + _ ≤ _; exact Nat.le_of_eq rfl) (hb hby at_65) (fun _ _ => ⟨rfl, rfl, (by decide : 1 + 0 ≤ _), (by decide : 2 + 0 ≤ _)⟩)
      dsimp only [Pt.U, Pt.locs, Pt.cells, Pt.slots] at X5 l5 y5 z5 st5 hQ5
      subst l5 y5 z5
      obtain ⟨rfl, N5q, e5⟩ := hQ5
      have N5 := Fr.app N3 N5q
      refine own_tr st5 ?_
      show own_Go _ _ _ _ T5 (mkF m 68 #[.val (.long q0), .second, .val (.int p1), .val (.int p2), .val (.int p3), .val (.long (own_max (0 : Int64) ((p1.toInt64) + ((((p3 >>> ((1 : Int32) &&& 31)) &&& (3 : Int32)).toInt64) - (1 : Int64))))), .second, .val (.ref b3), .val (.int (1 : Int32)), .unset, .unset] [(.int (own_a p1 (own_max (0 : Int64) ((p1.toInt64) + ((((p3 >>> ((1 : Int32) &&& 31)) &&& (3 : Int32)).toInt64) - (1 : Int64))))))])
      refine own_st (fun t k => XS.istore X5.here hx rfl (hb hby at_68) rfl (l' := #[.val (.long q0), .second, .val (.int p1), .val (.int p2), .val (.int p3), .val (.long (own_max (0 : Int64) ((p1.toInt64) + ((((p3 >>> ((1 : Int32) &&& 31)) &&& (3 : Int32)).toInt64) - (1 : Int64))))), .second, .val (.ref b3), .val (.int (1 : Int32)), .val (.int (own_a p1 (own_max (0 : Int64) ((p1.toInt64) + ((((p3 >>> ((1 : Int32) &&& 31)) &&& (3 : Int32)).toInt64) - (1 : Int64)))))), .unset]) rfl k) ?_
      show own_Go _ _ _ _ T5 (mkF m 70 #[.val (.long q0), .second, .val (.int p1), .val (.int p2), .val (.int p3), .val (.long (own_max (0 : Int64) ((p1.toInt64) + ((((p3 >>> ((1 : Int32) &&& 31)) &&& (3 : Int32)).toInt64) - (1 : Int64))))), .second, .val (.ref b3), .val (.int (1 : Int32)), .val (.int (own_a p1 (own_max (0 : Int64) ((p1.toInt64) + ((((p3 >>> ((1 : Int32) &&& 31)) &&& (3 : Int32)).toInt64) - (1 : Int64)))))), .unset] [])
      refine own_st (fun t k => XS.aload X5.here hx rfl (hb hby at_70) rfl rfl k) ?_
      show own_Go _ _ _ _ T5 (mkF m 72 #[.val (.long q0), .second, .val (.int p1), .val (.int p2), .val (.int p3), .val (.long (own_max (0 : Int64) ((p1.toInt64) + ((((p3 >>> ((1 : Int32) &&& 31)) &&& (3 : Int32)).toInt64) - (1 : Int64))))), .second, .val (.ref b3), .val (.int (1 : Int32)), .val (.int (own_a p1 (own_max (0 : Int64) ((p1.toInt64) + ((((p3 >>> ((1 : Int32) &&& 31)) &&& (3 : Int32)).toInt64) - (1 : Int64)))))), .unset] [(.ref b3)])
      refine own_st (fun t k => XS.iloadN X5.here hx rfl (hb hby at_72) rfl k) ?_
      show own_Go _ _ _ _ T5 (mkF m 73 #[.val (.long q0), .second, .val (.int p1), .val (.int p2), .val (.int p3), .val (.long (own_max (0 : Int64) ((p1.toInt64) + ((((p3 >>> ((1 : Int32) &&& 31)) &&& (3 : Int32)).toInt64) - (1 : Int64))))), .second, .val (.ref b3), .val (.int (1 : Int32)), .val (.int (own_a p1 (own_max (0 : Int64) ((p1.toInt64) + ((((p3 >>> ((1 : Int32) &&& 31)) &&& (3 : Int32)).toInt64) - (1 : Int64)))))), .unset] [(.int p1), (.ref b3)])
      refine own_st (fun t k => XS.iloadN X5.here hx rfl (hb hby at_73) rfl k) ?_
      show own_Go _ _ _ _ T5 (mkF m 74 #[.val (.long q0), .second, .val (.int p1), .val (.int p2), .val (.int p3), .val (.long (own_max (0 : Int64) ((p1.toInt64) + ((((p3 >>> ((1 : Int32) &&& 31)) &&& (3 : Int32)).toInt64) - (1 : Int64))))), .second, .val (.ref b3), .val (.int (1 : Int32)), .val (.int (own_a p1 (own_max (0 : Int64) ((p1.toInt64) + ((((p3 >>> ((1 : Int32) &&& 31)) &&& (3 : Int32)).toInt64) - (1 : Int64)))))), .unset] [(.int p2), (.int p1), (.ref b3)])
      refine own_st (fun t k => XS.iconst X5.here hx rfl (hb hby at_74) k) ?_
      show own_Go _ _ _ _ T5 (mkF m 75 #[.val (.long q0), .second, .val (.int p1), .val (.int p2), .val (.int p3), .val (.long (own_max (0 : Int64) ((p1.toInt64) + ((((p3 >>> ((1 : Int32) &&& 31)) &&& (3 : Int32)).toInt64) - (1 : Int64))))), .second, .val (.ref b3), .val (.int (1 : Int32)), .val (.int (own_a p1 (own_max (0 : Int64) ((p1.toInt64) + ((((p3 >>> ((1 : Int32) &&& 31)) &&& (3 : Int32)).toInt64) - (1 : Int64)))))), .unset] [(.int (-1 : Int32)), (.int p2), (.int p1), (.ref b3)])
      refine own_st (fun t k => XS.ixor X5.here hx rfl (hb hby at_75) rfl k) ?_
      show own_Go _ _ _ _ T5 (mkF m 76 #[.val (.long q0), .second, .val (.int p1), .val (.int p2), .val (.int p3), .val (.long (own_max (0 : Int64) ((p1.toInt64) + ((((p3 >>> ((1 : Int32) &&& 31)) &&& (3 : Int32)).toInt64) - (1 : Int64))))), .second, .val (.ref b3), .val (.int (1 : Int32)), .val (.int (own_a p1 (own_max (0 : Int64) ((p1.toInt64) + ((((p3 >>> ((1 : Int32) &&& 31)) &&& (3 : Int32)).toInt64) - (1 : Int64)))))), .unset] [(.int (p2 ^^^ (-1 : Int32))), (.int p1), (.ref b3)])
      obtain ⟨cq7, kq7, q7a, q7b, q7c⟩ := isOf hZ e5 E3
      obtain ⟨_, _, ⟨T7, L7, k7, n7⟩, -, X7, ⟨Lc7, hQ7, l7, y7, z7⟩, st7⟩ := X5.virtualBack hx (y := (⟨"com/example/libhorn/libhorn/bias/ConstantRule", "allows", "(II)Z"⟩ : MethodName)) (z := (⟨"com/example/libhorn/libhorn/bias/ConstantRule", "allows", "(II)Z"⟩ : MethodName)) hown (mvT hZ (hw _ (List.mem_of_getElem? (i := 20) rfl))) (mvT hZ (hw _ (List.mem_of_getElem? (i := 21) rfl))) (notFace_of_selects (args := #[]) (mvT hZ (hw _ (List.mem_of_getElem? (i := 23) rfl)))) (mvT hZ (hw _ (List.mem_of_getElem? (i := 23) rfl))) (mvT hZ (hw _ (List.mem_of_getElem? (i := 22) rfl))) (by decide) (backOf (W := 0) (rm5 l Z a0 hw [] b3 p1 (p2 ^^^ (-1 : Int32)) (own_max (0 : Int64) ((p1.toInt64) + ((((p3 >>> ((1 : Int32) &&& 31)) &&& (3 : Int32)).toInt64) - (1 : Int64))))  T3.heap n0 (Nat.le_trans Z0 K0_6.1) G3_0 G3_1) hZ (hw _ (List.mem_of_getElem? (i := 24) rfl)) (hw _ (List.mem_of_getElem? (i := 6) rfl)) (by decide) (by decide)) q7a q7c (g := (mkF m 76 #[.val (.long q0), .second, .val (.int p1), .val (.int p2), .val (.int p3), .val (.long (own_max (0 : Int64) ((p1.toInt64) + ((((p3 >>> ((1 : Int32) &&& 31)) &&& (3 : Int32)).toInt64) - (1 : Int64))))), .second, .val (.ref b3), .val (.int (1 : Int32)), .val (.int (own_a p1 (own_max (0 : Int64) ((p1.toInt64) + ((((p3 >>> ((1 : Int32) &&& 31)) &&& (3 : Int32)).toInt64) - (1 : Int64)))))), .unset] [(.int (p2 ^^^ (-1 : Int32))), (.int p1), (.ref b3)])) rfl (by rw [hml]; rfl) (Steps.refl _) (argsL := [(.int p1), (.int (p2 ^^^ (-1 : Int32)))]) (rest := []) (lenOf pd__28II_29Z rfl) rfl (by show 2 * 0 + _ ≤ _; exact Nat.le_of_eq rfl) (hb hby at_76) (fun _ _ => ⟨rfl, e5, (by decide : 1 + 0 ≤ _), (by decide : 2 + 0 ≤ _)⟩)
      dsimp only [Pt.U, Pt.locs, Pt.cells, Pt.slots] at X7 l7 y7 z7 st7 hQ7
      subst l7 y7 z7
      obtain ⟨rfl, N7q, e7⟩ := hQ7
      have N7 := Fr.app N5 N7q
      refine own_tr st7 ?_
      show own_Go _ _ _ _ T7 (mkF m 79 #[.val (.long q0), .second, .val (.int p1), .val (.int p2), .val (.int p3), .val (.long (own_max (0 : Int64) ((p1.toInt64) + ((((p3 >>> ((1 : Int32) &&& 31)) &&& (3 : Int32)).toInt64) - (1 : Int64))))), .second, .val (.ref b3), .val (.int (1 : Int32)), .val (.int (own_a p1 (own_max (0 : Int64) ((p1.toInt64) + ((((p3 >>> ((1 : Int32) &&& 31)) &&& (3 : Int32)).toInt64) - (1 : Int64)))))), .unset] [(.int (own_a p1 (own_max (0 : Int64) ((p1.toInt64) + ((((p3 >>> ((1 : Int32) &&& 31)) &&& (3 : Int32)).toInt64) - (1 : Int64))))))])
      refine own_st (fun t k => XS.istore X7.here hx rfl (hb hby at_79) rfl (l' := #[.val (.long q0), .second, .val (.int p1), .val (.int p2), .val (.int p3), .val (.long (own_max (0 : Int64) ((p1.toInt64) + ((((p3 >>> ((1 : Int32) &&& 31)) &&& (3 : Int32)).toInt64) - (1 : Int64))))), .second, .val (.ref b3), .val (.int (1 : Int32)), .val (.int (own_a p1 (own_max (0 : Int64) ((p1.toInt64) + ((((p3 >>> ((1 : Int32) &&& 31)) &&& (3 : Int32)).toInt64) - (1 : Int64)))))), .val (.int (own_a p1 (own_max (0 : Int64) ((p1.toInt64) + ((((p3 >>> ((1 : Int32) &&& 31)) &&& (3 : Int32)).toInt64) - (1 : Int64))))))]) rfl k) ?_
      show own_Go _ _ _ _ T7 (mkF m 81 #[.val (.long q0), .second, .val (.int p1), .val (.int p2), .val (.int p3), .val (.long (own_max (0 : Int64) ((p1.toInt64) + ((((p3 >>> ((1 : Int32) &&& 31)) &&& (3 : Int32)).toInt64) - (1 : Int64))))), .second, .val (.ref b3), .val (.int (1 : Int32)), .val (.int (own_a p1 (own_max (0 : Int64) ((p1.toInt64) + ((((p3 >>> ((1 : Int32) &&& 31)) &&& (3 : Int32)).toInt64) - (1 : Int64)))))), .val (.int (own_a p1 (own_max (0 : Int64) ((p1.toInt64) + ((((p3 >>> ((1 : Int32) &&& 31)) &&& (3 : Int32)).toInt64) - (1 : Int64))))))] [])
      refine own_st (fun t k => XS.iload X7.here hx rfl (hb hby at_81) rfl k) ?_
      show own_Go _ _ _ _ T7 (mkF m 83 #[.val (.long q0), .second, .val (.int p1), .val (.int p2), .val (.int p3), .val (.long (own_max (0 : Int64) ((p1.toInt64) + ((((p3 >>> ((1 : Int32) &&& 31)) &&& (3 : Int32)).toInt64) - (1 : Int64))))), .second, .val (.ref b3), .val (.int (1 : Int32)), .val (.int (own_a p1 (own_max (0 : Int64) ((p1.toInt64) + ((((p3 >>> ((1 : Int32) &&& 31)) &&& (3 : Int32)).toInt64) - (1 : Int64)))))), .val (.int (own_a p1 (own_max (0 : Int64) ((p1.toInt64) + ((((p3 >>> ((1 : Int32) &&& 31)) &&& (3 : Int32)).toInt64) - (1 : Int64))))))] [(.int (own_a p1 (own_max (0 : Int64) ((p1.toInt64) + ((((p3 >>> ((1 : Int32) &&& 31)) &&& (3 : Int32)).toInt64) - (1 : Int64))))))])
      refine own_st (fun t k => XS.iload X7.here hx rfl (hb hby at_83) rfl k) ?_
      show own_Go _ _ _ _ T7 (mkF m 85 #[.val (.long q0), .second, .val (.int p1), .val (.int p2), .val (.int p3), .val (.long (own_max (0 : Int64) ((p1.toInt64) + ((((p3 >>> ((1 : Int32) &&& 31)) &&& (3 : Int32)).toInt64) - (1 : Int64))))), .second, .val (.ref b3), .val (.int (1 : Int32)), .val (.int (own_a p1 (own_max (0 : Int64) ((p1.toInt64) + ((((p3 >>> ((1 : Int32) &&& 31)) &&& (3 : Int32)).toInt64) - (1 : Int64)))))), .val (.int (own_a p1 (own_max (0 : Int64) ((p1.toInt64) + ((((p3 >>> ((1 : Int32) &&& 31)) &&& (3 : Int32)).toInt64) - (1 : Int64))))))] [(.int (1 : Int32)), (.int (own_a p1 (own_max (0 : Int64) ((p1.toInt64) + ((((p3 >>> ((1 : Int32) &&& 31)) &&& (3 : Int32)).toInt64) - (1 : Int64))))))])
      refine own_st (fun t k => XS.icmpNo X7.here hx rfl (hb hby at_85) rfl (teq (own_a_yes c51_4 : (own_a p1 (own_max (0 : Int64) ((p1.toInt64) + ((((p3 >>> ((1 : Int32) &&& 31)) &&& (3 : Int32)).toInt64) - (1 : Int64))))) = (1 : Int32))).2 k) ?_
      show own_Go _ _ _ _ T7 (mkF m 88 #[.val (.long q0), .second, .val (.int p1), .val (.int p2), .val (.int p3), .val (.long (own_max (0 : Int64) ((p1.toInt64) + ((((p3 >>> ((1 : Int32) &&& 31)) &&& (3 : Int32)).toInt64) - (1 : Int64))))), .second, .val (.ref b3), .val (.int (1 : Int32)), .val (.int (own_a p1 (own_max (0 : Int64) ((p1.toInt64) + ((((p3 >>> ((1 : Int32) &&& 31)) &&& (3 : Int32)).toInt64) - (1 : Int64)))))), .val (.int (own_a p1 (own_max (0 : Int64) ((p1.toInt64) + ((((p3 >>> ((1 : Int32) &&& 31)) &&& (3 : Int32)).toInt64) - (1 : Int64))))))] [])
      refine own_st (fun t k => XS.iload X7.here hx rfl (hb hby at_88) rfl k) ?_
      show own_Go _ _ _ _ T7 (mkF m 90 #[.val (.long q0), .second, .val (.int p1), .val (.int p2), .val (.int p3), .val (.long (own_max (0 : Int64) ((p1.toInt64) + ((((p3 >>> ((1 : Int32) &&& 31)) &&& (3 : Int32)).toInt64) - (1 : Int64))))), .second, .val (.ref b3), .val (.int (1 : Int32)), .val (.int (own_a p1 (own_max (0 : Int64) ((p1.toInt64) + ((((p3 >>> ((1 : Int32) &&& 31)) &&& (3 : Int32)).toInt64) - (1 : Int64)))))), .val (.int (own_a p1 (own_max (0 : Int64) ((p1.toInt64) + ((((p3 >>> ((1 : Int32) &&& 31)) &&& (3 : Int32)).toInt64) - (1 : Int64))))))] [(.int (own_a p1 (own_max (0 : Int64) ((p1.toInt64) + ((((p3 >>> ((1 : Int32) &&& 31)) &&& (3 : Int32)).toInt64) - (1 : Int64))))))])
      refine own_st (fun t k => XS.iload X7.here hx rfl (hb hby at_90) rfl k) ?_
      show own_Go _ _ _ _ T7 (mkF m 92 #[.val (.long q0), .second, .val (.int p1), .val (.int p2), .val (.int p3), .val (.long (own_max (0 : Int64) ((p1.toInt64) + ((((p3 >>> ((1 : Int32) &&& 31)) &&& (3 : Int32)).toInt64) - (1 : Int64))))), .second, .val (.ref b3), .val (.int (1 : Int32)), .val (.int (own_a p1 (own_max (0 : Int64) ((p1.toInt64) + ((((p3 >>> ((1 : Int32) &&& 31)) &&& (3 : Int32)).toInt64) - (1 : Int64)))))), .val (.int (own_a p1 (own_max (0 : Int64) ((p1.toInt64) + ((((p3 >>> ((1 : Int32) &&& 31)) &&& (3 : Int32)).toInt64) - (1 : Int64))))))] [(.int (1 : Int32)), (.int (own_a p1 (own_max (0 : Int64) ((p1.toInt64) + ((((p3 >>> ((1 : Int32) &&& 31)) &&& (3 : Int32)).toInt64) - (1 : Int64))))))])
      refine own_st (fun t k => XS.icmpNo X7.here hx rfl (hb hby at_92) rfl (teq (own_a_yes c51_4 : (own_a p1 (own_max (0 : Int64) ((p1.toInt64) + ((((p3 >>> ((1 : Int32) &&& 31)) &&& (3 : Int32)).toInt64) - (1 : Int64))))) = (1 : Int32))).2 k) ?_
      show own_Go _ _ _ _ T7 (mkF m 95 #[.val (.long q0), .second, .val (.int p1), .val (.int p2), .val (.int p3), .val (.long (own_max (0 : Int64) ((p1.toInt64) + ((((p3 >>> ((1 : Int32) &&& 31)) &&& (3 : Int32)).toInt64) - (1 : Int64))))), .second, .val (.ref b3), .val (.int (1 : Int32)), .val (.int (own_a p1 (own_max (0 : Int64) ((p1.toInt64) + ((((p3 >>> ((1 : Int32) &&& 31)) &&& (3 : Int32)).toInt64) - (1 : Int64)))))), .val (.int (own_a p1 (own_max (0 : Int64) ((p1.toInt64) + ((((p3 >>> ((1 : Int32) &&& 31)) &&& (3 : Int32)).toInt64) - (1 : Int64))))))] [])
      refine own_st (fun t k => XS.iconst X7.here hx rfl (hb hby at_95) k) ?_
      show own_Go _ _ _ _ T7 (mkF m 96 #[.val (.long q0), .second, .val (.int p1), .val (.int p2), .val (.int p3), .val (.long (own_max (0 : Int64) ((p1.toInt64) + ((((p3 >>> ((1 : Int32) &&& 31)) &&& (3 : Int32)).toInt64) - (1 : Int64))))), .second, .val (.ref b3), .val (.int (1 : Int32)), .val (.int (own_a p1 (own_max (0 : Int64) ((p1.toInt64) + ((((p3 >>> ((1 : Int32) &&& 31)) &&& (3 : Int32)).toInt64) - (1 : Int64)))))), .val (.int (own_a p1 (own_max (0 : Int64) ((p1.toInt64) + ((((p3 >>> ((1 : Int32) &&& 31)) &&& (3 : Int32)).toInt64) - (1 : Int64))))))] [(.int (1 : Int32))])
      refine own_st (fun t k => XS.goto X7.here hx rfl (pc0 := 96) (pc' := 100) rfl (hb hby at_96) (by decide) (by decide) k) ?_
      show own_Go _ _ _ _ T7 (mkF m 100 #[.val (.long q0), .second, .val (.int p1), .val (.int p2), .val (.int p3), .val (.long (own_max (0 : Int64) ((p1.toInt64) + ((((p3 >>> ((1 : Int32) &&& 31)) &&& (3 : Int32)).toInt64) - (1 : Int64))))), .second, .val (.ref b3), .val (.int (1 : Int32)), .val (.int (own_a p1 (own_max (0 : Int64) ((p1.toInt64) + ((((p3 >>> ((1 : Int32) &&& 31)) &&& (3 : Int32)).toInt64) - (1 : Int64)))))), .val (.int (own_a p1 (own_max (0 : Int64) ((p1.toInt64) + ((((p3 >>> ((1 : Int32) &&& 31)) &&& (3 : Int32)).toInt64) - (1 : Int64))))))] [(.int (1 : Int32))])
      exact own_retN X7 hx hlk (t := .boolean) hrt (by simp) (hb hby at_100) ⟨rfl, N7⟩ (by decide) (by decide)
    ·
      refine own_st (fun t k => XS.ifYes X3.here hx rfl (pc0 := 51) (pc' := 58) rfl (hb hby at_51) rfl ((if0 _ _).trans (flt (fun q => c51_4 ((lw_lt _ _).mp q))).2.1) (by decide) (by decide) k) ?_
      show own_Go _ _ _ _ T3 (mkF m 58 #[.val (.long q0), .second, .val (.int p1), .val (.int p2), .val (.int p3), .val (.long (own_max (0 : Int64) ((p1.toInt64) + ((((p3 >>> ((1 : Int32) &&& 31)) &&& (3 : Int32)).toInt64) - (1 : Int64))))), .second, .val (.ref b3), .unset, .unset, .unset] [])
      refine own_st (fun t k => XS.iconst X3.here hx rfl (hb hby at_58) k) ?_
      show own_Go _ _ _ _ T3 (mkF m 59 #[.val (.long q0), .second, .val (.int p1), .val (.int p2), .val (.int p3), .val (.long (own_max (0 : Int64) ((p1.toInt64) + ((((p3 >>> ((1 : Int32) &&& 31)) &&& (3 : Int32)).toInt64) - (1 : Int64))))), .second, .val (.ref b3), .unset, .unset, .unset] [(.int (0 : Int32))])
      refine own_st (fun t k => XS.istore X3.here hx rfl (hb hby at_59) rfl (l' := #[.val (.long q0), .second, .val (.int p1), .val (.int p2), .val (.int p3), .val (.long (own_max (0 : Int64) ((p1.toInt64) + ((((p3 >>> ((1 : Int32) &&& 31)) &&& (3 : Int32)).toInt64) - (1 : Int64))))), .second, .val (.ref b3), .val (.int (0 : Int32)), .unset, .unset]) rfl k) ?_
      show own_Go _ _ _ _ T3 (mkF m 61 #[.val (.long q0), .second, .val (.int p1), .val (.int p2), .val (.int p3), .val (.long (own_max (0 : Int64) ((p1.toInt64) + ((((p3 >>> ((1 : Int32) &&& 31)) &&& (3 : Int32)).toInt64) - (1 : Int64))))), .second, .val (.ref b3), .val (.int (0 : Int32)), .unset, .unset] [])
      refine own_st (fun t k => XS.aload X3.here hx rfl (hb hby at_61) rfl rfl k) ?_
      show own_Go _ _ _ _ T3 (mkF m 63 #[.val (.long q0), .second, .val (.int p1), .val (.int p2), .val (.int p3), .val (.long (own_max (0 : Int64) ((p1.toInt64) + ((((p3 >>> ((1 : Int32) &&& 31)) &&& (3 : Int32)).toInt64) - (1 : Int64))))), .second, .val (.ref b3), .val (.int (0 : Int32)), .unset, .unset] [(.ref b3)])
      refine own_st (fun t k => XS.iloadN X3.here hx rfl (hb hby at_63) rfl k) ?_
      show own_Go _ _ _ _ T3 (mkF m 64 #[.val (.long q0), .second, .val (.int p1), .val (.int p2), .val (.int p3), .val (.long (own_max (0 : Int64) ((p1.toInt64) + ((((p3 >>> ((1 : Int32) &&& 31)) &&& (3 : Int32)).toInt64) - (1 : Int64))))), .second, .val (.ref b3), .val (.int (0 : Int32)), .unset, .unset] [(.int p1), (.ref b3)])
      refine own_st (fun t k => XS.iloadN X3.here hx rfl (hb hby at_64) rfl k) ?_
      show own_Go _ _ _ _ T3 (mkF m 65 #[.val (.long q0), .second, .val (.int p1), .val (.int p2), .val (.int p3), .val (.long (own_max (0 : Int64) ((p1.toInt64) + ((((p3 >>> ((1 : Int32) &&& 31)) &&& (3 : Int32)).toInt64) - (1 : Int64))))), .second, .val (.ref b3), .val (.int (0 : Int32)), .unset, .unset] [(.int p2), (.int p1), (.ref b3)])
      have K0_9 := (K0.trans K3 (all0))
      obtain ⟨cq8, kq8, q8a, q8b, q8c⟩ := isOf hZ rfl E3
      obtain ⟨_, _, ⟨T8, L8, k8, n8⟩, -, X8, ⟨Lc8, hQ8, l8, y8, z8⟩, st8⟩ := X3.virtualBack hx (y := (⟨"com/example/libhorn/libhorn/bias/ConstantRule", "allows", "(II)Z"⟩ : MethodName)) (z := (⟨"com/example/libhorn/libhorn/bias/ConstantRule", "allows", "(II)Z"⟩ : MethodName)) hown (mvT hZ (hw _ (List.mem_of_getElem? (i := 20) rfl))) (mvT hZ (hw _ (List.mem_of_getElem? (i := 21) rfl))) (notFace_of_selects (args := #[]) (mvT hZ (hw _ (List.mem_of_getElem? (i := 23) rfl)))) (mvT hZ (hw _ (List.mem_of_getElem? (i := 23) rfl))) (mvT hZ (hw _ (List.mem_of_getElem? (i := 22) rfl))) (by decide) (backOf (W := 0) (rm5 l Z a0 hw [] b3 p1 p2 (own_max (0 : Int64) ((p1.toInt64) + ((((p3 >>> ((1 : Int32) &&& 31)) &&& (3 : Int32)).toInt64) - (1 : Int64))))  T3.heap n0 (Nat.le_trans Z0 K0_9.1) G3_0 G3_1) hZ (hw _ (List.mem_of_getElem? (i := 24) rfl)) (hw _ (List.mem_of_getElem? (i := 6) rfl)) (by decide) (by decide)) q8a q8c (g := (mkF m 65 #[.val (.long q0), .second, .val (.int p1), .val (.int p2), .val (.int p3), .val (.long (own_max (0 : Int64) ((p1.toInt64) + ((((p3 >>> ((1 : Int32) &&& 31)) &&& (3 : Int32)).toInt64) - (1 : Int64))))), .second, .val (.ref b3), .val (.int (0 : Int32)), .unset, .unset] [(.int p2), (.int p1), (.ref b3)])) rfl (by rw [hml]; rfl) (Steps.refl _) (argsL := [(.int p1), (.int p2)]) (rest := []) (lenOf pd__28II_29Z rfl) rfl (by show 2 * 0 + _ ≤ _; exact Nat.le_of_eq rfl) (hb hby at_65) (fun _ _ => ⟨rfl, rfl, (by decide : 1 + 0 ≤ _), (by decide : 2 + 0 ≤ _)⟩)
      dsimp only [Pt.U, Pt.locs, Pt.cells, Pt.slots] at X8 l8 y8 z8 st8 hQ8
      subst l8 y8 z8
      obtain ⟨rfl, N8q, e8⟩ := hQ8
      have N8 := Fr.app N3 N8q
      refine own_tr st8 ?_
      show own_Go _ _ _ _ T8 (mkF m 68 #[.val (.long q0), .second, .val (.int p1), .val (.int p2), .val (.int p3), .val (.long (own_max (0 : Int64) ((p1.toInt64) + ((((p3 >>> ((1 : Int32) &&& 31)) &&& (3 : Int32)).toInt64) - (1 : Int64))))), .second, .val (.ref b3), .val (.int (0 : Int32)), .unset, .unset] [(.int (own_a p1 (own_max (0 : Int64) ((p1.toInt64) + ((((p3 >>> ((1 : Int32) &&& 31)) &&& (3 : Int32)).toInt64) - (1 : Int64))))))])
      refine own_st (fun t k => XS.istore X8.here hx rfl (hb hby at_68) rfl (l' := #[.val (.long q0), .second, .val (.int p1), .val (.int p2), .val (.int p3), .val (.long (own_max (0 : Int64) ((p1.toInt64) + ((((p3 >>> ((1 : Int32) &&& 31)) &&& (3 : Int32)).toInt64) - (1 : Int64))))), .second, .val (.ref b3), .val (.int (0 : Int32)), .val (.int (own_a p1 (own_max (0 : Int64) ((p1.toInt64) + ((((p3 >>> ((1 : Int32) &&& 31)) &&& (3 : Int32)).toInt64) - (1 : Int64)))))), .unset]) rfl k) ?_
      show own_Go _ _ _ _ T8 (mkF m 70 #[.val (.long q0), .second, .val (.int p1), .val (.int p2), .val (.int p3), .val (.long (own_max (0 : Int64) ((p1.toInt64) + ((((p3 >>> ((1 : Int32) &&& 31)) &&& (3 : Int32)).toInt64) - (1 : Int64))))), .second, .val (.ref b3), .val (.int (0 : Int32)), .val (.int (own_a p1 (own_max (0 : Int64) ((p1.toInt64) + ((((p3 >>> ((1 : Int32) &&& 31)) &&& (3 : Int32)).toInt64) - (1 : Int64)))))), .unset] [])
      refine own_st (fun t k => XS.aload X8.here hx rfl (hb hby at_70) rfl rfl k) ?_
      show own_Go _ _ _ _ T8 (mkF m 72 #[.val (.long q0), .second, .val (.int p1), .val (.int p2), .val (.int p3), .val (.long (own_max (0 : Int64) ((p1.toInt64) + ((((p3 >>> ((1 : Int32) &&& 31)) &&& (3 : Int32)).toInt64) - (1 : Int64))))), .second, .val (.ref b3), .val (.int (0 : Int32)), .val (.int (own_a p1 (own_max (0 : Int64) ((p1.toInt64) + ((((p3 >>> ((1 : Int32) &&& 31)) &&& (3 : Int32)).toInt64) - (1 : Int64)))))), .unset] [(.ref b3)])
      refine own_st (fun t k => XS.iloadN X8.here hx rfl (hb hby at_72) rfl k) ?_
      show own_Go _ _ _ _ T8 (mkF m 73 #[.val (.long q0), .second, .val (.int p1), .val (.int p2), .val (.int p3), .val (.long (own_max (0 : Int64) ((p1.toInt64) + ((((p3 >>> ((1 : Int32) &&& 31)) &&& (3 : Int32)).toInt64) - (1 : Int64))))), .second, .val (.ref b3), .val (.int (0 : Int32)), .val (.int (own_a p1 (own_max (0 : Int64) ((p1.toInt64) + ((((p3 >>> ((1 : Int32) &&& 31)) &&& (3 : Int32)).toInt64) - (1 : Int64)))))), .unset] [(.int p1), (.ref b3)])
      refine own_st (fun t k => XS.iloadN X8.here hx rfl (hb hby at_73) rfl k) ?_
      show own_Go _ _ _ _ T8 (mkF m 74 #[.val (.long q0), .second, .val (.int p1), .val (.int p2), .val (.int p3), .val (.long (own_max (0 : Int64) ((p1.toInt64) + ((((p3 >>> ((1 : Int32) &&& 31)) &&& (3 : Int32)).toInt64) - (1 : Int64))))), .second, .val (.ref b3), .val (.int (0 : Int32)), .val (.int (own_a p1 (own_max (0 : Int64) ((p1.toInt64) + ((((p3 >>> ((1 : Int32) &&& 31)) &&& (3 : Int32)).toInt64) - (1 : Int64)))))), .unset] [(.int p2), (.int p1), (.ref b3)])
      refine own_st (fun t k => XS.iconst X8.here hx rfl (hb hby at_74) k) ?_
      show own_Go _ _ _ _ T8 (mkF m 75 #[.val (.long q0), .second, .val (.int p1), .val (.int p2), .val (.int p3), .val (.long (own_max (0 : Int64) ((p1.toInt64) + ((((p3 >>> ((1 : Int32) &&& 31)) &&& (3 : Int32)).toInt64) - (1 : Int64))))), .second, .val (.ref b3), .val (.int (0 : Int32)), .val (.int (own_a p1 (own_max (0 : Int64) ((p1.toInt64) + ((((p3 >>> ((1 : Int32) &&& 31)) &&& (3 : Int32)).toInt64) - (1 : Int64)))))), .unset] [(.int (-1 : Int32)), (.int p2), (.int p1), (.ref b3)])
      refine own_st (fun t k => XS.ixor X8.here hx rfl (hb hby at_75) rfl k) ?_
      show own_Go _ _ _ _ T8 (mkF m 76 #[.val (.long q0), .second, .val (.int p1), .val (.int p2), .val (.int p3), .val (.long (own_max (0 : Int64) ((p1.toInt64) + ((((p3 >>> ((1 : Int32) &&& 31)) &&& (3 : Int32)).toInt64) - (1 : Int64))))), .second, .val (.ref b3), .val (.int (0 : Int32)), .val (.int (own_a p1 (own_max (0 : Int64) ((p1.toInt64) + ((((p3 >>> ((1 : Int32) &&& 31)) &&& (3 : Int32)).toInt64) - (1 : Int64)))))), .unset] [(.int (p2 ^^^ (-1 : Int32))), (.int p1), (.ref b3)])
      obtain ⟨cq10, kq10, q10a, q10b, q10c⟩ := isOf hZ e8 E3
      obtain ⟨_, _, ⟨T10, L10, k10, n10⟩, -, X10, ⟨Lc10, hQ10, l10, y10, z10⟩, st10⟩ := X8.virtualBack hx (y := (⟨"com/example/libhorn/libhorn/bias/ConstantRule", "allows", "(II)Z"⟩ : MethodName)) (z := (⟨"com/example/libhorn/libhorn/bias/ConstantRule", "allows", "(II)Z"⟩ : MethodName)) hown (mvT hZ (hw _ (List.mem_of_getElem? (i := 20) rfl))) (mvT hZ (hw _ (List.mem_of_getElem? (i := 21) rfl))) (notFace_of_selects (args := #[]) (mvT hZ (hw _ (List.mem_of_getElem? (i := 23) rfl)))) (mvT hZ (hw _ (List.mem_of_getElem? (i := 23) rfl))) (mvT hZ (hw _ (List.mem_of_getElem? (i := 22) rfl))) (by decide) (backOf (W := 0) (rm5 l Z a0 hw [] b3 p1 (p2 ^^^ (-1 : Int32)) (own_max (0 : Int64) ((p1.toInt64) + ((((p3 >>> ((1 : Int32) &&& 31)) &&& (3 : Int32)).toInt64) - (1 : Int64))))  T3.heap n0 (Nat.le_trans Z0 K0_9.1) G3_0 G3_1) hZ (hw _ (List.mem_of_getElem? (i := 24) rfl)) (hw _ (List.mem_of_getElem? (i := 6) rfl)) (by decide) (by decide)) q10a q10c (g := (mkF m 76 #[.val (.long q0), .second, .val (.int p1), .val (.int p2), .val (.int p3), .val (.long (own_max (0 : Int64) ((p1.toInt64) + ((((p3 >>> ((1 : Int32) &&& 31)) &&& (3 : Int32)).toInt64) - (1 : Int64))))), .second, .val (.ref b3), .val (.int (0 : Int32)), .val (.int (own_a p1 (own_max (0 : Int64) ((p1.toInt64) + ((((p3 >>> ((1 : Int32) &&& 31)) &&& (3 : Int32)).toInt64) - (1 : Int64)))))), .unset] [(.int (p2 ^^^ (-1 : Int32))), (.int p1), (.ref b3)])) rfl (by rw [hml]; rfl) (Steps.refl _) (argsL := [(.int p1), (.int (p2 ^^^ (-1 : Int32)))]) (rest := []) (lenOf pd__28II_29Z rfl) rfl (by show 2 * 0 + _ ≤ _; exact Nat.le_of_eq rfl) (hb hby at_76) (fun _ _ => ⟨rfl, e8, (by decide : 1 + 0 ≤ _), (by decide : 2 + 0 ≤ _)⟩)
      dsimp only [Pt.U, Pt.locs, Pt.cells, Pt.slots] at X10 l10 y10 z10 st10 hQ10
      subst l10 y10 z10
      obtain ⟨rfl, N10q, e10⟩ := hQ10
      have N10 := Fr.app N8 N10q
      refine own_tr st10 ?_
      show own_Go _ _ _ _ T10 (mkF m 79 #[.val (.long q0), .second, .val (.int p1), .val (.int p2), .val (.int p3), .val (.long (own_max (0 : Int64) ((p1.toInt64) + ((((p3 >>> ((1 : Int32) &&& 31)) &&& (3 : Int32)).toInt64) - (1 : Int64))))), .second, .val (.ref b3), .val (.int (0 : Int32)), .val (.int (own_a p1 (own_max (0 : Int64) ((p1.toInt64) + ((((p3 >>> ((1 : Int32) &&& 31)) &&& (3 : Int32)).toInt64) - (1 : Int64)))))), .unset] [(.int (own_a p1 (own_max (0 : Int64) ((p1.toInt64) + ((((p3 >>> ((1 : Int32) &&& 31)) &&& (3 : Int32)).toInt64) - (1 : Int64))))))])
      refine own_st (fun t k => XS.istore X10.here hx rfl (hb hby at_79) rfl (l' := #[.val (.long q0), .second, .val (.int p1), .val (.int p2), .val (.int p3), .val (.long (own_max (0 : Int64) ((p1.toInt64) + ((((p3 >>> ((1 : Int32) &&& 31)) &&& (3 : Int32)).toInt64) - (1 : Int64))))), .second, .val (.ref b3), .val (.int (0 : Int32)), .val (.int (own_a p1 (own_max (0 : Int64) ((p1.toInt64) + ((((p3 >>> ((1 : Int32) &&& 31)) &&& (3 : Int32)).toInt64) - (1 : Int64)))))), .val (.int (own_a p1 (own_max (0 : Int64) ((p1.toInt64) + ((((p3 >>> ((1 : Int32) &&& 31)) &&& (3 : Int32)).toInt64) - (1 : Int64))))))]) rfl k) ?_
      show own_Go _ _ _ _ T10 (mkF m 81 #[.val (.long q0), .second, .val (.int p1), .val (.int p2), .val (.int p3), .val (.long (own_max (0 : Int64) ((p1.toInt64) + ((((p3 >>> ((1 : Int32) &&& 31)) &&& (3 : Int32)).toInt64) - (1 : Int64))))), .second, .val (.ref b3), .val (.int (0 : Int32)), .val (.int (own_a p1 (own_max (0 : Int64) ((p1.toInt64) + ((((p3 >>> ((1 : Int32) &&& 31)) &&& (3 : Int32)).toInt64) - (1 : Int64)))))), .val (.int (own_a p1 (own_max (0 : Int64) ((p1.toInt64) + ((((p3 >>> ((1 : Int32) &&& 31)) &&& (3 : Int32)).toInt64) - (1 : Int64))))))] [])
      refine own_st (fun t k => XS.iload X10.here hx rfl (hb hby at_81) rfl k) ?_
      show own_Go _ _ _ _ T10 (mkF m 83 #[.val (.long q0), .second, .val (.int p1), .val (.int p2), .val (.int p3), .val (.long (own_max (0 : Int64) ((p1.toInt64) + ((((p3 >>> ((1 : Int32) &&& 31)) &&& (3 : Int32)).toInt64) - (1 : Int64))))), .second, .val (.ref b3), .val (.int (0 : Int32)), .val (.int (own_a p1 (own_max (0 : Int64) ((p1.toInt64) + ((((p3 >>> ((1 : Int32) &&& 31)) &&& (3 : Int32)).toInt64) - (1 : Int64)))))), .val (.int (own_a p1 (own_max (0 : Int64) ((p1.toInt64) + ((((p3 >>> ((1 : Int32) &&& 31)) &&& (3 : Int32)).toInt64) - (1 : Int64))))))] [(.int (own_a p1 (own_max (0 : Int64) ((p1.toInt64) + ((((p3 >>> ((1 : Int32) &&& 31)) &&& (3 : Int32)).toInt64) - (1 : Int64))))))])
      refine own_st (fun t k => XS.iload X10.here hx rfl (hb hby at_83) rfl k) ?_
      show own_Go _ _ _ _ T10 (mkF m 85 #[.val (.long q0), .second, .val (.int p1), .val (.int p2), .val (.int p3), .val (.long (own_max (0 : Int64) ((p1.toInt64) + ((((p3 >>> ((1 : Int32) &&& 31)) &&& (3 : Int32)).toInt64) - (1 : Int64))))), .second, .val (.ref b3), .val (.int (0 : Int32)), .val (.int (own_a p1 (own_max (0 : Int64) ((p1.toInt64) + ((((p3 >>> ((1 : Int32) &&& 31)) &&& (3 : Int32)).toInt64) - (1 : Int64)))))), .val (.int (own_a p1 (own_max (0 : Int64) ((p1.toInt64) + ((((p3 >>> ((1 : Int32) &&& 31)) &&& (3 : Int32)).toInt64) - (1 : Int64))))))] [(.int (0 : Int32)), (.int (own_a p1 (own_max (0 : Int64) ((p1.toInt64) + ((((p3 >>> ((1 : Int32) &&& 31)) &&& (3 : Int32)).toInt64) - (1 : Int64))))))])
      refine own_st (fun t k => XS.icmpNo X10.here hx rfl (hb hby at_85) rfl (teq (own_a_no c51_4 : (own_a p1 (own_max (0 : Int64) ((p1.toInt64) + ((((p3 >>> ((1 : Int32) &&& 31)) &&& (3 : Int32)).toInt64) - (1 : Int64))))) = (0 : Int32))).2 k) ?_
      show own_Go _ _ _ _ T10 (mkF m 88 #[.val (.long q0), .second, .val (.int p1), .val (.int p2), .val (.int p3), .val (.long (own_max (0 : Int64) ((p1.toInt64) + ((((p3 >>> ((1 : Int32) &&& 31)) &&& (3 : Int32)).toInt64) - (1 : Int64))))), .second, .val (.ref b3), .val (.int (0 : Int32)), .val (.int (own_a p1 (own_max (0 : Int64) ((p1.toInt64) + ((((p3 >>> ((1 : Int32) &&& 31)) &&& (3 : Int32)).toInt64) - (1 : Int64)))))), .val (.int (own_a p1 (own_max (0 : Int64) ((p1.toInt64) + ((((p3 >>> ((1 : Int32) &&& 31)) &&& (3 : Int32)).toInt64) - (1 : Int64))))))] [])
      refine own_st (fun t k => XS.iload X10.here hx rfl (hb hby at_88) rfl k) ?_
      show own_Go _ _ _ _ T10 (mkF m 90 #[.val (.long q0), .second, .val (.int p1), .val (.int p2), .val (.int p3), .val (.long (own_max (0 : Int64) ((p1.toInt64) + ((((p3 >>> ((1 : Int32) &&& 31)) &&& (3 : Int32)).toInt64) - (1 : Int64))))), .second, .val (.ref b3), .val (.int (0 : Int32)), .val (.int (own_a p1 (own_max (0 : Int64) ((p1.toInt64) + ((((p3 >>> ((1 : Int32) &&& 31)) &&& (3 : Int32)).toInt64) - (1 : Int64)))))), .val (.int (own_a p1 (own_max (0 : Int64) ((p1.toInt64) + ((((p3 >>> ((1 : Int32) &&& 31)) &&& (3 : Int32)).toInt64) - (1 : Int64))))))] [(.int (own_a p1 (own_max (0 : Int64) ((p1.toInt64) + ((((p3 >>> ((1 : Int32) &&& 31)) &&& (3 : Int32)).toInt64) - (1 : Int64))))))])
      refine own_st (fun t k => XS.iload X10.here hx rfl (hb hby at_90) rfl k) ?_
      show own_Go _ _ _ _ T10 (mkF m 92 #[.val (.long q0), .second, .val (.int p1), .val (.int p2), .val (.int p3), .val (.long (own_max (0 : Int64) ((p1.toInt64) + ((((p3 >>> ((1 : Int32) &&& 31)) &&& (3 : Int32)).toInt64) - (1 : Int64))))), .second, .val (.ref b3), .val (.int (0 : Int32)), .val (.int (own_a p1 (own_max (0 : Int64) ((p1.toInt64) + ((((p3 >>> ((1 : Int32) &&& 31)) &&& (3 : Int32)).toInt64) - (1 : Int64)))))), .val (.int (own_a p1 (own_max (0 : Int64) ((p1.toInt64) + ((((p3 >>> ((1 : Int32) &&& 31)) &&& (3 : Int32)).toInt64) - (1 : Int64))))))] [(.int (0 : Int32)), (.int (own_a p1 (own_max (0 : Int64) ((p1.toInt64) + ((((p3 >>> ((1 : Int32) &&& 31)) &&& (3 : Int32)).toInt64) - (1 : Int64))))))])
      refine own_st (fun t k => XS.icmpNo X10.here hx rfl (hb hby at_92) rfl (teq (own_a_no c51_4 : (own_a p1 (own_max (0 : Int64) ((p1.toInt64) + ((((p3 >>> ((1 : Int32) &&& 31)) &&& (3 : Int32)).toInt64) - (1 : Int64))))) = (0 : Int32))).2 k) ?_
      show own_Go _ _ _ _ T10 (mkF m 95 #[.val (.long q0), .second, .val (.int p1), .val (.int p2), .val (.int p3), .val (.long (own_max (0 : Int64) ((p1.toInt64) + ((((p3 >>> ((1 : Int32) &&& 31)) &&& (3 : Int32)).toInt64) - (1 : Int64))))), .second, .val (.ref b3), .val (.int (0 : Int32)), .val (.int (own_a p1 (own_max (0 : Int64) ((p1.toInt64) + ((((p3 >>> ((1 : Int32) &&& 31)) &&& (3 : Int32)).toInt64) - (1 : Int64)))))), .val (.int (own_a p1 (own_max (0 : Int64) ((p1.toInt64) + ((((p3 >>> ((1 : Int32) &&& 31)) &&& (3 : Int32)).toInt64) - (1 : Int64))))))] [])
      refine own_st (fun t k => XS.iconst X10.here hx rfl (hb hby at_95) k) ?_
      show own_Go _ _ _ _ T10 (mkF m 96 #[.val (.long q0), .second, .val (.int p1), .val (.int p2), .val (.int p3), .val (.long (own_max (0 : Int64) ((p1.toInt64) + ((((p3 >>> ((1 : Int32) &&& 31)) &&& (3 : Int32)).toInt64) - (1 : Int64))))), .second, .val (.ref b3), .val (.int (0 : Int32)), .val (.int (own_a p1 (own_max (0 : Int64) ((p1.toInt64) + ((((p3 >>> ((1 : Int32) &&& 31)) &&& (3 : Int32)).toInt64) - (1 : Int64)))))), .val (.int (own_a p1 (own_max (0 : Int64) ((p1.toInt64) + ((((p3 >>> ((1 : Int32) &&& 31)) &&& (3 : Int32)).toInt64) - (1 : Int64))))))] [(.int (1 : Int32))])
      refine own_st (fun t k => XS.goto X10.here hx rfl (pc0 := 96) (pc' := 100) rfl (hb hby at_96) (by decide) (by decide) k) ?_
      show own_Go _ _ _ _ T10 (mkF m 100 #[.val (.long q0), .second, .val (.int p1), .val (.int p2), .val (.int p3), .val (.long (own_max (0 : Int64) ((p1.toInt64) + ((((p3 >>> ((1 : Int32) &&& 31)) &&& (3 : Int32)).toInt64) - (1 : Int64))))), .second, .val (.ref b3), .val (.int (0 : Int32)), .val (.int (own_a p1 (own_max (0 : Int64) ((p1.toInt64) + ((((p3 >>> ((1 : Int32) &&& 31)) &&& (3 : Int32)).toInt64) - (1 : Int64)))))), .val (.int (own_a p1 (own_max (0 : Int64) ((p1.toInt64) + ((((p3 >>> ((1 : Int32) &&& 31)) &&& (3 : Int32)).toInt64) - (1 : Int64))))))] [(.int (1 : Int32))])
      exact own_retN X10 hx hlk (t := .boolean) hrt (by simp) (hb hby at_100) ⟨rfl, N10⟩ (by decide) (by decide)
  ·
    refine own_st (fun t k => XS.ifNo X0.here hx rfl (hb hby at_4) rfl ((if0 _ _).trans (feq c4_1).1) k) ?_
    show own_Go _ _ _ _ s₁ (mkF m 7 #[.val (.long q0), .second, .val (.int p1), .val (.int p2), .val (.int p3), .unset, .unset, .unset, .unset, .unset, .unset] [])
    refine own_st (fun t k => XS.lloadN X0.here hx rfl (hb hby at_7) rfl k) ?_
    show own_Go _ _ _ _ s₁ (mkF m 8 #[.val (.long q0), .second, .val (.int p1), .val (.int p2), .val (.int p3), .unset, .unset, .unset, .unset, .unset, .unset] [(.long q0)])
    refine own_st (X0.ldc2Long hx hown (mvT hZ (hw _ (List.mem_of_getElem? (i := 25) rfl))) (g := (mkF m 8 #[.val (.long q0), .second, .val (.int p1), .val (.int p2), .val (.int p3), .unset, .unset, .unset, .unset, .unset, .unset] [(.long q0)])) rfl (hb hby at_8)) ?_
    show own_Go _ _ _ _ s₁ (mkF m 11 #[.val (.long q0), .second, .val (.int p1), .val (.int p2), .val (.int p3), .unset, .unset, .unset, .unset, .unset, .unset] [(.long (9223372036854775807 : Int64)), (.long q0)])
    refine own_st (fun t k => XS.land X0.here hx rfl (hb hby at_11) rfl k) ?_
    show own_Go _ _ _ _ s₁ (mkF m 12 #[.val (.long q0), .second, .val (.int p1), .val (.int p2), .val (.int p3), .unset, .unset, .unset, .unset, .unset, .unset] [(.long (q0 &&& (9223372036854775807 : Int64)))])
    refine own_st (fun t k => XS.lstore X0.here hx rfl (hb hby at_12) rfl (l' := #[.val (.long q0), .second, .val (.int p1), .val (.int p2), .val (.int p3), .val (.long (q0 &&& (9223372036854775807 : Int64))), .second, .unset, .unset, .unset, .unset]) rfl k) ?_
    show own_Go _ _ _ _ s₁ (mkF m 14 #[.val (.long q0), .second, .val (.int p1), .val (.int p2), .val (.int p3), .val (.long (q0 &&& (9223372036854775807 : Int64))), .second, .unset, .unset, .unset, .unset] [])
    refine own_st (fun t k => XS.goto X0.here hx rfl (pc0 := 14) (pc' := 39) rfl (hb hby at_14) (by decide) (by decide) k) ?_
    show own_Go _ _ _ _ s₁ (mkF m 39 #[.val (.long q0), .second, .val (.int p1), .val (.int p2), .val (.int p3), .val (.long (q0 &&& (9223372036854775807 : Int64))), .second, .unset, .unset, .unset, .unset] [])
    refine own_st (fun t k => XS.lload X0.here hx rfl (hb hby at_39) rfl k) ?_
    show own_Go _ _ _ _ s₁ (mkF m 41 #[.val (.long q0), .second, .val (.int p1), .val (.int p2), .val (.int p3), .val (.long (q0 &&& (9223372036854775807 : Int64))), .second, .unset, .unset, .unset, .unset] [(.long (q0 &&& (9223372036854775807 : Int64)))])
    obtain ⟨_, _, ⟨T11, L11, k11, n11⟩, -, X11, ⟨Lc11, hQ11, l11, y11, z11⟩, st11⟩ := Jvm.LawKit.callS X0 hx (y := (⟨"com/example/libhorn/libhorn/bias/ConstantRule", "fewerThan", "(J)Lcom/example/libhorn/libhorn/bias/ConstantRule;"⟩ : MethodName)) hown (mvT hZ (hw _ (List.mem_of_getElem? (i := 4) rfl))) (mvT hZ (hw _ (List.mem_of_getElem? (i := 5) rfl))) (mvT hZ (hw _ (List.mem_of_getElem? (i := 6) rfl))) (mvT hZ (hw _ (List.mem_of_getElem? (i := 7) rfl))) (by decide) (backOf (W := 0) (rm2 l Z a0 hw [] (q0 &&& (9223372036854775807 : Int64))  h0 n0 Z0 (own_pos _)) hZ (hw _ (List.mem_of_getElem? (i := 7) rfl)) (hw _ (List.mem_of_getElem? (i := 6) rfl)) (by decide) (by decide)) (g := (mkF m 41 #[.val (.long q0), .second, .val (.int p1), .val (.int p2), .val (.int p3), .val (.long (q0 &&& (9223372036854775807 : Int64))), .second, .unset, .unset, .unset, .unset] [(.long (q0 &&& (9223372036854775807 : Int64)))])) rfl (by rw [hml]; rfl) (argsL := [(.long (q0 &&& (9223372036854775807 : Int64)))]) (rest := []) (lenOf pd_153407 rfl) rfl (by show 2 * 0 + _ ≤ _; exact Nat.le_of_eq rfl) (hb hby at_41) (fun _ _ => ⟨rfl, e0, (by decide : 0 + 1 ≤ _), (by decide : 0 + 2 ≤ _)⟩)
    dsimp only [Pt.U, Pt.locs, Pt.cells, Pt.slots] at X11 l11 y11 z11 st11 hQ11
    subst l11 y11 z11
    obtain ⟨b11, rfl, N11q, K11, sy11, E11, G11_0, G11_1⟩ := hQ11
    have sz_b11 : h0.size ≤ b11 := Nat.le_trans K0.1 sy11
    have g_b11 : n0 ≤ b11 := Nat.le_trans Z0 sz_b11
    have N11 := Fr.app N0 N11q
    refine own_st st11 ?_
    show own_Go _ _ _ _ T11 (mkF m 44 #[.val (.long q0), .second, .val (.int p1), .val (.int p2), .val (.int p3), .val (.long (q0 &&& (9223372036854775807 : Int64))), .second, .unset, .unset, .unset, .unset] [(.ref b11)])
    refine own_st (fun t k => XS.astore X11.here hx rfl (hb hby at_44) rfl rfl (l' := #[.val (.long q0), .second, .val (.int p1), .val (.int p2), .val (.int p3), .val (.long (q0 &&& (9223372036854775807 : Int64))), .second, .val (.ref b11), .unset, .unset, .unset]) rfl k) ?_
    show own_Go _ _ _ _ T11 (mkF m 46 #[.val (.long q0), .second, .val (.int p1), .val (.int p2), .val (.int p3), .val (.long (q0 &&& (9223372036854775807 : Int64))), .second, .val (.ref b11), .unset, .unset, .unset] [])
    refine own_st (fun t k => XS.iloadN X11.here hx rfl (hb hby at_46) rfl k) ?_
    show own_Go _ _ _ _ T11 (mkF m 47 #[.val (.long q0), .second, .val (.int p1), .val (.int p2), .val (.int p3), .val (.long (q0 &&& (9223372036854775807 : Int64))), .second, .val (.ref b11), .unset, .unset, .unset] [(.int p1)])
    refine own_st (fun t k => XS.i2l X11.here hx rfl (hb hby at_47) rfl k) ?_
    show own_Go _ _ _ _ T11 (mkF m 48 #[.val (.long q0), .second, .val (.int p1), .val (.int p2), .val (.int p3), .val (.long (q0 &&& (9223372036854775807 : Int64))), .second, .val (.ref b11), .unset, .unset, .unset] [(.long (p1.toInt64))])
    refine own_st (fun t k => XS.lload X11.here hx rfl (hb hby at_48) rfl k) ?_
    show own_Go _ _ _ _ T11 (mkF m 50 #[.val (.long q0), .second, .val (.int p1), .val (.int p2), .val (.int p3), .val (.long (q0 &&& (9223372036854775807 : Int64))), .second, .val (.ref b11), .unset, .unset, .unset] [(.long (q0 &&& (9223372036854775807 : Int64))), (.long (p1.toInt64))])
    refine own_st (fun t k => XS.lcmp X11.here hx rfl (hb hby at_50) rfl k) ?_
    show own_Go _ _ _ _ T11 (mkF m 51 #[.val (.long q0), .second, .val (.int p1), .val (.int p2), .val (.int p3), .val (.long (q0 &&& (9223372036854775807 : Int64))), .second, .val (.ref b11), .unset, .unset, .unset] [(.int (lcmpW (p1.toInt64) (q0 &&& (9223372036854775807 : Int64))))])
    by_cases c51_12 : (p1.toInt64) < (q0 &&& (9223372036854775807 : Int64))
    ·
      refine own_st (fun t k => XS.ifNo X11.here hx rfl (hb hby at_51) rfl ((if0 _ _).trans (tlt ((lw_lt _ _).mpr c51_12)).2.1) k) ?_
      show own_Go _ _ _ _ T11 (mkF m 54 #[.val (.long q0), .second, .val (.int p1), .val (.int p2), .val (.int p3), .val (.long (q0 &&& (9223372036854775807 : Int64))), .second, .val (.ref b11), .unset, .unset, .unset] [])
      refine own_st (fun t k => XS.iconst X11.here hx rfl (hb hby at_54) k) ?_
      show own_Go _ _ _ _ T11 (mkF m 55 #[.val (.long q0), .second, .val (.int p1), .val (.int p2), .val (.int p3), .val (.long (q0 &&& (9223372036854775807 : Int64))), .second, .val (.ref b11), .unset, .unset, .unset] [(.int (1 : Int32))])
      refine own_st (fun t k => XS.goto X11.here hx rfl (pc0 := 55) (pc' := 59) rfl (hb hby at_55) (by decide) (by decide) k) ?_
      show own_Go _ _ _ _ T11 (mkF m 59 #[.val (.long q0), .second, .val (.int p1), .val (.int p2), .val (.int p3), .val (.long (q0 &&& (9223372036854775807 : Int64))), .second, .val (.ref b11), .unset, .unset, .unset] [(.int (1 : Int32))])
      refine own_st (fun t k => XS.istore X11.here hx rfl (hb hby at_59) rfl (l' := #[.val (.long q0), .second, .val (.int p1), .val (.int p2), .val (.int p3), .val (.long (q0 &&& (9223372036854775807 : Int64))), .second, .val (.ref b11), .val (.int (1 : Int32)), .unset, .unset]) rfl k) ?_
      show own_Go _ _ _ _ T11 (mkF m 61 #[.val (.long q0), .second, .val (.int p1), .val (.int p2), .val (.int p3), .val (.long (q0 &&& (9223372036854775807 : Int64))), .second, .val (.ref b11), .val (.int (1 : Int32)), .unset, .unset] [])
      refine own_st (fun t k => XS.aload X11.here hx rfl (hb hby at_61) rfl rfl k) ?_
      show own_Go _ _ _ _ T11 (mkF m 63 #[.val (.long q0), .second, .val (.int p1), .val (.int p2), .val (.int p3), .val (.long (q0 &&& (9223372036854775807 : Int64))), .second, .val (.ref b11), .val (.int (1 : Int32)), .unset, .unset] [(.ref b11)])
      refine own_st (fun t k => XS.iloadN X11.here hx rfl (hb hby at_63) rfl k) ?_
      show own_Go _ _ _ _ T11 (mkF m 64 #[.val (.long q0), .second, .val (.int p1), .val (.int p2), .val (.int p3), .val (.long (q0 &&& (9223372036854775807 : Int64))), .second, .val (.ref b11), .val (.int (1 : Int32)), .unset, .unset] [(.int p1), (.ref b11)])
      refine own_st (fun t k => XS.iloadN X11.here hx rfl (hb hby at_64) rfl k) ?_
      show own_Go _ _ _ _ T11 (mkF m 65 #[.val (.long q0), .second, .val (.int p1), .val (.int p2), .val (.int p3), .val (.long (q0 &&& (9223372036854775807 : Int64))), .second, .val (.ref b11), .val (.int (1 : Int32)), .unset, .unset] [(.int p2), (.int p1), (.ref b11)])
      have K0_14 := (K0.trans K11 (all0))
      obtain ⟨cq13, kq13, q13a, q13b, q13c⟩ := isOf hZ rfl E11
      obtain ⟨_, _, ⟨T13, L13, k13, n13⟩, -, X13, ⟨Lc13, hQ13, l13, y13, z13⟩, st13⟩ := X11.virtualBack hx (y := (⟨"com/example/libhorn/libhorn/bias/ConstantRule", "allows", "(II)Z"⟩ : MethodName)) (z := (⟨"com/example/libhorn/libhorn/bias/ConstantRule", "allows", "(II)Z"⟩ : MethodName)) hown (mvT hZ (hw _ (List.mem_of_getElem? (i := 20) rfl))) (mvT hZ (hw _ (List.mem_of_getElem? (i := 21) rfl))) (notFace_of_selects (args := #[]) (mvT hZ (hw _ (List.mem_of_getElem? (i := 23) rfl)))) (mvT hZ (hw _ (List.mem_of_getElem? (i := 23) rfl))) (mvT hZ (hw _ (List.mem_of_getElem? (i := 22) rfl))) (by decide) (backOf (W := 0) (rm5 l Z a0 hw [] b11 p1 p2 (q0 &&& (9223372036854775807 : Int64))  T11.heap n0 (Nat.le_trans Z0 K0_14.1) G11_0 G11_1) hZ (hw _ (List.mem_of_getElem? (i := 24) rfl)) (hw _ (List.mem_of_getElem? (i := 6) rfl)) (by decide) (by decide)) q13a q13c (g := (mkF m 65 #[.val (.long q0), .second, .val (.int p1), .val (.int p2), .val (.int p3), .val (.long (q0 &&& (9223372036854775807 : Int64))), .second, .val (.ref b11), .val (.int (1 : Int32)), .unset, .unset] [(.int p2), (.int p1), (.ref b11)])) rfl (by rw [hml]; rfl) (Steps.refl _) (argsL := [(.int p1), (.int p2)]) (rest := []) (lenOf pd__28II_29Z rfl) rfl (by show 2 * 0 + _ ≤ _; exact Nat.le_of_eq rfl) (hb hby at_65) (fun _ _ => ⟨rfl, rfl, (by decide : 1 + 0 ≤ _), (by decide : 2 + 0 ≤ _)⟩)
      dsimp only [Pt.U, Pt.locs, Pt.cells, Pt.slots] at X13 l13 y13 z13 st13 hQ13
      subst l13 y13 z13
      obtain ⟨rfl, N13q, e13⟩ := hQ13
      have N13 := Fr.app N11 N13q
      refine own_tr st13 ?_
      show own_Go _ _ _ _ T13 (mkF m 68 #[.val (.long q0), .second, .val (.int p1), .val (.int p2), .val (.int p3), .val (.long (q0 &&& (9223372036854775807 : Int64))), .second, .val (.ref b11), .val (.int (1 : Int32)), .unset, .unset] [(.int (own_a p1 (q0 &&& (9223372036854775807 : Int64))))])
      refine own_st (fun t k => XS.istore X13.here hx rfl (hb hby at_68) rfl (l' := #[.val (.long q0), .second, .val (.int p1), .val (.int p2), .val (.int p3), .val (.long (q0 &&& (9223372036854775807 : Int64))), .second, .val (.ref b11), .val (.int (1 : Int32)), .val (.int (own_a p1 (q0 &&& (9223372036854775807 : Int64)))), .unset]) rfl k) ?_
      show own_Go _ _ _ _ T13 (mkF m 70 #[.val (.long q0), .second, .val (.int p1), .val (.int p2), .val (.int p3), .val (.long (q0 &&& (9223372036854775807 : Int64))), .second, .val (.ref b11), .val (.int (1 : Int32)), .val (.int (own_a p1 (q0 &&& (9223372036854775807 : Int64)))), .unset] [])
      refine own_st (fun t k => XS.aload X13.here hx rfl (hb hby at_70) rfl rfl k) ?_
      show own_Go _ _ _ _ T13 (mkF m 72 #[.val (.long q0), .second, .val (.int p1), .val (.int p2), .val (.int p3), .val (.long (q0 &&& (9223372036854775807 : Int64))), .second, .val (.ref b11), .val (.int (1 : Int32)), .val (.int (own_a p1 (q0 &&& (9223372036854775807 : Int64)))), .unset] [(.ref b11)])
      refine own_st (fun t k => XS.iloadN X13.here hx rfl (hb hby at_72) rfl k) ?_
      show own_Go _ _ _ _ T13 (mkF m 73 #[.val (.long q0), .second, .val (.int p1), .val (.int p2), .val (.int p3), .val (.long (q0 &&& (9223372036854775807 : Int64))), .second, .val (.ref b11), .val (.int (1 : Int32)), .val (.int (own_a p1 (q0 &&& (9223372036854775807 : Int64)))), .unset] [(.int p1), (.ref b11)])
      refine own_st (fun t k => XS.iloadN X13.here hx rfl (hb hby at_73) rfl k) ?_
      show own_Go _ _ _ _ T13 (mkF m 74 #[.val (.long q0), .second, .val (.int p1), .val (.int p2), .val (.int p3), .val (.long (q0 &&& (9223372036854775807 : Int64))), .second, .val (.ref b11), .val (.int (1 : Int32)), .val (.int (own_a p1 (q0 &&& (9223372036854775807 : Int64)))), .unset] [(.int p2), (.int p1), (.ref b11)])
      refine own_st (fun t k => XS.iconst X13.here hx rfl (hb hby at_74) k) ?_
      show own_Go _ _ _ _ T13 (mkF m 75 #[.val (.long q0), .second, .val (.int p1), .val (.int p2), .val (.int p3), .val (.long (q0 &&& (9223372036854775807 : Int64))), .second, .val (.ref b11), .val (.int (1 : Int32)), .val (.int (own_a p1 (q0 &&& (9223372036854775807 : Int64)))), .unset] [(.int (-1 : Int32)), (.int p2), (.int p1), (.ref b11)])
      refine own_st (fun t k => XS.ixor X13.here hx rfl (hb hby at_75) rfl k) ?_
      show own_Go _ _ _ _ T13 (mkF m 76 #[.val (.long q0), .second, .val (.int p1), .val (.int p2), .val (.int p3), .val (.long (q0 &&& (9223372036854775807 : Int64))), .second, .val (.ref b11), .val (.int (1 : Int32)), .val (.int (own_a p1 (q0 &&& (9223372036854775807 : Int64)))), .unset] [(.int (p2 ^^^ (-1 : Int32))), (.int p1), (.ref b11)])
      obtain ⟨cq15, kq15, q15a, q15b, q15c⟩ := isOf hZ e13 E11
      obtain ⟨_, _, ⟨T15, L15, k15, n15⟩, -, X15, ⟨Lc15, hQ15, l15, y15, z15⟩, st15⟩ := X13.virtualBack hx (y := (⟨"com/example/libhorn/libhorn/bias/ConstantRule", "allows", "(II)Z"⟩ : MethodName)) (z := (⟨"com/example/libhorn/libhorn/bias/ConstantRule", "allows", "(II)Z"⟩ : MethodName)) hown (mvT hZ (hw _ (List.mem_of_getElem? (i := 20) rfl))) (mvT hZ (hw _ (List.mem_of_getElem? (i := 21) rfl))) (notFace_of_selects (args := #[]) (mvT hZ (hw _ (List.mem_of_getElem? (i := 23) rfl)))) (mvT hZ (hw _ (List.mem_of_getElem? (i := 23) rfl))) (mvT hZ (hw _ (List.mem_of_getElem? (i := 22) rfl))) (by decide) (backOf (W := 0) (rm5 l Z a0 hw [] b11 p1 (p2 ^^^ (-1 : Int32)) (q0 &&& (9223372036854775807 : Int64))  T11.heap n0 (Nat.le_trans Z0 K0_14.1) G11_0 G11_1) hZ (hw _ (List.mem_of_getElem? (i := 24) rfl)) (hw _ (List.mem_of_getElem? (i := 6) rfl)) (by decide) (by decide)) q15a q15c (g := (mkF m 76 #[.val (.long q0), .second, .val (.int p1), .val (.int p2), .val (.int p3), .val (.long (q0 &&& (9223372036854775807 : Int64))), .second, .val (.ref b11), .val (.int (1 : Int32)), .val (.int (own_a p1 (q0 &&& (9223372036854775807 : Int64)))), .unset] [(.int (p2 ^^^ (-1 : Int32))), (.int p1), (.ref b11)])) rfl (by rw [hml]; rfl) (Steps.refl _) (argsL := [(.int p1), (.int (p2 ^^^ (-1 : Int32)))]) (rest := []) (lenOf pd__28II_29Z rfl) rfl (by show 2 * 0 + _ ≤ _; exact Nat.le_of_eq rfl) (hb hby at_76) (fun _ _ => ⟨rfl, e13, (by decide : 1 + 0 ≤ _), (by decide : 2 + 0 ≤ _)⟩)
      dsimp only [Pt.U, Pt.locs, Pt.cells, Pt.slots] at X15 l15 y15 z15 st15 hQ15
      subst l15 y15 z15
      obtain ⟨rfl, N15q, e15⟩ := hQ15
      have N15 := Fr.app N13 N15q
      refine own_tr st15 ?_
      show own_Go _ _ _ _ T15 (mkF m 79 #[.val (.long q0), .second, .val (.int p1), .val (.int p2), .val (.int p3), .val (.long (q0 &&& (9223372036854775807 : Int64))), .second, .val (.ref b11), .val (.int (1 : Int32)), .val (.int (own_a p1 (q0 &&& (9223372036854775807 : Int64)))), .unset] [(.int (own_a p1 (q0 &&& (9223372036854775807 : Int64))))])
      refine own_st (fun t k => XS.istore X15.here hx rfl (hb hby at_79) rfl (l' := #[.val (.long q0), .second, .val (.int p1), .val (.int p2), .val (.int p3), .val (.long (q0 &&& (9223372036854775807 : Int64))), .second, .val (.ref b11), .val (.int (1 : Int32)), .val (.int (own_a p1 (q0 &&& (9223372036854775807 : Int64)))), .val (.int (own_a p1 (q0 &&& (9223372036854775807 : Int64))))]) rfl k) ?_
      show own_Go _ _ _ _ T15 (mkF m 81 #[.val (.long q0), .second, .val (.int p1), .val (.int p2), .val (.int p3), .val (.long (q0 &&& (9223372036854775807 : Int64))), .second, .val (.ref b11), .val (.int (1 : Int32)), .val (.int (own_a p1 (q0 &&& (9223372036854775807 : Int64)))), .val (.int (own_a p1 (q0 &&& (9223372036854775807 : Int64))))] [])
      refine own_st (fun t k => XS.iload X15.here hx rfl (hb hby at_81) rfl k) ?_
      show own_Go _ _ _ _ T15 (mkF m 83 #[.val (.long q0), .second, .val (.int p1), .val (.int p2), .val (.int p3), .val (.long (q0 &&& (9223372036854775807 : Int64))), .second, .val (.ref b11), .val (.int (1 : Int32)), .val (.int (own_a p1 (q0 &&& (9223372036854775807 : Int64)))), .val (.int (own_a p1 (q0 &&& (9223372036854775807 : Int64))))] [(.int (own_a p1 (q0 &&& (9223372036854775807 : Int64))))])
      refine own_st (fun t k => XS.iload X15.here hx rfl (hb hby at_83) rfl k) ?_
      show own_Go _ _ _ _ T15 (mkF m 85 #[.val (.long q0), .second, .val (.int p1), .val (.int p2), .val (.int p3), .val (.long (q0 &&& (9223372036854775807 : Int64))), .second, .val (.ref b11), .val (.int (1 : Int32)), .val (.int (own_a p1 (q0 &&& (9223372036854775807 : Int64)))), .val (.int (own_a p1 (q0 &&& (9223372036854775807 : Int64))))] [(.int (1 : Int32)), (.int (own_a p1 (q0 &&& (9223372036854775807 : Int64))))])
      refine own_st (fun t k => XS.icmpNo X15.here hx rfl (hb hby at_85) rfl (teq (own_a_yes c51_12 : (own_a p1 (q0 &&& (9223372036854775807 : Int64))) = (1 : Int32))).2 k) ?_
      show own_Go _ _ _ _ T15 (mkF m 88 #[.val (.long q0), .second, .val (.int p1), .val (.int p2), .val (.int p3), .val (.long (q0 &&& (9223372036854775807 : Int64))), .second, .val (.ref b11), .val (.int (1 : Int32)), .val (.int (own_a p1 (q0 &&& (9223372036854775807 : Int64)))), .val (.int (own_a p1 (q0 &&& (9223372036854775807 : Int64))))] [])
      refine own_st (fun t k => XS.iload X15.here hx rfl (hb hby at_88) rfl k) ?_
      show own_Go _ _ _ _ T15 (mkF m 90 #[.val (.long q0), .second, .val (.int p1), .val (.int p2), .val (.int p3), .val (.long (q0 &&& (9223372036854775807 : Int64))), .second, .val (.ref b11), .val (.int (1 : Int32)), .val (.int (own_a p1 (q0 &&& (9223372036854775807 : Int64)))), .val (.int (own_a p1 (q0 &&& (9223372036854775807 : Int64))))] [(.int (own_a p1 (q0 &&& (9223372036854775807 : Int64))))])
      refine own_st (fun t k => XS.iload X15.here hx rfl (hb hby at_90) rfl k) ?_
      show own_Go _ _ _ _ T15 (mkF m 92 #[.val (.long q0), .second, .val (.int p1), .val (.int p2), .val (.int p3), .val (.long (q0 &&& (9223372036854775807 : Int64))), .second, .val (.ref b11), .val (.int (1 : Int32)), .val (.int (own_a p1 (q0 &&& (9223372036854775807 : Int64)))), .val (.int (own_a p1 (q0 &&& (9223372036854775807 : Int64))))] [(.int (1 : Int32)), (.int (own_a p1 (q0 &&& (9223372036854775807 : Int64))))])
      refine own_st (fun t k => XS.icmpNo X15.here hx rfl (hb hby at_92) rfl (teq (own_a_yes c51_12 : (own_a p1 (q0 &&& (9223372036854775807 : Int64))) = (1 : Int32))).2 k) ?_
      show own_Go _ _ _ _ T15 (mkF m 95 #[.val (.long q0), .second, .val (.int p1), .val (.int p2), .val (.int p3), .val (.long (q0 &&& (9223372036854775807 : Int64))), .second, .val (.ref b11), .val (.int (1 : Int32)), .val (.int (own_a p1 (q0 &&& (9223372036854775807 : Int64)))), .val (.int (own_a p1 (q0 &&& (9223372036854775807 : Int64))))] [])
      refine own_st (fun t k => XS.iconst X15.here hx rfl (hb hby at_95) k) ?_
      show own_Go _ _ _ _ T15 (mkF m 96 #[.val (.long q0), .second, .val (.int p1), .val (.int p2), .val (.int p3), .val (.long (q0 &&& (9223372036854775807 : Int64))), .second, .val (.ref b11), .val (.int (1 : Int32)), .val (.int (own_a p1 (q0 &&& (9223372036854775807 : Int64)))), .val (.int (own_a p1 (q0 &&& (9223372036854775807 : Int64))))] [(.int (1 : Int32))])
      refine own_st (fun t k => XS.goto X15.here hx rfl (pc0 := 96) (pc' := 100) rfl (hb hby at_96) (by decide) (by decide) k) ?_
      show own_Go _ _ _ _ T15 (mkF m 100 #[.val (.long q0), .second, .val (.int p1), .val (.int p2), .val (.int p3), .val (.long (q0 &&& (9223372036854775807 : Int64))), .second, .val (.ref b11), .val (.int (1 : Int32)), .val (.int (own_a p1 (q0 &&& (9223372036854775807 : Int64)))), .val (.int (own_a p1 (q0 &&& (9223372036854775807 : Int64))))] [(.int (1 : Int32))])
      exact own_retN X15 hx hlk (t := .boolean) hrt (by simp) (hb hby at_100) ⟨rfl, N15⟩ (by decide) (by decide)
    ·
      refine own_st (fun t k => XS.ifYes X11.here hx rfl (pc0 := 51) (pc' := 58) rfl (hb hby at_51) rfl ((if0 _ _).trans (flt (fun q => c51_12 ((lw_lt _ _).mp q))).2.1) (by decide) (by decide) k) ?_
      show own_Go _ _ _ _ T11 (mkF m 58 #[.val (.long q0), .second, .val (.int p1), .val (.int p2), .val (.int p3), .val (.long (q0 &&& (9223372036854775807 : Int64))), .second, .val (.ref b11), .unset, .unset, .unset] [])
      refine own_st (fun t k => XS.iconst X11.here hx rfl (hb hby at_58) k) ?_
      show own_Go _ _ _ _ T11 (mkF m 59 #[.val (.long q0), .second, .val (.int p1), .val (.int p2), .val (.int p3), .val (.long (q0 &&& (9223372036854775807 : Int64))), .second, .val (.ref b11), .unset, .unset, .unset] [(.int (0 : Int32))])
      refine own_st (fun t k => XS.istore X11.here hx rfl (hb hby at_59) rfl (l' := #[.val (.long q0), .second, .val (.int p1), .val (.int p2), .val (.int p3), .val (.long (q0 &&& (9223372036854775807 : Int64))), .second, .val (.ref b11), .val (.int (0 : Int32)), .unset, .unset]) rfl k) ?_
      show own_Go _ _ _ _ T11 (mkF m 61 #[.val (.long q0), .second, .val (.int p1), .val (.int p2), .val (.int p3), .val (.long (q0 &&& (9223372036854775807 : Int64))), .second, .val (.ref b11), .val (.int (0 : Int32)), .unset, .unset] [])
      refine own_st (fun t k => XS.aload X11.here hx rfl (hb hby at_61) rfl rfl k) ?_
      show own_Go _ _ _ _ T11 (mkF m 63 #[.val (.long q0), .second, .val (.int p1), .val (.int p2), .val (.int p3), .val (.long (q0 &&& (9223372036854775807 : Int64))), .second, .val (.ref b11), .val (.int (0 : Int32)), .unset, .unset] [(.ref b11)])
      refine own_st (fun t k => XS.iloadN X11.here hx rfl (hb hby at_63) rfl k) ?_
      show own_Go _ _ _ _ T11 (mkF m 64 #[.val (.long q0), .second, .val (.int p1), .val (.int p2), .val (.int p3), .val (.long (q0 &&& (9223372036854775807 : Int64))), .second, .val (.ref b11), .val (.int (0 : Int32)), .unset, .unset] [(.int p1), (.ref b11)])
      refine own_st (fun t k => XS.iloadN X11.here hx rfl (hb hby at_64) rfl k) ?_
      show own_Go _ _ _ _ T11 (mkF m 65 #[.val (.long q0), .second, .val (.int p1), .val (.int p2), .val (.int p3), .val (.long (q0 &&& (9223372036854775807 : Int64))), .second, .val (.ref b11), .val (.int (0 : Int32)), .unset, .unset] [(.int p2), (.int p1), (.ref b11)])
      have K0_17 := (K0.trans K11 (all0))
      obtain ⟨cq16, kq16, q16a, q16b, q16c⟩ := isOf hZ rfl E11
      obtain ⟨_, _, ⟨T16, L16, k16, n16⟩, -, X16, ⟨Lc16, hQ16, l16, y16, z16⟩, st16⟩ := X11.virtualBack hx (y := (⟨"com/example/libhorn/libhorn/bias/ConstantRule", "allows", "(II)Z"⟩ : MethodName)) (z := (⟨"com/example/libhorn/libhorn/bias/ConstantRule", "allows", "(II)Z"⟩ : MethodName)) hown (mvT hZ (hw _ (List.mem_of_getElem? (i := 20) rfl))) (mvT hZ (hw _ (List.mem_of_getElem? (i := 21) rfl))) (notFace_of_selects (args := #[]) (mvT hZ (hw _ (List.mem_of_getElem? (i := 23) rfl)))) (mvT hZ (hw _ (List.mem_of_getElem? (i := 23) rfl))) (mvT hZ (hw _ (List.mem_of_getElem? (i := 22) rfl))) (by decide) (backOf (W := 0) (rm5 l Z a0 hw [] b11 p1 p2 (q0 &&& (9223372036854775807 : Int64))  T11.heap n0 (Nat.le_trans Z0 K0_17.1) G11_0 G11_1) hZ (hw _ (List.mem_of_getElem? (i := 24) rfl)) (hw _ (List.mem_of_getElem? (i := 6) rfl)) (by decide) (by decide)) q16a q16c (g := (mkF m 65 #[.val (.long q0), .second, .val (.int p1), .val (.int p2), .val (.int p3), .val (.long (q0 &&& (9223372036854775807 : Int64))), .second, .val (.ref b11), .val (.int (0 : Int32)), .unset, .unset] [(.int p2), (.int p1), (.ref b11)])) rfl (by rw [hml]; rfl) (Steps.refl _) (argsL := [(.int p1), (.int p2)]) (rest := []) (lenOf pd__28II_29Z rfl) rfl (by show 2 * 0 + _ ≤ _; exact Nat.le_of_eq rfl) (hb hby at_65) (fun _ _ => ⟨rfl, rfl, (by decide : 1 + 0 ≤ _), (by decide : 2 + 0 ≤ _)⟩)
      dsimp only [Pt.U, Pt.locs, Pt.cells, Pt.slots] at X16 l16 y16 z16 st16 hQ16
      subst l16 y16 z16
      obtain ⟨rfl, N16q, e16⟩ := hQ16
      have N16 := Fr.app N11 N16q
      refine own_tr st16 ?_
      show own_Go _ _ _ _ T16 (mkF m 68 #[.val (.long q0), .second, .val (.int p1), .val (.int p2), .val (.int p3), .val (.long (q0 &&& (9223372036854775807 : Int64))), .second, .val (.ref b11), .val (.int (0 : Int32)), .unset, .unset] [(.int (own_a p1 (q0 &&& (9223372036854775807 : Int64))))])
      refine own_st (fun t k => XS.istore X16.here hx rfl (hb hby at_68) rfl (l' := #[.val (.long q0), .second, .val (.int p1), .val (.int p2), .val (.int p3), .val (.long (q0 &&& (9223372036854775807 : Int64))), .second, .val (.ref b11), .val (.int (0 : Int32)), .val (.int (own_a p1 (q0 &&& (9223372036854775807 : Int64)))), .unset]) rfl k) ?_
      show own_Go _ _ _ _ T16 (mkF m 70 #[.val (.long q0), .second, .val (.int p1), .val (.int p2), .val (.int p3), .val (.long (q0 &&& (9223372036854775807 : Int64))), .second, .val (.ref b11), .val (.int (0 : Int32)), .val (.int (own_a p1 (q0 &&& (9223372036854775807 : Int64)))), .unset] [])
      refine own_st (fun t k => XS.aload X16.here hx rfl (hb hby at_70) rfl rfl k) ?_
      show own_Go _ _ _ _ T16 (mkF m 72 #[.val (.long q0), .second, .val (.int p1), .val (.int p2), .val (.int p3), .val (.long (q0 &&& (9223372036854775807 : Int64))), .second, .val (.ref b11), .val (.int (0 : Int32)), .val (.int (own_a p1 (q0 &&& (9223372036854775807 : Int64)))), .unset] [(.ref b11)])
      refine own_st (fun t k => XS.iloadN X16.here hx rfl (hb hby at_72) rfl k) ?_
      show own_Go _ _ _ _ T16 (mkF m 73 #[.val (.long q0), .second, .val (.int p1), .val (.int p2), .val (.int p3), .val (.long (q0 &&& (9223372036854775807 : Int64))), .second, .val (.ref b11), .val (.int (0 : Int32)), .val (.int (own_a p1 (q0 &&& (9223372036854775807 : Int64)))), .unset] [(.int p1), (.ref b11)])
      refine own_st (fun t k => XS.iloadN X16.here hx rfl (hb hby at_73) rfl k) ?_
      show own_Go _ _ _ _ T16 (mkF m 74 #[.val (.long q0), .second, .val (.int p1), .val (.int p2), .val (.int p3), .val (.long (q0 &&& (9223372036854775807 : Int64))), .second, .val (.ref b11), .val (.int (0 : Int32)), .val (.int (own_a p1 (q0 &&& (9223372036854775807 : Int64)))), .unset] [(.int p2), (.int p1), (.ref b11)])
      refine own_st (fun t k => XS.iconst X16.here hx rfl (hb hby at_74) k) ?_
      show own_Go _ _ _ _ T16 (mkF m 75 #[.val (.long q0), .second, .val (.int p1), .val (.int p2), .val (.int p3), .val (.long (q0 &&& (9223372036854775807 : Int64))), .second, .val (.ref b11), .val (.int (0 : Int32)), .val (.int (own_a p1 (q0 &&& (9223372036854775807 : Int64)))), .unset] [(.int (-1 : Int32)), (.int p2), (.int p1), (.ref b11)])
      refine own_st (fun t k => XS.ixor X16.here hx rfl (hb hby at_75) rfl k) ?_
      show own_Go _ _ _ _ T16 (mkF m 76 #[.val (.long q0), .second, .val (.int p1), .val (.int p2), .val (.int p3), .val (.long (q0 &&& (9223372036854775807 : Int64))), .second, .val (.ref b11), .val (.int (0 : Int32)), .val (.int (own_a p1 (q0 &&& (9223372036854775807 : Int64)))), .unset] [(.int (p2 ^^^ (-1 : Int32))), (.int p1), (.ref b11)])
      obtain ⟨cq18, kq18, q18a, q18b, q18c⟩ := isOf hZ e16 E11
      obtain ⟨_, _, ⟨T18, L18, k18, n18⟩, -, X18, ⟨Lc18, hQ18, l18, y18, z18⟩, st18⟩ := X16.virtualBack hx (y := (⟨"com/example/libhorn/libhorn/bias/ConstantRule", "allows", "(II)Z"⟩ : MethodName)) (z := (⟨"com/example/libhorn/libhorn/bias/ConstantRule", "allows", "(II)Z"⟩ : MethodName)) hown (mvT hZ (hw _ (List.mem_of_getElem? (i := 20) rfl))) (mvT hZ (hw _ (List.mem_of_getElem? (i := 21) rfl))) (notFace_of_selects (args := #[]) (mvT hZ (hw _ (List.mem_of_getElem? (i := 23) rfl)))) (mvT hZ (hw _ (List.mem_of_getElem? (i := 23) rfl))) (mvT hZ (hw _ (List.mem_of_getElem? (i := 22) rfl))) (by decide) (backOf (W := 0) (rm5 l Z a0 hw [] b11 p1 (p2 ^^^ (-1 : Int32)) (q0 &&& (9223372036854775807 : Int64))  T11.heap n0 (Nat.le_trans Z0 K0_17.1) G11_0 G11_1) hZ (hw _ (List.mem_of_getElem? (i := 24) rfl)) (hw _ (List.mem_of_getElem? (i := 6) rfl)) (by decide) (by decide)) q18a q18c (g := (mkF m 76 #[.val (.long q0), .second, .val (.int p1), .val (.int p2), .val (.int p3), .val (.long (q0 &&& (9223372036854775807 : Int64))), .second, .val (.ref b11), .val (.int (0 : Int32)), .val (.int (own_a p1 (q0 &&& (9223372036854775807 : Int64)))), .unset] [(.int (p2 ^^^ (-1 : Int32))), (.int p1), (.ref b11)])) rfl (by rw [hml]; rfl) (Steps.refl _) (argsL := [(.int p1), (.int (p2 ^^^ (-1 : Int32)))]) (rest := []) (lenOf pd__28II_29Z rfl) rfl (by show 2 * 0 + _ ≤ _; exact Nat.le_of_eq rfl) (hb hby at_76) (fun _ _ => ⟨rfl, e16, (by decide : 1 + 0 ≤ _), (by decide : 2 + 0 ≤ _)⟩)
      dsimp only [Pt.U, Pt.locs, Pt.cells, Pt.slots] at X18 l18 y18 z18 st18 hQ18
      subst l18 y18 z18
      obtain ⟨rfl, N18q, e18⟩ := hQ18
      have N18 := Fr.app N16 N18q
      refine own_tr st18 ?_
      show own_Go _ _ _ _ T18 (mkF m 79 #[.val (.long q0), .second, .val (.int p1), .val (.int p2), .val (.int p3), .val (.long (q0 &&& (9223372036854775807 : Int64))), .second, .val (.ref b11), .val (.int (0 : Int32)), .val (.int (own_a p1 (q0 &&& (9223372036854775807 : Int64)))), .unset] [(.int (own_a p1 (q0 &&& (9223372036854775807 : Int64))))])
      refine own_st (fun t k => XS.istore X18.here hx rfl (hb hby at_79) rfl (l' := #[.val (.long q0), .second, .val (.int p1), .val (.int p2), .val (.int p3), .val (.long (q0 &&& (9223372036854775807 : Int64))), .second, .val (.ref b11), .val (.int (0 : Int32)), .val (.int (own_a p1 (q0 &&& (9223372036854775807 : Int64)))), .val (.int (own_a p1 (q0 &&& (9223372036854775807 : Int64))))]) rfl k) ?_
      show own_Go _ _ _ _ T18 (mkF m 81 #[.val (.long q0), .second, .val (.int p1), .val (.int p2), .val (.int p3), .val (.long (q0 &&& (9223372036854775807 : Int64))), .second, .val (.ref b11), .val (.int (0 : Int32)), .val (.int (own_a p1 (q0 &&& (9223372036854775807 : Int64)))), .val (.int (own_a p1 (q0 &&& (9223372036854775807 : Int64))))] [])
      refine own_st (fun t k => XS.iload X18.here hx rfl (hb hby at_81) rfl k) ?_
      show own_Go _ _ _ _ T18 (mkF m 83 #[.val (.long q0), .second, .val (.int p1), .val (.int p2), .val (.int p3), .val (.long (q0 &&& (9223372036854775807 : Int64))), .second, .val (.ref b11), .val (.int (0 : Int32)), .val (.int (own_a p1 (q0 &&& (9223372036854775807 : Int64)))), .val (.int (own_a p1 (q0 &&& (9223372036854775807 : Int64))))] [(.int (own_a p1 (q0 &&& (9223372036854775807 : Int64))))])
      refine own_st (fun t k => XS.iload X18.here hx rfl (hb hby at_83) rfl k) ?_
      show own_Go _ _ _ _ T18 (mkF m 85 #[.val (.long q0), .second, .val (.int p1), .val (.int p2), .val (.int p3), .val (.long (q0 &&& (9223372036854775807 : Int64))), .second, .val (.ref b11), .val (.int (0 : Int32)), .val (.int (own_a p1 (q0 &&& (9223372036854775807 : Int64)))), .val (.int (own_a p1 (q0 &&& (9223372036854775807 : Int64))))] [(.int (0 : Int32)), (.int (own_a p1 (q0 &&& (9223372036854775807 : Int64))))])
      refine own_st (fun t k => XS.icmpNo X18.here hx rfl (hb hby at_85) rfl (teq (own_a_no c51_12 : (own_a p1 (q0 &&& (9223372036854775807 : Int64))) = (0 : Int32))).2 k) ?_
      show own_Go _ _ _ _ T18 (mkF m 88 #[.val (.long q0), .second, .val (.int p1), .val (.int p2), .val (.int p3), .val (.long (q0 &&& (9223372036854775807 : Int64))), .second, .val (.ref b11), .val (.int (0 : Int32)), .val (.int (own_a p1 (q0 &&& (9223372036854775807 : Int64)))), .val (.int (own_a p1 (q0 &&& (9223372036854775807 : Int64))))] [])
      refine own_st (fun t k => XS.iload X18.here hx rfl (hb hby at_88) rfl k) ?_
      show own_Go _ _ _ _ T18 (mkF m 90 #[.val (.long q0), .second, .val (.int p1), .val (.int p2), .val (.int p3), .val (.long (q0 &&& (9223372036854775807 : Int64))), .second, .val (.ref b11), .val (.int (0 : Int32)), .val (.int (own_a p1 (q0 &&& (9223372036854775807 : Int64)))), .val (.int (own_a p1 (q0 &&& (9223372036854775807 : Int64))))] [(.int (own_a p1 (q0 &&& (9223372036854775807 : Int64))))])
      refine own_st (fun t k => XS.iload X18.here hx rfl (hb hby at_90) rfl k) ?_
      show own_Go _ _ _ _ T18 (mkF m 92 #[.val (.long q0), .second, .val (.int p1), .val (.int p2), .val (.int p3), .val (.long (q0 &&& (9223372036854775807 : Int64))), .second, .val (.ref b11), .val (.int (0 : Int32)), .val (.int (own_a p1 (q0 &&& (9223372036854775807 : Int64)))), .val (.int (own_a p1 (q0 &&& (9223372036854775807 : Int64))))] [(.int (0 : Int32)), (.int (own_a p1 (q0 &&& (9223372036854775807 : Int64))))])
      refine own_st (fun t k => XS.icmpNo X18.here hx rfl (hb hby at_92) rfl (teq (own_a_no c51_12 : (own_a p1 (q0 &&& (9223372036854775807 : Int64))) = (0 : Int32))).2 k) ?_
      show own_Go _ _ _ _ T18 (mkF m 95 #[.val (.long q0), .second, .val (.int p1), .val (.int p2), .val (.int p3), .val (.long (q0 &&& (9223372036854775807 : Int64))), .second, .val (.ref b11), .val (.int (0 : Int32)), .val (.int (own_a p1 (q0 &&& (9223372036854775807 : Int64)))), .val (.int (own_a p1 (q0 &&& (9223372036854775807 : Int64))))] [])
      refine own_st (fun t k => XS.iconst X18.here hx rfl (hb hby at_95) k) ?_
      show own_Go _ _ _ _ T18 (mkF m 96 #[.val (.long q0), .second, .val (.int p1), .val (.int p2), .val (.int p3), .val (.long (q0 &&& (9223372036854775807 : Int64))), .second, .val (.ref b11), .val (.int (0 : Int32)), .val (.int (own_a p1 (q0 &&& (9223372036854775807 : Int64)))), .val (.int (own_a p1 (q0 &&& (9223372036854775807 : Int64))))] [(.int (1 : Int32))])
      refine own_st (fun t k => XS.goto X18.here hx rfl (pc0 := 96) (pc' := 100) rfl (hb hby at_96) (by decide) (by decide) k) ?_
      show own_Go _ _ _ _ T18 (mkF m 100 #[.val (.long q0), .second, .val (.int p1), .val (.int p2), .val (.int p3), .val (.long (q0 &&& (9223372036854775807 : Int64))), .second, .val (.ref b11), .val (.int (0 : Int32)), .val (.int (own_a p1 (q0 &&& (9223372036854775807 : Int64)))), .val (.int (own_a p1 (q0 &&& (9223372036854775807 : Int64))))] [(.int (1 : Int32))])
      exact own_retN X18 hx hlk (t := .boolean) hrt (by simp) (hb hby at_100) ⟨rfl, N18⟩ (by decide) (by decide)
set_option maxRecDepth 65536 in
set_option maxHeartbeats 40000000 in
theorem comes_1 {Post : Tables → Env → Array Value → State → Outcome → State → Prop} (hpost : ∀ tb e args s v u, (limb_1_1.after args s (.returned v) u = true ∧ limb_1_2.after args s (.returned v) u = true ∧ True) → FrameEnd s (.returned v) u (Jvm.fieldLocs frame_1_writes args s ++ Jvm.arrayLocs frame_1_arrays args s ++ Jvm.staticLocs frame_1_statics s) 16 128 → Post tb e args s (.returned v) u) :
    ArmFor flags0 classFile x code maxLocals ret World_1 tables_1 room_1 Calls_1 rest_1 Pre_1 Post := by
  intro l hfl _ _ p e ha hc hk s m args below hf hA hF happ hP
  obtain ⟨hcalls, hrest, hpre⟩ := hP
  obtain ⟨-, -, -, hnamed, -, -, -, hat⟩ := (Spec.applies_iff hf).mp happ
  obtain ⟨hg, hn⟩ := and_e (Cond.before_iff.mp (show (Jvm.Cond.and given_1 narrow_1).before args s = true from hpre))
  obtain ⟨gc, gr0⟩ := and_e hg
  obtain ⟨ga0, gr1⟩ := and_e gr0
  obtain ⟨ga1, gr2⟩ := and_e gr1
  obtain ⟨ga2, gr3⟩ := and_e gr2
  obtain ⟨w0, w1, w2, w3, rfl⟩ : ∃ w0 w1 w2 w3 : Value, args = #[w0, w1, w2, w3] := by
    have hs : args.size = 4 := by simpa [Cond.value, given_1] using gc
    obtain ⟨L⟩ := args
    match L, hs with
    | [w0, w1, w2, w3], _ => exact ⟨w0, w1, w2, w3, rfl⟩
  have hw := fun d (hd : d ∈ tables_1) => atoms_spec (ws := Jvm.Cond.code x code maxLocals ret :: tables_1) hat d (List.mem_cons_of_mem _ hd)
  have hfit : Fit s := fun {y c} hc i hi => by
    obtain ⟨ha, rfl⟩ := Array.getElem?_eq_some_iff.mp hc
    have q := List.all_eq_true.mp ((Array.all_eq_true_iff_forall_mem.mp hF) _ (Array.getElem_mem ha)) i (List.mem_range.mpr hi)
    simpa [Array.getElem?_eq_getElem hi] using q
  obtain ⟨i0, ei0⟩ := isL_v ga0
  obtain rfl : w0 = (.long i0) := Option.some.inj ei0
  obtain ⟨i1, ei1⟩ := is_v ga1
  obtain rfl : w1 = (.int i1) := Option.some.inj ei1
  obtain ⟨i2, ei2⟩ := is_v ga2
  obtain rfl : w2 = (.int i2) := Option.some.inj ei2
  obtain ⟨i3, ei3⟩ := is_v gr3
  obtain rfl : w3 = (.int i3) := Option.some.inj ei3
  obtain ⟨n, o, h1, h2, h3, _, L, rfl, ⟨rfl, N⟩, hq⟩ := rm0 l s _ hw tables_1 i0 i1 i2 i3  s.heap s.heap.size (Nat.le_refl _)  p e ha hc hk s m _ below hf ((Spec.applies_iff_loose hf).mp happ).1 ⟨rfl, State.Warmed39.refl s, rfl⟩ trivial
  refine ⟨n, _, h1, h2, h3, hpost _ _ _ _ _ _ ⟨Cond.after_iff.mpr rfl, Cond.after_iff.mpr (eq_i res_at (Term.int_eval (1)) rfl), trivial⟩ ⟨hq.1, hq.2.1, (hq.2.2.sift fun y hy => Or.inr (N y hy)).mono (by decide) (by decide)⟩⟩
theorem main_1_1 : Claimed_1_1 := comes_1 fun _ _ _ _ _ _ h hF => ⟨h.1, hF⟩
theorem main_1_2 : Claimed_1_2 := comes_1 fun _ _ _ _ _ _ h hF => ⟨h.2.1, hF⟩
end Jvm.Pilot.@@N@@
namespace Jvm.Pilot.@@N@@
open Jvm Jvm.ClassFile Sem Op Lib Jvm.Free Jvm.Stand Jvm.Pilot.@@N@@.Jvm.D
/-! MADE BY PROGRAM (witnessworld.py) out of the Statement's table words and the real class files: 10 classes; the members and pool entries that the words name. The judged class is class 1, her method 1. -/
namespace start1
open Jvm.ClassFile
def u (s : String) : CpInfo := .utf8 (stringToUtf16 s)
/-- a pool by its gaps: so many unusable entries, then the entry; so many at the end -/
def gap : Nat → List CpInfo → List CpInfo
  | 0, r => r
  | n + 1, r => .unusable :: gap n r
def poolList (es : List (Nat × CpInfo)) (last : Nat) : List CpInfo := es.foldr (fun e r => gap e.1 (e.2 :: r)) (gap last [])
def pool (es : List (Nat × CpInfo)) (last : Nat) : Array CpInfo := ⟨poolList es last⟩
def fileOf (pool : Array CpInfo) (this : Nat) (attrs : Array Attribute := #[]) (ms : Array MethodInfo := #[]) (fl : Nat := 33) (sup : Nat := 0) (ifs : Array Nat := #[]) (fds : Array FieldInfo := #[]) : ClassFile where
  minorVersion := 0
  majorVersion := 65
  constantPool := pool
  accessFlags := fl
  thisClass := this
  superClass := sup
  interfaces := ifs
  fields := fds
  methods := ms
  attributes := attrs
def plain (name : String) (sup : Option ClassId) : Class where
  name := name
  kind := .ordinary
  loader := none
  accessFlags := 33
  super := sup
  interfaces := #[]
  cf := none
  fields := #[]
  methods := #[]
  instanceTypes := #[]
  staticTypes := #[]
  resolved := #[]
  callSites := []
  init := .initialized
  statics := none
  mirror := none

def pool0 : Array CpInfo := pool [(5, u "<init>"), (0, u "()V"), (1, .class_ 10), (1, u "java/lang/Object")] 113

def k0c0 : Code := { maxStack := 0, maxLocals := 1, code := object_method_1_code, exceptionTable := #[], attributes := #[] }
def k0m0 : Method := { name := "<init>", desc := "()V", sig := { parameters := [], returnType := none }, accessFlags := 1, code := some k0c0 }
/-- java/lang/Object -/
def k0 : Class := { plain "java/lang/Object" none with
  accessFlags := 33
  interfaces := #[]
  cf := some (fileOf pool0 8 #[] #[{ accessFlags := 1, nameIndex := 5, descriptorIndex := 6, attributes := #[] }] 33 0 #[] #[])
  fields := #[]
  methods := #[k0m0]
  instanceTypes := #[]
  staticTypes := #[]
  resolved := Array.replicate 124 none
  statics := none }

def pool1 : Array CpInfo := pool [(2, .class_ 4), (1, u "java/lang/Object"), (0, u "<init>"), (0, u "()V"), (2, .long 9223372036854775807), (1, .methodref 12 13), (0, .class_ 14), (0, .nameAndType 15 16), (0, u "java/lang/Math"), (0, u "max"), (0, u "(JJ)J"), (0, .methodref 18 19), (0, .class_ 20), (0, .nameAndType 21 22), (0, u "com/example/libhorn/libhorn/bias/ConstantRule"), (0, u "fewerThan"), (0, u "(J)Lcom/example/libhorn/libhorn/bias/ConstantRule;"), (0, .methodref 18 24), (0, .nameAndType 25 26), (0, u "allows"), (0, u "(II)Z"), (0, .class_ 28), (0, u "com/example/libhorn/libhorn/bias/ConstantRuleFewerThanPinLaw"), (2, u "law"), (0, u "(JIII)Z")] 3

def k1m0 : Method := { name := "<init>", desc := "()V", sig := { parameters := [], returnType := none }, accessFlags := 1, code := none }
def k1c1 : Code := { maxStack := 6, maxLocals := 11, code := code, exceptionTable := #[], attributes := #[] }
def k1m1 : Method := { name := "law", desc := "(JIII)Z", sig := { parameters := [.long, .int, .int, .int], returnType := some .boolean }, accessFlags := 9, code := some k1c1 }
/-- com/example/libhorn/libhorn/bias/ConstantRuleFewerThanPinLaw -/
def k1 : Class := { plain "com/example/libhorn/libhorn/bias/ConstantRuleFewerThanPinLaw" (some 0) with
  accessFlags := 49
  interfaces := #[]
  cf := some (fileOf pool1 27 #[] #[{ accessFlags := 1, nameIndex := 5, descriptorIndex := 6, attributes := #[] }, { accessFlags := 9, nameIndex := 31, descriptorIndex := 32, attributes := #[] }] 49 2 #[] #[])
  fields := #[]
  methods := #[k1m0, k1m1]
  instanceTypes := #[]
  staticTypes := #[]
  resolved := Array.replicate 36 none
  statics := none }

def pool2 : Array CpInfo := pool [(1, .class_ 2), (0, u "java/lang/Math"), (1, .class_ 6), (1, u "java/lang/Object"), (0, u "<init>"), (0, u "()V"), (89, .class_ 100), (1, u "java/lang/Math$RandomNumberGeneratorHolder"), (20, u "(JJ)J"), (50, u "negativeZeroFloatBits"), (0, u "J"), (2, u "negativeZeroDoubleBits"), (21, u "max"), (46, u "$assertionsDisabled"), (0, u "Z"), (91, u "twoToTheDoubleScaleDown"), (0, u "D"), (4, u "twoToTheDoubleScaleUp"), (9, u "E"), (3, u "PI"), (2, u "TAU"), (2, u "DEGREES_TO_RADIANS"), (0, u "RADIANS_TO_DEGREES")] 94

def k2m0 : Method := { name := "<init>", desc := "()V", sig := { parameters := [], returnType := none }, accessFlags := 2, code := none }
def k2c1 : Code := { maxStack := 4, maxLocals := 4, code := jdk_29_method_66_code, exceptionTable := #[], attributes := #[] }
def k2m1 : Method := { name := "max", desc := "(JJ)J", sig := { parameters := [.long, .long], returnType := some .long }, accessFlags := 9, code := some k2c1 }
/-- java/lang/Math -/
def k2 : Class := { plain "java/lang/Math" (some 0) with
  accessFlags := 49
  interfaces := #[]
  cf := some (fileOf pool2 1 #[.nestMembers #[98]] #[{ accessFlags := 2, nameIndex := 7, descriptorIndex := 8, attributes := #[] }, { accessFlags := 9, nameIndex := 198, descriptorIndex := 121, attributes := #[] }] 49 4 #[] #[{ accessFlags := 25, nameIndex := 354, descriptorIndex := 339, attributes := #[] }, { accessFlags := 25, nameIndex := 358, descriptorIndex := 339, attributes := #[] }, { accessFlags := 25, nameIndex := 361, descriptorIndex := 339, attributes := #[] }, { accessFlags := 26, nameIndex := 364, descriptorIndex := 339, attributes := #[] }, { accessFlags := 26, nameIndex := 365, descriptorIndex := 339, attributes := #[] }, { accessFlags := 26, nameIndex := 172, descriptorIndex := 173, attributes := #[] }, { accessFlags := 26, nameIndex := 176, descriptorIndex := 173, attributes := #[] }, { accessFlags := 8, nameIndex := 344, descriptorIndex := 339, attributes := #[] }, { accessFlags := 8, nameIndex := 338, descriptorIndex := 339, attributes := #[] }, { accessFlags := 4120, nameIndex := 245, descriptorIndex := 246, attributes := #[] }])
  fields := #[{ name := "E", type := .double, accessFlags := 25, slot := 0, constantValue := 0 }, { name := "PI", type := .double, accessFlags := 25, slot := 1, constantValue := 0 }, { name := "TAU", type := .double, accessFlags := 25, slot := 2, constantValue := 0 }, { name := "DEGREES_TO_RADIANS", type := .double, accessFlags := 26, slot := 3, constantValue := 0 }, { name := "RADIANS_TO_DEGREES", type := .double, accessFlags := 26, slot := 4, constantValue := 0 }, { name := "negativeZeroFloatBits", type := .long, accessFlags := 26, slot := 5, constantValue := 0 }, { name := "negativeZeroDoubleBits", type := .long, accessFlags := 26, slot := 6, constantValue := 0 }, { name := "twoToTheDoubleScaleUp", type := .double, accessFlags := 8, slot := 7, constantValue := 0 }, { name := "twoToTheDoubleScaleDown", type := .double, accessFlags := 8, slot := 8, constantValue := 0 }, { name := "$assertionsDisabled", type := .boolean, accessFlags := 4120, slot := 9, constantValue := 0 }]
  methods := #[k2m0, k2m1]
  instanceTypes := #[]
  staticTypes := #[.double, .double, .double, .double, .double, .long, .long, .double, .double, .boolean]
  resolved := Array.replicate 460 none
  statics := none }

def pool3 : Array CpInfo := pool [(1, .methodref 2 3), (0, .class_ 4), (0, .nameAndType 5 6), (0, u "java/lang/Object"), (0, u "<init>"), (0, u "()V"), (0, .fieldref 8 9), (0, .class_ 10), (0, .nameAndType 11 12), (0, u "com/example/libhorn/libhorn/bias/ConstantRule"), (0, u "threshold"), (0, u "J"), (0, .fieldref 8 14), (0, .nameAndType 15 16), (0, u "ratio"), (0, u "Ljava/math/BigDecimal;"), (9, .methodref 8 27), (0, .nameAndType 5 28), (0, u "(JLjava/math/BigDecimal;)V"), (40, u "fewerThan"), (0, u "(J)Lcom/example/libhorn/libhorn/bias/ConstantRule;"), (2, u "DEFAULT"), (0, u "Lcom/example/libhorn/libhorn/bias/ConstantRule;"), (5, u "allows"), (0, u "(II)Z")] 20

def k3c0 : Code := { maxStack := 3, maxLocals := 4, code := prog_3_method_1_code, exceptionTable := #[], attributes := #[] }
def k3m0 : Method := { name := "<init>", desc := "(JLjava/math/BigDecimal;)V", sig := { parameters := [.long, (.object "java/math/BigDecimal")], returnType := none }, accessFlags := 2, code := some k3c0 }
def k3c1 : Code := { maxStack := 5, maxLocals := 2, code := prog_3_method_2_code, exceptionTable := #[], attributes := #[] }
def k3m1 : Method := { name := "fewerThan", desc := "(J)Lcom/example/libhorn/libhorn/bias/ConstantRule;", sig := { parameters := [.long], returnType := some (.object "com/example/libhorn/libhorn/bias/ConstantRule") }, accessFlags := 9, code := some k3c1 }
def k3c2 : Code := { maxStack := 4, maxLocals := 4, code := prog_3_method_4_code, exceptionTable := #[], attributes := #[] }
def k3m2 : Method := { name := "allows", desc := "(II)Z", sig := { parameters := [.int, .int], returnType := some .boolean }, accessFlags := 1, code := some k3c2 }
/-- com/example/libhorn/libhorn/bias/ConstantRule -/
def k3 : Class := { plain "com/example/libhorn/libhorn/bias/ConstantRule" (some 0) with
  accessFlags := 33
  interfaces := #[]
  cf := some (fileOf pool3 8 #[] #[{ accessFlags := 2, nameIndex := 5, descriptorIndex := 28, attributes := #[] }, { accessFlags := 9, nameIndex := 69, descriptorIndex := 70, attributes := #[] }, { accessFlags := 1, nameIndex := 80, descriptorIndex := 81, attributes := #[] }] 33 2 #[] #[{ accessFlags := 25, nameIndex := 73, descriptorIndex := 74, attributes := #[] }, { accessFlags := 18, nameIndex := 11, descriptorIndex := 12, attributes := #[] }, { accessFlags := 18, nameIndex := 15, descriptorIndex := 16, attributes := #[] }])
  fields := #[{ name := "DEFAULT", type := (.object "com/example/libhorn/libhorn/bias/ConstantRule"), accessFlags := 25, slot := 0, constantValue := 0 }, { name := "threshold", type := .long, accessFlags := 18, slot := 0, constantValue := 0 }, { name := "ratio", type := (.object "java/math/BigDecimal"), accessFlags := 18, slot := 1, constantValue := 0 }]
  methods := #[k3m0, k3m1, k3m2]
  instanceTypes := #[.long, (.object "java/math/BigDecimal")]
  staticTypes := #[(.object "com/example/libhorn/libhorn/bias/ConstantRule")]
  resolved := Array.replicate 102 none
  statics := none }

def pool4 : Array CpInfo := pool [(1, u "java/lang/Cloneable"), (0, .class_ 1), (0, u "java/lang/Object"), (0, .class_ 3)] 3

/-- java/lang/Cloneable -/
def k4 : Class := { plain "java/lang/Cloneable" (some 0) with
  accessFlags := 1537
  interfaces := #[]
  cf := some (fileOf pool4 2 #[] #[] 1537 4 #[] #[])
  fields := #[]
  methods := #[]
  instanceTypes := #[]
  staticTypes := #[]
  resolved := Array.replicate 8 none
  statics := none }

def pool5 : Array CpInfo := pool [(1, u "java/io/Serializable"), (0, .class_ 1), (0, u "java/lang/Object"), (0, .class_ 3)] 3

/-- java/io/Serializable -/
def k5 : Class := { plain "java/io/Serializable" (some 0) with
  accessFlags := 1537
  interfaces := #[]
  cf := some (fileOf pool5 2 #[] #[] 1537 4 #[] #[])
  fields := #[]
  methods := #[]
  instanceTypes := #[]
  staticTypes := #[]
  resolved := Array.replicate 8 none
  statics := none }

/-- the primitive byte -/
def k6 : Class := { plain "byte" none with kind := .primitive 'B', accessFlags := 0x411 }
/-- [B -/
def k7 : Class := { plain "[B" (some 0) with kind := .array 6 .byte, interfaces := #[4, 5], accessFlags := 1041 }

/-- the primitive int -/
def k8 : Class := { plain "int" none with kind := .primitive 'I', accessFlags := 0x411 }
/-- [I -/
def k9 : Class := { plain "[I" (some 0) with kind := .array 8 .int, interfaces := #[4, 5], accessFlags := 1041 }

def heap : Heap := #[]
def classes : Array Class := #[k0, k1, k2, k3, k4, k5, k6, k7, k8, k9]
def interned : List (Array UInt16 × Addr) := []
def slotsUsed : Nat := 0
def theMethod : MethodId := ⟨1, 1⟩
def args0 : Array Value := #[.long 5, .int 300, .int 2, .int 1]
def aboutOver (below : List Frame) : State where
  vm := { classes := classes, interned := interned.toArray }
  heap := heap
  slotsUsed := slotsUsed
  threads := #[{ frames := .invoking theMethod args0 :: below }]
def below0 : List Frame := [.native { method := ⟨0, 0⟩, args := #[] }]
def about1 : State := aboutOver below0
def p0 : Program := .bare "" "" ""
def e0 : Env := launch0.env 0 0 0
theorem w_frames : about1.frames = Frame.invoking theMethod args0 :: below0 := rfl
set_option maxRecDepth 65536 in
theorem w_args : argsFit about1.vm theMethod args0 = true := by decide +kernel
set_option maxRecDepth 65536 in
theorem w_heap : heapFits about1 = true := by decide +kernel
set_option maxRecDepth 65536 in
theorem w_runnable : about1.curStatus? = some .runnable := by decide +kernel
set_option maxRecDepth 65536 in
theorem w_alone : about1.alone = true := by decide +kernel
set_option maxRecDepth 65536 in
theorem w_named : about1.methodNamed? x = some theMethod := by decide +kernel
set_option maxRecDepth 65536 in
theorem w_hears : about1.hears theMethod below0 = true := by decide +kernel
set_option maxRecDepth 65536 in
theorem w_ripe : about1.ripe theMethod args0 below0 = true := by decide +kernel
theorem w_running : about1.status = .running := rfl
set_option maxRecDepth 65536 in
theorem w_room : about1.hasRoom e0.platform room_1 = true :=
  launch0.hasRoom_least _ room_1 (by decide +kernel) (by decide +kernel) (by decide +kernel) (by decide +kernel) (by decide +kernel) (by decide +kernel)
theorem allAtoms_all (ts : List Jvm.Cond) (a : Array Jvm.Value) (st : Jvm.State) : (allAtoms ts).before a st = ts.all (fun c => c.before a st) := by
  induction ts with
  | nil => rfl
  | cons c t ih =>
    show (Jvm.Cond.and c (allAtoms t)).before a st = _
    rw [Jvm.Cond.before_and, ih, List.all_cons]
def words1 : List Jvm.Cond := Jvm.Cond.code x code maxLocals ret :: tables_1
/-- a 'code' word, met by the world's own term for the bytes: nothing is compared byte by byte -/
theorem code_word {y : MethodName} {bytes : ByteArray} {mx : Nat} {rt : Option FieldType} {a : Array Value} {s : State} {m : MethodId} {meth : Method} {c : Code} (h1 : s.methodNamed? y = some m) (h2 : s.vm.method? m = some meth) (h3 : meth.code = some c) (h4 : c.code = bytes)
    (h5 : (c.maxLocals == mx && c.exceptionTable.isEmpty && decide (c.maxStack ≤ mostOperands) && decide (meth.sig.returnType = rt) && !meth.locks && decide (parseMethodDescriptor y.desc = some meth.sig)) = true) : (Jvm.Cond.code y bytes mx rt).before a s = true := by
  simp only [Bool.and_eq_true, beq_iff_eq, Bool.not_eq_true', decide_eq_true_eq] at h5
  obtain ⟨⟨⟨⟨⟨g1, g2⟩, g3⟩, g4⟩, g5⟩, g6⟩ := h5
  simp [Cond.before, Cond.holds, Cond.value, h1, h2, h3, h4, g1, g2, g3, g4, g5, g6]
def isCode : Jvm.Cond → Bool
  | .code _ _ _ _ => true
  | _ => false
theorem all_split {L : List Jvm.Cond} {P : Jvm.Cond → Bool} (h1 : L.all (fun c => isCode c || P c) = true) (h2 : ∀ c ∈ L.filter isCode, P c = true) : L.all P = true := by
  refine List.all_eq_true.mpr fun c hc => ?_
  have h := List.all_eq_true.mp h1 c hc
  rcases Bool.eq_false_or_eq_true (isCode c) with hi | hi
  · exact h2 c (List.mem_filter.mpr ⟨hc, hi⟩)
  · simpa [hi] using h
set_option maxRecDepth 65536 in
theorem w_c0 : (Jvm.Cond.code x code maxLocals ret).before args0 about1 = true := code_word (m := ⟨1, 1⟩) (meth := k1m1) (c := k1c1) (by decide +kernel) rfl rfl rfl (by decide +kernel)
set_option maxRecDepth 65536 in
theorem w_c1 : (Jvm.Cond.code ({ cls := "java/lang/Math", name := "max", desc := "(JJ)J" } : Jvm.MethodName) jdk_29_method_66_code (4 : Nat) (Option.some Jvm.ClassFile.FieldType.long)).before args0 about1 = true := code_word (m := ⟨2, 1⟩) (meth := k2m1) (c := k2c1) (by decide +kernel) rfl rfl rfl (by decide +kernel)
set_option maxRecDepth 65536 in
theorem w_c2 : (Jvm.Cond.code ({ cls := "com/example/libhorn/libhorn/bias/ConstantRule", name := "fewerThan", desc := "(J)Lcom/example/libhorn/libhorn/bias/ConstantRule;" } : Jvm.MethodName) prog_3_method_2_code (2 : Nat) (Option.some (Jvm.ClassFile.FieldType.object "com/example/libhorn/libhorn/bias/ConstantRule"))).before args0 about1 = true := code_word (m := ⟨3, 1⟩) (meth := k3m1) (c := k3c1) (by decide +kernel) rfl rfl rfl (by decide +kernel)
set_option maxRecDepth 65536 in
theorem w_c3 : (Jvm.Cond.code ({ cls := "com/example/libhorn/libhorn/bias/ConstantRule", name := "<init>", desc := "(JLjava/math/BigDecimal;)V" } : Jvm.MethodName) prog_3_method_1_code (4 : Nat) (Option.none : Option Jvm.ClassFile.FieldType)).before args0 about1 = true := code_word (m := ⟨3, 0⟩) (meth := k3m0) (c := k3c0) (by decide +kernel) rfl rfl rfl (by decide +kernel)
set_option maxRecDepth 65536 in
theorem w_c4 : (Jvm.Cond.code ({ cls := "java/lang/Object", name := "<init>", desc := "()V" } : Jvm.MethodName) object_method_1_code (1 : Nat) (Option.none : Option Jvm.ClassFile.FieldType)).before args0 about1 = true := code_word (m := ⟨0, 0⟩) (meth := k0m0) (c := k0c0) (by decide +kernel) rfl rfl rfl (by decide +kernel)
set_option maxRecDepth 65536 in
theorem w_c5 : (Jvm.Cond.code ({ cls := "com/example/libhorn/libhorn/bias/ConstantRule", name := "allows", desc := "(II)Z" } : Jvm.MethodName) prog_3_method_4_code (4 : Nat) (Option.some Jvm.ClassFile.FieldType.boolean)).before args0 about1 = true := code_word (m := ⟨3, 2⟩) (meth := k3m2) (c := k3c2) (by decide +kernel) rfl rfl rfl (by decide +kernel)
def codes1 : List Jvm.Cond := [Jvm.Cond.code x code maxLocals ret, Jvm.Cond.code ({ cls := "java/lang/Math", name := "max", desc := "(JJ)J" } : Jvm.MethodName) jdk_29_method_66_code (4 : Nat) (Option.some Jvm.ClassFile.FieldType.long), Jvm.Cond.code ({ cls := "com/example/libhorn/libhorn/bias/ConstantRule", name := "fewerThan", desc := "(J)Lcom/example/libhorn/libhorn/bias/ConstantRule;" } : Jvm.MethodName) prog_3_method_2_code (2 : Nat) (Option.some (Jvm.ClassFile.FieldType.object "com/example/libhorn/libhorn/bias/ConstantRule")), Jvm.Cond.code ({ cls := "com/example/libhorn/libhorn/bias/ConstantRule", name := "<init>", desc := "(JLjava/math/BigDecimal;)V" } : Jvm.MethodName) prog_3_method_1_code (4 : Nat) (Option.none : Option Jvm.ClassFile.FieldType), Jvm.Cond.code ({ cls := "java/lang/Object", name := "<init>", desc := "()V" } : Jvm.MethodName) object_method_1_code (1 : Nat) (Option.none : Option Jvm.ClassFile.FieldType), Jvm.Cond.code ({ cls := "com/example/libhorn/libhorn/bias/ConstantRule", name := "allows", desc := "(II)Z" } : Jvm.MethodName) prog_3_method_4_code (4 : Nat) (Option.some Jvm.ClassFile.FieldType.boolean)]
set_option maxRecDepth 65536 in
theorem codes_eq : words1.filter isCode = codes1 := rfl
theorem w_codes : ∀ c ∈ words1.filter isCode, c.before args0 about1 = true := by
  rw [codes_eq]
  intro c hc
  simp only [codes1, List.mem_cons, List.not_mem_nil, or_false] at hc
  rcases hc with rfl | rfl | rfl | rfl | rfl | rfl
  · exact w_c0
  · exact w_c1
  · exact w_c2
  · exact w_c3
  · exact w_c4
  · exact w_c5
set_option maxRecDepth 65536 in
theorem w_t1 : (words1.take 24).all (fun c => isCode c || c.before args0 about1) = true := by decide +kernel
set_option maxRecDepth 65536 in
theorem w_t2 : (words1.drop 24).all (fun c => isCode c || c.before args0 about1) = true := by decide +kernel
theorem w_tables : (allAtoms (Jvm.Cond.code x code maxLocals ret :: tables_1)).before args0 about1 = true := by
  rw [allAtoms_all]
  show words1.all (fun c => c.before args0 about1) = true
  refine all_split ?_ w_codes
  rw [← List.take_append_drop 24 words1, List.all_append, w_t1, w_t2]
  rfl
set_option maxRecDepth 65536 in
theorem w_case : (Jvm.Cond.and given_1 narrow_1).before args0 about1 = true := by decide +kernel
theorem w_applies : (headSpec (Jvm.Cond.code x code maxLocals ret :: tables_1) room_1).applies x e0.platform about1 = true :=
  (Spec.applies_iff w_frames).mpr ⟨w_running, w_runnable, w_alone, w_named, w_hears, w_ripe, w_room, w_tables⟩
theorem atStart : AtStart classFile x code maxLocals ret World_1 tables_1 room_1 Calls_1 rest_1 Pre_1 launch0 p0 e0 about1 theMethod args0 below0 :=
  ⟨lists_1, trivial, launch0.admits_env _ _ _, launch0.least_env, fairChoices_fair.cas, fairChoices_fair.clock, w_frames, w_args, w_heap, w_applies, trivial, trivial, w_case⟩
end start1
theorem witness_1 : WitnessClaimed_1 := ⟨start1.p0, start1.e0, start1.about1, start1.theMethod, start1.args0, start1.below0, start1.atStart⟩
end Jvm.Pilot.@@N@@
