import JvmDerived
import JvmDerived.Pilot.@@N@@Statement
import JvmDerived.Pilot.@@N@@Code
set_option linter.unusedVariables false
set_option linter.unusedSimpArgs false
namespace Jvm.RoadKit
open Sem ClassFile Op Lib Jvm.Stand Jvm.Free Jvm.LawKit
section OwnGo
/-- from the state T with the frame g on top the run comes to a state of which K holds -/
def own_Go (tb : Tables) (e : Env) (below : List Frame) (K : State → Prop) (T : State) (g : JFrame) : Prop := ∃ t, Steps tb e below (T.setTop g) t ∧ K t
/-- the invocation has ended by a return, with what Q says of the value, the heap and the written places -/
def own_Fin (below : List Frame) (s : State) (Q : Option Value → Heap → List Loc → Prop) (k n : Nat) (t : State) : Prop := ∃ o, t.status = .running ∧ Ended t below o ∧ ∃ v L, o = .returned v ∧ Q v t.heap L ∧ FrameEnd s o t L k n
variable {p : Program} {l : Launch} {e : Env} {R : Room} {s : State} {m : MethodId} {args : Array Value} {below : List Frame} {meth : Method} {c : Code} {T : State} {locs : List Loc} {cells slots : Nat}
variable {K : State → Prop} {T' : State} {g g' : JFrame} {tb : Tables} {Q : Option Value → Heap → List Loc → Prop} {k n : Nat}
theorem own_st (h : ∀ t, Steps tb e below (T'.setTop g') t → Steps tb e below (T.setTop g) t) (q : own_Go tb e below K T' g') : own_Go tb e below K T g := by
  obtain ⟨t, h1, h2⟩ := q
  exact ⟨t, h _ h1, h2⟩
theorem own_tr (h : Steps tb e below (T.setTop g) (T'.setTop g')) (q : own_Go tb e below K T' g') : own_Go tb e below K T g := by
  obtain ⟨t, h1, h2⟩ := q
  exact ⟨t, h.trans h1, h2⟩
theorem own_in (h : g = g') (q : own_Go tb e below K T g') : own_Go tb e below K T g := h ▸ q
theorem own_out (q : own_Go tb e below (own_Fin below s Q k n) T g) : ∃ s₂ o, Steps tb e below (T.setTop g) s₂ ∧ s₂.status = .running ∧ Ended s₂ below o ∧ ∃ v L, o = .returned v ∧ Q v s₂.heap L ∧ FrameEnd s o s₂ L k n := by
  obtain ⟨t, h1, o, h2, h3, h4⟩ := q
  exact ⟨t, o, h1, h2, h3, h4⟩
theorem own_leave (X : Stand p l e R s m args below meth c T locs cells slots) (hlk : meth.locks = false) {v : Option Value} (hv : meth.sig.returnType = none → v = none) (hq : Q v T.heap locs) (hk : cells ≤ k) (hn : slots ≤ n)
    (st : ∀ fs, (∀ (f : JFrame) (acts : List Action), f.method = m → f.locked = none → f.entered = [] → (doReturn e (T.setTop f) acts v).1 = T.setFrames fs) → Steps p.tables e below (T.setTop g) (T.setFrames fs)) :
    own_Go p.tables e below (own_Fin below s Q k n) T g := by
  obtain ⟨fs, hr, hrun, hended, hW, hsame⟩ := X.leave (v := v) hv hlk
  exact ⟨_, st fs hr, _, hrun, hended, _, _, rfl, hq, ⟨_, rfl⟩, hW, hsame.mono hk hn⟩
variable {pc : Nat} {Ls : Array Slot} {rest : List Value}
theorem own_retV (X : Stand p l e R s m args below meth c T locs cells slots) (hx : p.tables.exec = Jvm.exec) (hlk : meth.locks = false) (hret : meth.sig.returnType = none) (hd : decode c.code pc = .ok (.return_, 1)) (hq : Q none T.heap locs) (hk : cells ≤ k) (hn : slots ≤ n) :
    own_Go p.tables e below (own_Fin below s Q k n) T (mkF m pc Ls []) :=
  own_leave X hlk (fun _ => rfl) hq hk hn fun _ hr => X.returnOut hx hret hd hr
theorem own_retW (X : Stand p l e R s m args below meth c T locs cells slots) (hx : p.tables.exec = Jvm.exec) (hlk : meth.locks = false) {w : Value} {t : FieldType} {i : Instr} (hret : meth.sig.returnType = some t) (hn' : narrow t w = w)
    (hi : (i = .ireturn ∧ (t = .int ∨ t = .boolean ∨ t = .byte ∨ t = .char ∨ t = .short) ∧ ∃ z, w = .int z) ∨ (i = .lreturn ∧ t = .long ∧ ∃ z, w = .long z) ∨ (i = .dreturn ∧ t = .double ∧ ∃ z, w = .double z) ∨ (i = .freturn ∧ t = .float ∧ ∃ z, w = .float z) ∨ (i = .areturn ∧ t.isReference = true ∧ w.isRef = true))
    (hd : decode c.code pc = .ok (i, 1)) (hq : Q (some w) T.heap locs) (hk : cells ≤ k) (hn : slots ≤ n) :
    own_Go p.tables e below (own_Fin below s Q k n) T (mkF m pc Ls (w :: rest)) :=
  own_leave X hlk (fun h => by rw [hret] at h; cases h) hq hk hn fun _ hr => retOut X hx hret hn' hi hd hr
theorem own_retI (X : Stand p l e R s m args below meth c T locs cells slots) (hx : p.tables.exec = Jvm.exec) (hlk : meth.locks = false) {z : Int32} (hret : meth.sig.returnType = some .int) (hd : decode c.code pc = .ok (.ireturn, 1)) (hq : Q (some (.int z)) T.heap locs) (hk : cells ≤ k) (hn : slots ≤ n) :
    own_Go p.tables e below (own_Fin below s Q k n) T (mkF m pc Ls (.int z :: rest)) :=
  own_retW X hx hlk hret rfl (Or.inl ⟨rfl, Or.inl rfl, _, rfl⟩) hd hq hk hn
theorem own_retJ (X : Stand p l e R s m args below meth c T locs cells slots) (hx : p.tables.exec = Jvm.exec) (hlk : meth.locks = false) {z : Int64} (hret : meth.sig.returnType = some .long) (hd : decode c.code pc = .ok (.lreturn, 1)) (hq : Q (some (.long z)) T.heap locs) (hk : cells ≤ k) (hn : slots ≤ n) :
    own_Go p.tables e below (own_Fin below s Q k n) T (mkF m pc Ls (.long z :: rest)) :=
  own_retW X hx hlk hret rfl (Or.inr (Or.inl ⟨rfl, rfl, _, rfl⟩)) hd hq hk hn
theorem own_retR (X : Stand p l e R s m args below meth c T locs cells slots) (hx : p.tables.exec = Jvm.exec) (hlk : meth.locks = false) {w : Value} {t : FieldType} (hret : meth.sig.returnType = some t) (ht : t.isReference = true) (hw : w.isRef = true) (hn' : narrow t w = w) (hd : decode c.code pc = .ok (.areturn, 1)) (hq : Q (some w) T.heap locs) (hk : cells ≤ k) (hn : slots ≤ n) :
    own_Go p.tables e below (own_Fin below s Q k n) T (mkF m pc Ls (w :: rest)) :=
  own_retW X hx hlk hret hn' (Or.inr (Or.inr (Or.inr (Or.inr ⟨rfl, ht, hw⟩)))) hd hq hk hn
theorem own_retN (X : Stand p l e R s m args below meth c T locs cells slots) (hx : p.tables.exec = Jvm.exec) (hlk : meth.locks = false) {z : Int32} {t : FieldType} (hret : meth.sig.returnType = some t) (ht : t = .boolean ∨ t = .byte ∨ t = .char ∨ t = .short) (hd : decode c.code pc = .ok (.ireturn, 1)) (hq : Q (some (.int (nar t z))) T.heap locs) (hk : cells ≤ k) (hn : slots ≤ n) :
    own_Go p.tables e below (own_Fin below s Q k n) T (mkF m pc Ls (.int z :: rest)) :=
  own_leave X hlk (fun h => by rw [hret] at h; cases h) hq hk hn fun _ hr => retN X hx hret ht hd hr
/-- the same, where String constants may have been resolved -/
def own_FinW (below : List Frame) (s : State) (Q : Option Value → Heap → List Loc → Prop) (k n : Nat) (t : State) : Prop := ∃ o, t.status = .running ∧ Ended t below o ∧ ∃ v L, o = .returned v ∧ Q v t.heap L ∧ ReturnedEndW s o t L k n
theorem own_outW (q : own_Go tb e below (own_FinW below s Q k n) T g) : ∃ s₂ o, Steps tb e below (T.setTop g) s₂ ∧ s₂.status = .running ∧ Ended s₂ below o ∧ ∃ v L, o = .returned v ∧ Q v s₂.heap L ∧ ReturnedEndW s o s₂ L k n := by
  obtain ⟨t, h1, o, h2, h3, h4⟩ := q
  exact ⟨t, o, h1, h2, h3, h4⟩
theorem own_leaveW {vm0 : Vm} {k0 : Nat} (X : Stand p l e R (s.setVm vm0) m args below meth c T locs cells slots) (hS : s.Since vm0 k0) (hk0 : k0 ≤ T.heap.size) (hlk : meth.locks = false) {v : Option Value} (hv : meth.sig.returnType = none → v = none) (hq : Q v T.heap locs) (hk : cells ≤ k) (hn : slots ≤ n)
    (st : ∀ fs, (∀ (f : JFrame) (acts : List Action), f.method = m → f.locked = none → f.entered = [] → (doReturn e (T.setTop f) acts v).1 = T.setFrames fs) → Steps p.tables e below (T.setTop g) (T.setFrames fs)) :
    own_Go p.tables e below (own_FinW below s Q k n) T g := by
  obtain ⟨fs, hr, hrun, hended, h1, h2, h3, h4⟩ := X.leaveW hS hk0 (v := v) hv hlk
  exact ⟨_, st fs hr, _, hrun, hended, _, _, rfl, hq, h1, h2, h3, h4.mono hk hn⟩
theorem own_retVW {vm0 : Vm} {k0 : Nat} (X : Stand p l e R (s.setVm vm0) m args below meth c T locs cells slots) (hS : s.Since vm0 k0) (hk0 : k0 ≤ T.heap.size) (hx : p.tables.exec = Jvm.exec) (hlk : meth.locks = false) (hret : meth.sig.returnType = none) (hd : decode c.code pc = .ok (.return_, 1)) (hq : Q none T.heap locs) (hk : cells ≤ k) (hn : slots ≤ n) :
    own_Go p.tables e below (own_FinW below s Q k n) T (mkF m pc Ls []) :=
  own_leaveW X hS hk0 hlk (fun _ => rfl) hq hk hn fun _ hr => X.returnOut hx hret hd hr
theorem own_retWW {vm0 : Vm} {k0 : Nat} (X : Stand p l e R (s.setVm vm0) m args below meth c T locs cells slots) (hS : s.Since vm0 k0) (hk0 : k0 ≤ T.heap.size) (hx : p.tables.exec = Jvm.exec) (hlk : meth.locks = false) {w : Value} {t : FieldType} {i : Instr} (hret : meth.sig.returnType = some t) (hn' : narrow t w = w)
    (hi : (i = .ireturn ∧ (t = .int ∨ t = .boolean ∨ t = .byte ∨ t = .char ∨ t = .short) ∧ ∃ z, w = .int z) ∨ (i = .lreturn ∧ t = .long ∧ ∃ z, w = .long z) ∨ (i = .dreturn ∧ t = .double ∧ ∃ z, w = .double z) ∨ (i = .freturn ∧ t = .float ∧ ∃ z, w = .float z) ∨ (i = .areturn ∧ t.isReference = true ∧ w.isRef = true))
    (hd : decode c.code pc = .ok (i, 1)) (hq : Q (some w) T.heap locs) (hk : cells ≤ k) (hn : slots ≤ n) :
    own_Go p.tables e below (own_FinW below s Q k n) T (mkF m pc Ls (w :: rest)) :=
  own_leaveW X hS hk0 hlk (fun h => by rw [hret] at h; cases h) hq hk hn fun _ hr => retOut X hx hret hn' hi hd hr
theorem own_retNW {vm0 : Vm} {k0 : Nat} (X : Stand p l e R (s.setVm vm0) m args below meth c T locs cells slots) (hS : s.Since vm0 k0) (hk0 : k0 ≤ T.heap.size) (hx : p.tables.exec = Jvm.exec) (hlk : meth.locks = false) {z : Int32} {t : FieldType} (hret : meth.sig.returnType = some t) (ht : t = .boolean ∨ t = .byte ∨ t = .char ∨ t = .short) (hd : decode c.code pc = .ok (.ireturn, 1)) (hq : Q (some (.int (nar t z))) T.heap locs) (hk : cells ≤ k) (hn : slots ≤ n) :
    own_Go p.tables e below (own_FinW below s Q k n) T (mkF m pc Ls (.int z :: rest)) :=
  own_leaveW X hS hk0 hlk (fun h => by rw [hret] at h; cases h) hq hk hn fun _ hr => retN X hx hret ht hd hr
theorem own_wz {Z : State} {vm0 vm1 : Vm} {k1 : Nat} (hZ : Z.Warmed39 vm0) (hs : (s.setVm vm0).Since vm1 k1) : Z.Warmed39 (s.setVm vm1).vm := State.Warmed39.trans (t := s.setVm vm0) hZ hs.1
theorem own_wo {vm0 vm1 : Vm} {k1 : Nat} {own : String} {q : ClassId} (h : (s.setVm vm0).vm.findClass own = some q) (hs : (s.setVm vm0).Since vm1 k1) : (s.setVm vm1).vm.findClass own = some q := by
  rw [show (s.setVm vm1).vm = vm1 from rfl, hs.1.alike.findClass]; exact h
theorem own_sta_keep {Z : State} {h h' : Heap} {C f d : String} {v : Value} {ws : List Addr} (F : Sta Z h C f d v) (K : Keep h h' ws) (hs : ∀ x ∈ ws, ∀ cl : Cell, h[x]? = some cl → cl.vm.isStatics = false) : Sta Z h' C f d v := by
  obtain ⟨cf, i, k, f', st, cell, h1, h2, h3, h4, h5, h6, h7⟩ := F
  refine ⟨cf, i, k, f', st, cell, h1, h2, h3, h4, K.2.1 _ _ h5 fun q => ?_, h6, h7⟩
  rw [hs st q cell h5] at h6
  cases h6
theorem own_getD_int (es : List Int32) (i : Nat) : (es.map Value.int).getD i (.int 0) = .int (es.getD i 0) := by
  induction es generalizing i with
  | nil => rfl
  | cons a t ih => cases i with
    | zero => rfl
    | succ j => simpa using ih j
theorem own_getD_long (es : List Int64) (i : Nat) : (es.map Value.long).getD i (.long 0) = .long (es.getD i 0) := by
  induction es generalizing i with
  | nil => rfl
  | cons a t ih => cases i with
    | zero => rfl
    | succ j => simpa using ih j
theorem own_eq_int {args : Array Value} {s : State} {t : Term} {k : Int32} (h : (Cond.eq t (.int k)).value args s none s [] = some true) : t.eval args s none [] s = some (.int k) := by
  obtain ⟨x, y, e1, e2, hk, hk'⟩ := cmp_v (Or.inl h)
  have e3 : y = .int k := by simpa [Term.eval] using e2.symm
  subst e3
  cases x with
  | int z => simp [Cond.value, e1, e2] at h; rw [e1, h]
  | _ => simp [Kin] at hk'
end OwnGo
end Jvm.RoadKit
namespace Jvm.Pilot.@@N@@
open Jvm Jvm.ClassFile Sem Op Lib Jvm.Free Jvm.Stand Jvm.LawKit Jvm.RoadKit Bundle Jvm.Pilot.@@N@@.Jvm.D
/-! body 1: SqlLexicon.isWhiteSpace -/
theorem d1_0 : decode prog_74_method_2_code 0 = .ok (.iload_n 0, 1) := by decide +kernel
theorem d1_1 : decode prog_74_method_2_code 1 = .ok (.bipush 32, 2) := by decide +kernel
theorem d1_3 : decode prog_74_method_2_code 3 = .ok (.if_icmp .eq 27, 3) := by decide +kernel
theorem d1_6 : decode prog_74_method_2_code 6 = .ok (.iload_n 0, 1) := by decide +kernel
theorem d1_7 : decode prog_74_method_2_code 7 = .ok (.bipush 9, 2) := by decide +kernel
theorem d1_9 : decode prog_74_method_2_code 9 = .ok (.if_icmp .eq 21, 3) := by decide +kernel
theorem d1_12 : decode prog_74_method_2_code 12 = .ok (.iload_n 0, 1) := by decide +kernel
theorem d1_13 : decode prog_74_method_2_code 13 = .ok (.bipush 10, 2) := by decide +kernel
theorem d1_15 : decode prog_74_method_2_code 15 = .ok (.if_icmp .eq 15, 3) := by decide +kernel
theorem d1_18 : decode prog_74_method_2_code 18 = .ok (.iload_n 0, 1) := by decide +kernel
theorem d1_19 : decode prog_74_method_2_code 19 = .ok (.bipush 13, 2) := by decide +kernel
theorem d1_21 : decode prog_74_method_2_code 21 = .ok (.if_icmp .eq 9, 3) := by decide +kernel
theorem d1_24 : decode prog_74_method_2_code 24 = .ok (.iload_n 0, 1) := by decide +kernel
theorem d1_25 : decode prog_74_method_2_code 25 = .ok (.bipush 12, 2) := by decide +kernel
theorem d1_27 : decode prog_74_method_2_code 27 = .ok (.if_icmp .ne 7, 3) := by decide +kernel
theorem d1_30 : decode prog_74_method_2_code 30 = .ok (.iconst 1, 1) := by decide +kernel
theorem d1_31 : decode prog_74_method_2_code 31 = .ok (.goto 4, 3) := by decide +kernel
theorem d1_34 : decode prog_74_method_2_code 34 = .ok (.iconst 0, 1) := by decide +kernel
theorem d1_35 : decode prog_74_method_2_code 35 = .ok (.ireturn, 1) := by decide +kernel
theorem pn_com_example_honest_schema_honestschema_SqlLexicon : plainName "com/example/honest_schema/honestschema/SqlLexicon" = true := by first | (simp [plainName, overriddenIn]; done) | decide +kernel
theorem ef_1 (m : MethodId) (x0 : Int32) : entryFrame m #[(.int x0)] 1 = mkF m 0 #[.val (.int x0)] [] := by first | (simp [entryFrame, mkF, argsToLocals, Value.category]; done) | rfl
def own_f1_30 (p0 : Int32) : Int32 := (1 : Int32)
def own_f1 (p0 : Int32) : Int32 := (if p0 = (32 : Int32) then (own_f1_30 p0) else (if p0 = (9 : Int32) then (own_f1_30 p0) else (if p0 = (10 : Int32) then (own_f1_30 p0) else (if p0 = (13 : Int32) then (own_f1_30 p0) else (if p0 = (12 : Int32) then (own_f1_30 p0) else (0 : Int32))))))
def Q1 (Z : State) (p0 : Int32) (h0 : Heap) (n0 : Nat) (v : Option Value) (h : Heap) (L : List Loc) : Prop := v = some (.int (own_f1 p0)) ∧ Fr n0 L ∧ h = h0
set_option maxRecDepth 65536 in
set_option maxHeartbeats 40000000 in
theorem rm1 (l : Launch) (Z : State) (a0 : Array Value) (hw : ∀ d ∈ tables_1, d.before a0 Z = true) (ws : List Jvm.Cond) (p0 : Int32) (h0 : Heap) (n0 : Nat) (Z0 : n0 ≤ h0.size) :
    MetFree l (⟨"com/example/honest_schema/honestschema/SqlLexicon", "isWhiteSpace", "(C)Z"⟩ : MethodName) (head1 (Jvm.Cond.code (⟨"com/example/honest_schema/honestschema/SqlLexicon", "isWhiteSpace", "(C)Z"⟩ : MethodName) prog_74_method_2_code 1 (some .boolean) :: ws) ({ frames := 0, cells := 0, slots := 0, locals := 0 } : Room)) (fun a U => a = #[(.int p0)] ∧ Z.Warmed39 U.vm ∧ U.heap = h0) (fun _ _ _ _ _ => True) (fun _ U o U' => ∃ v L, o = .returned v ∧ Q1 Z p0 h0 n0 v U'.heap L ∧ FrameEnd U o U' L ({ frames := 0, cells := 0, slots := 0, locals := 0 } : Room).cells ({ frames := 0, cells := 0, slots := 0, locals := 0 } : Room).slots) := by
  refine MetFree.of_bodySF (plainFor_of_name pn_com_example_honest_schema_honestschema_SqlLexicon) hisR ?_
  intro p e s m args below meth c s₁ Bd hml0 hP hK
  obtain ⟨rfl, hZ, hh⟩ := hP
  have hx := Bd.exec
  have hby := Bd.bytes
  have hlk := Bd.notSynchronized
  have hrt := Bd.returns
  have hml : c.maxLocals = 1 := hml0
  have hown : s.vm.findClass "com/example/honest_schema/honestschema/SqlLexicon" = some m.cls := findClass_of_methodNamed Bd.named
  have hnm := (name_of_methodNamed Bd.named Bd.method).1
  have X0 : Stand p l e ({ frames := 0, cells := 0, slots := 0, locals := 0 } : Room) s m #[(.int p0)] below meth c s₁ [] 0 0 := Stand.of_body Bd
  have e0 : s₁.heap = h0 := by rw [← hh, Bd.state]; rfl
  have N0 := Fr.nil n0
  have K0 := Keep.refl h0 []
  refine own_out (Q := Q1 Z p0 h0 n0) ?_
  refine own_in (ef_1 m p0) ?_
  have J30 : own_f1 p0 = own_f1_30 p0 → own_Go p.tables e below (own_Fin below s (Q1 Z p0 h0 n0) ({ frames := 0, cells := 0, slots := 0, locals := 0 } : Room).cells ({ frames := 0, cells := 0, slots := 0, locals := 0 } : Room).slots) s₁ (mkF m 30 #[.val (.int p0)] []) := by
    intro hf30
    show own_Go _ _ _ _ s₁ (mkF m 30 #[.val (.int p0)] [])
    refine own_st (fun t k => XS.iconst X0.here hx rfl (hb hby d1_30) k) ?_
    show own_Go _ _ _ _ s₁ (mkF m 31 #[.val (.int p0)] [(.int (1 : Int32))])
    refine own_st (fun t k => XS.goto X0.here hx rfl (pc0 := 31) (pc' := 35) rfl (hb hby d1_31) (by decide) (by decide) k) ?_
    show own_Go _ _ _ _ s₁ (mkF m 35 #[.val (.int p0)] [(.int (1 : Int32))])
    exact own_retN X0 hx hlk (t := .boolean) hrt (by simp) (hb hby d1_35) ⟨(by rw [hf30]; simp only [own_f1_30]; first | rfl | done), N0, e0⟩ (by decide) (by decide)
  show own_Go _ _ _ _ s₁ (mkF m 0 #[.val (.int p0)] [])
  refine own_st (fun t k => XS.iloadN X0.here hx rfl (hb hby d1_0) rfl k) ?_
  show own_Go _ _ _ _ s₁ (mkF m 1 #[.val (.int p0)] [(.int p0)])
  refine own_st (fun t k => XS.bipush X0.here hx rfl (hb hby d1_1) k) ?_
  show own_Go _ _ _ _ s₁ (mkF m 3 #[.val (.int p0)] [(.int (32 : Int32)), (.int p0)])
  by_cases c3_1 : p0 = (32 : Int32)
  ·
    refine own_st (fun t k => XS.icmpYes X0.here hx rfl (pc0 := 3) (pc' := 30) rfl (hb hby d1_3) rfl (teq c3_1).1 (by decide) (by decide) k) ?_
    show own_Go _ _ _ _ s₁ (mkF m 30 #[.val (.int p0)] [])
    exact J30 (by simp only [own_f1, if_pos c3_1]; first | rfl | done)
  ·
    refine own_st (fun t k => XS.icmpNo X0.here hx rfl (hb hby d1_3) rfl (feq c3_1).1 k) ?_
    show own_Go _ _ _ _ s₁ (mkF m 6 #[.val (.int p0)] [])
    refine own_st (fun t k => XS.iloadN X0.here hx rfl (hb hby d1_6) rfl k) ?_
    show own_Go _ _ _ _ s₁ (mkF m 7 #[.val (.int p0)] [(.int p0)])
    refine own_st (fun t k => XS.bipush X0.here hx rfl (hb hby d1_7) k) ?_
    show own_Go _ _ _ _ s₁ (mkF m 9 #[.val (.int p0)] [(.int (9 : Int32)), (.int p0)])
    by_cases c9_2 : p0 = (9 : Int32)
    ·
      refine own_st (fun t k => XS.icmpYes X0.here hx rfl (pc0 := 9) (pc' := 30) rfl (hb hby d1_9) rfl (teq c9_2).1 (by decide) (by decide) k) ?_
      show own_Go _ _ _ _ s₁ (mkF m 30 #[.val (.int p0)] [])
      exact J30 (by simp only [own_f1, if_neg c3_1, if_pos c9_2]; first | rfl | done)
    ·
      refine own_st (fun t k => XS.icmpNo X0.here hx rfl (hb hby d1_9) rfl (feq c9_2).1 k) ?_
      show own_Go _ _ _ _ s₁ (mkF m 12 #[.val (.int p0)] [])
      refine own_st (fun t k => XS.iloadN X0.here hx rfl (hb hby d1_12) rfl k) ?_
      show own_Go _ _ _ _ s₁ (mkF m 13 #[.val (.int p0)] [(.int p0)])
      refine own_st (fun t k => XS.bipush X0.here hx rfl (hb hby d1_13) k) ?_
      show own_Go _ _ _ _ s₁ (mkF m 15 #[.val (.int p0)] [(.int (10 : Int32)), (.int p0)])
      by_cases c15_3 : p0 = (10 : Int32)
      ·
        refine own_st (fun t k => XS.icmpYes X0.here hx rfl (pc0 := 15) (pc' := 30) rfl (hb hby d1_15) rfl (teq c15_3).1 (by decide) (by decide) k) ?_
        show own_Go _ _ _ _ s₁ (mkF m 30 #[.val (.int p0)] [])
        exact J30 (by simp only [own_f1, if_neg c3_1, if_neg c9_2, if_pos c15_3]; first | rfl | done)
      ·
        refine own_st (fun t k => XS.icmpNo X0.here hx rfl (hb hby d1_15) rfl (feq c15_3).1 k) ?_
        show own_Go _ _ _ _ s₁ (mkF m 18 #[.val (.int p0)] [])
        refine own_st (fun t k => XS.iloadN X0.here hx rfl (hb hby d1_18) rfl k) ?_
        show own_Go _ _ _ _ s₁ (mkF m 19 #[.val (.int p0)] [(.int p0)])
        refine own_st (fun t k => XS.bipush X0.here hx rfl (hb hby d1_19) k) ?_
        show own_Go _ _ _ _ s₁ (mkF m 21 #[.val (.int p0)] [(.int (13 : Int32)), (.int p0)])
        by_cases c21_4 : p0 = (13 : Int32)
        ·
          refine own_st (fun t k => XS.icmpYes X0.here hx rfl (pc0 := 21) (pc' := 30) rfl (hb hby d1_21) rfl (teq c21_4).1 (by decide) (by decide) k) ?_
          show own_Go _ _ _ _ s₁ (mkF m 30 #[.val (.int p0)] [])
          exact J30 (by simp only [own_f1, if_neg c3_1, if_neg c9_2, if_neg c15_3, if_pos c21_4]; first | rfl | done)
        ·
          refine own_st (fun t k => XS.icmpNo X0.here hx rfl (hb hby d1_21) rfl (feq c21_4).1 k) ?_
          show own_Go _ _ _ _ s₁ (mkF m 24 #[.val (.int p0)] [])
          refine own_st (fun t k => XS.iloadN X0.here hx rfl (hb hby d1_24) rfl k) ?_
          show own_Go _ _ _ _ s₁ (mkF m 25 #[.val (.int p0)] [(.int p0)])
          refine own_st (fun t k => XS.bipush X0.here hx rfl (hb hby d1_25) k) ?_
          show own_Go _ _ _ _ s₁ (mkF m 27 #[.val (.int p0)] [(.int (12 : Int32)), (.int p0)])
          by_cases c27_5 : p0 = (12 : Int32)
          ·
            refine own_st (fun t k => XS.icmpNo X0.here hx rfl (hb hby d1_27) rfl (teq c27_5).2 k) ?_
            show own_Go _ _ _ _ s₁ (mkF m 30 #[.val (.int p0)] [])
            exact J30 (by simp only [own_f1, if_neg c3_1, if_neg c9_2, if_neg c15_3, if_neg c21_4, if_pos c27_5]; first | rfl | done)
          ·
            refine own_st (fun t k => XS.icmpYes X0.here hx rfl (pc0 := 27) (pc' := 34) rfl (hb hby d1_27) rfl (feq c27_5).2 (by decide) (by decide) k) ?_
            show own_Go _ _ _ _ s₁ (mkF m 34 #[.val (.int p0)] [])
            refine own_st (fun t k => XS.iconst X0.here hx rfl (hb hby d1_34) k) ?_
            show own_Go _ _ _ _ s₁ (mkF m 35 #[.val (.int p0)] [(.int (0 : Int32))])
            exact own_retN X0 hx hlk (t := .boolean) hrt (by simp) (hb hby d1_35) ⟨(by simp only [own_f1, if_neg c3_1, if_neg c9_2, if_neg c15_3, if_neg c21_4, if_neg c27_5]; first | rfl | done), N0, e0⟩ (by decide) (by decide)
/-! body 2: SqlLexiconIsWhiteSpacePinLaw.expected -/
theorem d2_0 : decode method_2_code 0 = .ok (.iload_n 0, 1) := by decide +kernel
theorem d2_1 : decode method_2_code 1 = .ok (.istore_n 1, 1) := by decide +kernel
theorem d2_2 : decode method_2_code 2 = .ok (.iload_n 1, 1) := by decide +kernel
theorem d2_3 : decode method_2_code 3 = .ok (.bipush 32, 2) := by decide +kernel
theorem d2_5 : decode method_2_code 5 = .ok (.if_icmp .le 5, 3) := by decide +kernel
theorem d2_8 : decode method_2_code 8 = .ok (.iconst 0, 1) := by decide +kernel
theorem d2_9 : decode method_2_code 9 = .ok (.ireturn, 1) := by decide +kernel
theorem d2_10 : decode method_2_code 10 = .ok (.ldc2_w 9, 3) := by decide +kernel
theorem d2_13 : decode method_2_code 13 = .ok (.iload_n 1, 1) := by decide +kernel
theorem d2_14 : decode method_2_code 14 = .ok (.lushr, 1) := by decide +kernel
theorem d2_15 : decode method_2_code 15 = .ok (.lconst 1, 1) := by decide +kernel
theorem d2_16 : decode method_2_code 16 = .ok (.land, 1) := by decide +kernel
theorem d2_17 : decode method_2_code 17 = .ok (.lconst 1, 1) := by decide +kernel
theorem d2_18 : decode method_2_code 18 = .ok (.lcmp, 1) := by decide +kernel
theorem d2_19 : decode method_2_code 19 = .ok (.ifCond .ne 7, 3) := by decide +kernel
theorem d2_22 : decode method_2_code 22 = .ok (.iconst 1, 1) := by decide +kernel
theorem d2_23 : decode method_2_code 23 = .ok (.goto 4, 3) := by decide +kernel
theorem d2_26 : decode method_2_code 26 = .ok (.iconst 0, 1) := by decide +kernel
theorem d2_27 : decode method_2_code 27 = .ok (.ireturn, 1) := by decide +kernel
theorem pn_com_example_honest_schema_honestschema_SqlLexiconIsWhiteSpacePinLaw : plainName "com/example/honest_schema/honestschema/SqlLexiconIsWhiteSpacePinLaw" = true := by first | (simp [plainName, overriddenIn]; done) | decide +kernel
theorem ef_2 (m : MethodId) (x0 : Int32) : entryFrame m #[(.int x0)] 2 = mkF m 0 #[.val (.int x0), .unset] [] := by first | (simp [entryFrame, mkF, argsToLocals, Value.category]; done) | rfl
def own_f2 (p0 : Int32) : Int32 := (if (32 : Int32) < p0 then (0 : Int32) else (if ((((4294981120 : Int64).toUInt64 >>> (p0 &&& 0x3f).toInt64.toUInt64).toInt64) &&& (1 : Int64)) = (1 : Int64) then (1 : Int32) else (0 : Int32)))
def Q2 (Z : State) (p0 : Int32) (h0 : Heap) (n0 : Nat) (v : Option Value) (h : Heap) (L : List Loc) : Prop := v = some (.int (own_f2 p0)) ∧ Fr n0 L ∧ h = h0
set_option maxRecDepth 65536 in
set_option maxHeartbeats 40000000 in
theorem rm2 (l : Launch) (Z : State) (a0 : Array Value) (hw : ∀ d ∈ tables_1, d.before a0 Z = true) (ws : List Jvm.Cond) (p0 : Int32) (h0 : Heap) (n0 : Nat) (Z0 : n0 ≤ h0.size) :
    MetFree l (⟨"com/example/honest_schema/honestschema/SqlLexiconIsWhiteSpacePinLaw", "expected", "(C)Z"⟩ : MethodName) (head1 (Jvm.Cond.code (⟨"com/example/honest_schema/honestschema/SqlLexiconIsWhiteSpacePinLaw", "expected", "(C)Z"⟩ : MethodName) method_2_code 2 (some .boolean) :: ws) ({ frames := 0, cells := 0, slots := 0, locals := 0 } : Room)) (fun a U => a = #[(.int p0)] ∧ Z.Warmed39 U.vm ∧ U.heap = h0) (fun _ _ _ _ _ => True) (fun _ U o U' => ∃ v L, o = .returned v ∧ Q2 Z p0 h0 n0 v U'.heap L ∧ FrameEnd U o U' L ({ frames := 0, cells := 0, slots := 0, locals := 0 } : Room).cells ({ frames := 0, cells := 0, slots := 0, locals := 0 } : Room).slots) := by
  refine MetFree.of_bodySF (plainFor_of_name pn_com_example_honest_schema_honestschema_SqlLexiconIsWhiteSpacePinLaw) hisR ?_
  intro p e s m args below meth c s₁ Bd hml0 hP hK
  obtain ⟨rfl, hZ, hh⟩ := hP
  have hx := Bd.exec
  have hby := Bd.bytes
  have hlk := Bd.notSynchronized
  have hrt := Bd.returns
  have hml : c.maxLocals = 2 := hml0
  have hown : s.vm.findClass "com/example/honest_schema/honestschema/SqlLexiconIsWhiteSpacePinLaw" = some m.cls := findClass_of_methodNamed Bd.named
  have hnm := (name_of_methodNamed Bd.named Bd.method).1
  have X0 : Stand p l e ({ frames := 0, cells := 0, slots := 0, locals := 0 } : Room) s m #[(.int p0)] below meth c s₁ [] 0 0 := Stand.of_body Bd
  have e0 : s₁.heap = h0 := by rw [← hh, Bd.state]; rfl
  have N0 := Fr.nil n0
  have K0 := Keep.refl h0 []
  refine own_out (Q := Q2 Z p0 h0 n0) ?_
  refine own_in (ef_2 m p0) ?_
  show own_Go _ _ _ _ s₁ (mkF m 0 #[.val (.int p0), .unset] [])
  refine own_st (fun t k => XS.iloadN X0.here hx rfl (hb hby d2_0) rfl k) ?_
  show own_Go _ _ _ _ s₁ (mkF m 1 #[.val (.int p0), .unset] [(.int p0)])
  refine own_st (fun t k => XS.istoreN X0.here hx rfl (hb hby d2_1) rfl (l' := #[.val (.int p0), .val (.int p0)]) rfl k) ?_
  show own_Go _ _ _ _ s₁ (mkF m 2 #[.val (.int p0), .val (.int p0)] [])
  refine own_st (fun t k => XS.iloadN X0.here hx rfl (hb hby d2_2) rfl k) ?_
  show own_Go _ _ _ _ s₁ (mkF m 3 #[.val (.int p0), .val (.int p0)] [(.int p0)])
  refine own_st (fun t k => XS.bipush X0.here hx rfl (hb hby d2_3) k) ?_
  show own_Go _ _ _ _ s₁ (mkF m 5 #[.val (.int p0), .val (.int p0)] [(.int (32 : Int32)), (.int p0)])
  by_cases c5_1 : (32 : Int32) < p0
  ·
    refine own_st (fun t k => XS.icmpNo X0.here hx rfl (hb hby d2_5) rfl (tlt c5_1).2.2.2 k) ?_
    show own_Go _ _ _ _ s₁ (mkF m 8 #[.val (.int p0), .val (.int p0)] [])
    refine own_st (fun t k => XS.iconst X0.here hx rfl (hb hby d2_8) k) ?_
    show own_Go _ _ _ _ s₁ (mkF m 9 #[.val (.int p0), .val (.int p0)] [(.int (0 : Int32))])
    exact own_retN X0 hx hlk (t := .boolean) hrt (by simp) (hb hby d2_9) ⟨(by simp only [own_f2, if_pos c5_1]; first | rfl | done), N0, e0⟩ (by decide) (by decide)
  ·
    refine own_st (fun t k => XS.icmpYes X0.here hx rfl (pc0 := 5) (pc' := 10) rfl (hb hby d2_5) rfl (flt c5_1).2.2.2 (by decide) (by decide) k) ?_
    show own_Go _ _ _ _ s₁ (mkF m 10 #[.val (.int p0), .val (.int p0)] [])
    refine own_st (X0.ldc2Long hx hown (mvT hZ (hw _ (List.mem_of_getElem? (i := 8) rfl))) (g := (mkF m 10 #[.val (.int p0), .val (.int p0)] [])) rfl (hb hby d2_10)) ?_
    show own_Go _ _ _ _ s₁ (mkF m 13 #[.val (.int p0), .val (.int p0)] [(.long (4294981120 : Int64))])
    refine own_st (fun t k => XS.iloadN X0.here hx rfl (hb hby d2_13) rfl k) ?_
    show own_Go _ _ _ _ s₁ (mkF m 14 #[.val (.int p0), .val (.int p0)] [(.int p0), (.long (4294981120 : Int64))])
    refine own_st (fun t k => XS.lushr X0.here hx rfl (hb hby d2_14) rfl k) ?_
    show own_Go _ _ _ _ s₁ (mkF m 15 #[.val (.int p0), .val (.int p0)] [(.long (((4294981120 : Int64).toUInt64 >>> (p0 &&& 0x3f).toInt64.toUInt64).toInt64))])
    refine own_st (fun t k => XS.lconst X0.here hx rfl (hb hby d2_15) k) ?_
    show own_Go _ _ _ _ s₁ (mkF m 16 #[.val (.int p0), .val (.int p0)] [(.long (1 : Int64)), (.long (((4294981120 : Int64).toUInt64 >>> (p0 &&& 0x3f).toInt64.toUInt64).toInt64))])
    refine own_st (fun t k => XS.land X0.here hx rfl (hb hby d2_16) rfl k) ?_
    show own_Go _ _ _ _ s₁ (mkF m 17 #[.val (.int p0), .val (.int p0)] [(.long ((((4294981120 : Int64).toUInt64 >>> (p0 &&& 0x3f).toInt64.toUInt64).toInt64) &&& (1 : Int64)))])
    refine own_st (fun t k => XS.lconst X0.here hx rfl (hb hby d2_17) k) ?_
    show own_Go _ _ _ _ s₁ (mkF m 18 #[.val (.int p0), .val (.int p0)] [(.long (1 : Int64)), (.long ((((4294981120 : Int64).toUInt64 >>> (p0 &&& 0x3f).toInt64.toUInt64).toInt64) &&& (1 : Int64)))])
    refine own_st (fun t k => XS.lcmp X0.here hx rfl (hb hby d2_18) rfl k) ?_
    show own_Go _ _ _ _ s₁ (mkF m 19 #[.val (.int p0), .val (.int p0)] [(.int (lcmpW ((((4294981120 : Int64).toUInt64 >>> (p0 &&& 0x3f).toInt64.toUInt64).toInt64) &&& (1 : Int64)) (1 : Int64)))])
    by_cases c19_2 : ((((4294981120 : Int64).toUInt64 >>> (p0 &&& 0x3f).toInt64.toUInt64).toInt64) &&& (1 : Int64)) = (1 : Int64)
    ·
      refine own_st (fun t k => XS.ifNo X0.here hx rfl (hb hby d2_19) rfl ((if0 _ _).trans (teq ((lw_eq _ _).mpr c19_2)).2) k) ?_
      show own_Go _ _ _ _ s₁ (mkF m 22 #[.val (.int p0), .val (.int p0)] [])
      refine own_st (fun t k => XS.iconst X0.here hx rfl (hb hby d2_22) k) ?_
      show own_Go _ _ _ _ s₁ (mkF m 23 #[.val (.int p0), .val (.int p0)] [(.int (1 : Int32))])
      refine own_st (fun t k => XS.goto X0.here hx rfl (pc0 := 23) (pc' := 27) rfl (hb hby d2_23) (by decide) (by decide) k) ?_
      show own_Go _ _ _ _ s₁ (mkF m 27 #[.val (.int p0), .val (.int p0)] [(.int (1 : Int32))])
      exact own_retN X0 hx hlk (t := .boolean) hrt (by simp) (hb hby d2_27) ⟨(by simp only [own_f2, if_neg c5_1, if_pos c19_2]; first | rfl | done), N0, e0⟩ (by decide) (by decide)
    ·
      refine own_st (fun t k => XS.ifYes X0.here hx rfl (pc0 := 19) (pc' := 26) rfl (hb hby d2_19) rfl ((if0 _ _).trans (feq (fun q => c19_2 ((lw_eq _ _).mp q))).2) (by decide) (by decide) k) ?_
      show own_Go _ _ _ _ s₁ (mkF m 26 #[.val (.int p0), .val (.int p0)] [])
      refine own_st (fun t k => XS.iconst X0.here hx rfl (hb hby d2_26) k) ?_
      show own_Go _ _ _ _ s₁ (mkF m 27 #[.val (.int p0), .val (.int p0)] [(.int (0 : Int32))])
      exact own_retN X0 hx hlk (t := .boolean) hrt (by simp) (hb hby d2_27) ⟨(by simp only [own_f2, if_neg c5_1, if_neg c19_2]; first | rfl | done), N0, e0⟩ (by decide) (by decide)

theorem own_small : ∀ n : Fin 33, own_f1 (Int32.ofNat n.val) = own_f2 (Int32.ofNat n.val) := by decide +kernel
theorem own_eqc (c : Int32) (h0 : 0 ≤ c.toInt) : own_f1 c = own_f2 c := by
  by_cases hb : c.toInt < 33
  · have e : c = Int32.ofNat c.toInt.toNat := by
      apply Int32.toInt_inj.mp
      rw [Int32.toInt_ofNat_of_lt (by omega)]
      omega
    have h := own_small ⟨c.toInt.toNat, by omega⟩
    rw [e]
    exact h
  · have a1 : ¬ c = (32 : Int32) := by intro q; subst q; exact hb (by decide)
    have a2 : ¬ c = (9 : Int32) := by intro q; subst q; exact hb (by decide)
    have a3 : ¬ c = (10 : Int32) := by intro q; subst q; exact hb (by decide)
    have a4 : ¬ c = (13 : Int32) := by intro q; subst q; exact hb (by decide)
    have a5 : ¬ c = (12 : Int32) := by intro q; subst q; exact hb (by decide)
    have a6 : (32 : Int32) < c := by rw [Int32.lt_iff_toInt_lt]; simp only [Int32.reduceToInt]; omega
    simp only [own_f1, own_f1_30, own_f2, if_neg a1, if_neg a2, if_neg a3, if_neg a4, if_neg a5, if_pos a6]
theorem own_eq (x : Int32) : own_f1 (x.toUInt32.toUInt16.toUInt32.toInt32) = own_f2 (x.toUInt32.toUInt16.toUInt32.toInt32) :=
  own_eqc _ (c_i2c x).2.1

theorem pd__28C_29Z : parseMethodDescriptor "(C)Z" = some ⟨[.char], some .boolean⟩ := by decide +kernel
/-! body 0: SqlLexiconIsWhiteSpacePinLaw.law -/
theorem ef_0 (m : MethodId) (x0 : Int32) (x1 : Int32) (x2 : Int32) : entryFrame m #[(.int x0), (.int x1), (.int x2)] maxLocals = mkF m 0 #[.val (.int x0), .val (.int x1), .val (.int x2), .unset] [] := by first | (simp [entryFrame, mkF, argsToLocals, Value.category, maxLocals]; done) | rfl
def Q0 (Z : State) (p0 : Int32) (p1 : Int32) (p2 : Int32) (h0 : Heap) (n0 : Nat) (v : Option Value) (h : Heap) (L : List Loc) : Prop := v = some (.int (1 : Int32)) ∧ Fr n0 L
set_option maxRecDepth 65536 in
set_option maxHeartbeats 40000000 in
theorem rm0 (l : Launch) (Z : State) (a0 : Array Value) (hw : ∀ d ∈ tables_1, d.before a0 Z = true) (ws : List Jvm.Cond) (p0 : Int32) (p1 : Int32) (p2 : Int32) (h0 : Heap) (n0 : Nat) (Z0 : n0 ≤ h0.size) :
    MetFree l x (head1 (Jvm.Cond.code x code maxLocals ret :: ws) room_1) (fun a U => a = #[(.int p0), (.int p1), (.int p2)] ∧ Z.Warmed39 U.vm ∧ U.heap = h0) (fun _ _ _ _ _ => True) (fun _ U o U' => ∃ v L, o = .returned v ∧ Q0 Z p0 p1 p2 h0 n0 v U'.heap L ∧ FrameEnd U o U' L 0 0) := by
  refine MetFree.of_bodySF (plainFor_of_name pn_com_example_honest_schema_honestschema_SqlLexiconIsWhiteSpacePinLaw) hisR ?_
  intro p e s m args below meth c s₁ Bd hml0 hP hK
  obtain ⟨rfl, hZ, hh⟩ := hP
  have hx := Bd.exec
  have hby := Bd.bytes
  have hlk := Bd.notSynchronized
  have hrt := Bd.returns
  have hml : c.maxLocals = 4 := hml0
  have hown : s.vm.findClass "com/example/honest_schema/honestschema/SqlLexiconIsWhiteSpacePinLaw" = some m.cls := findClass_of_methodNamed Bd.named
  have hnm := (name_of_methodNamed Bd.named Bd.method).1
  have X0 : Stand p l e room_1 s m #[(.int p0), (.int p1), (.int p2)] below meth c s₁ [] 0 0 := Stand.of_body Bd
  have e0 : s₁.heap = h0 := by rw [← hh, Bd.state]; rfl
  have N0 := Fr.nil n0
  have K0 := Keep.refl h0 []
  refine own_out (Q := Q0 Z p0 p1 p2 h0 n0) ?_
  refine own_in (ef_0 m p0 p1 p2) ?_
  show own_Go _ _ _ _ s₁ (mkF m 0 #[.val (.int p0), .val (.int p1), .val (.int p2), .unset] [])
  refine own_st (fun t k => XS.iloadN X0.here hx rfl (hb hby at_0) rfl k) ?_
  show own_Go _ _ _ _ s₁ (mkF m 1 #[.val (.int p0), .val (.int p1), .val (.int p2), .unset] [(.int p2)])
  refine own_st (fun t k => XS.iconst X0.here hx rfl (hb hby at_1) k) ?_
  show own_Go _ _ _ _ s₁ (mkF m 2 #[.val (.int p0), .val (.int p1), .val (.int p2), .unset] [(.int (1 : Int32)), (.int p2)])
  refine own_st (fun t k => XS.iand X0.here hx rfl (hb hby at_2) rfl k) ?_
  show own_Go _ _ _ _ s₁ (mkF m 3 #[.val (.int p0), .val (.int p1), .val (.int p2), .unset] [(.int (p2 &&& (1 : Int32)))])
  by_cases c3_1 : (p2 &&& (1 : Int32)) = (0 : Int32)
  ·
    refine own_st (fun t k => XS.ifYes X0.here hx rfl (pc0 := 3) (pc' := 15) rfl (hb hby at_3) rfl ((if0 _ _).trans (teq c3_1).1) (by decide) (by decide) k) ?_
    show own_Go _ _ _ _ s₁ (mkF m 15 #[.val (.int p0), .val (.int p1), .val (.int p2), .unset] [])
    refine own_st (fun t k => XS.iloadN X0.here hx rfl (hb hby at_15) rfl k) ?_
    show own_Go _ _ _ _ s₁ (mkF m 16 #[.val (.int p0), .val (.int p1), .val (.int p2), .unset] [(.int p0)])
    refine own_st (fun t k => XS.i2c X0.here hx rfl (hb hby at_16) rfl k) ?_
    show own_Go _ _ _ _ s₁ (mkF m 17 #[.val (.int p0), .val (.int p1), .val (.int p2), .unset] [(.int (p0.toUInt32.toUInt16.toUInt32.toInt32))])
    refine own_st (fun t k => XS.istoreN X0.here hx rfl (hb hby at_17) rfl (l' := #[.val (.int p0), .val (.int p1), .val (.int p2), .val (.int (p0.toUInt32.toUInt16.toUInt32.toInt32))]) rfl k) ?_
    show own_Go _ _ _ _ s₁ (mkF m 18 #[.val (.int p0), .val (.int p1), .val (.int p2), .val (.int (p0.toUInt32.toUInt16.toUInt32.toInt32))] [])
    refine own_st (fun t k => XS.iloadN X0.here hx rfl (hb hby at_18) rfl k) ?_
    show own_Go _ _ _ _ s₁ (mkF m 19 #[.val (.int p0), .val (.int p1), .val (.int p2), .val (.int (p0.toUInt32.toUInt16.toUInt32.toInt32))] [(.int (p0.toUInt32.toUInt16.toUInt32.toInt32))])
    obtain ⟨_, _, ⟨T2, L2, k2, n2⟩, -, X2, ⟨Lc2, hQ2, l2, y2, z2⟩, st2⟩ := Jvm.LawKit.callS X0 hx (y := (⟨"com/example/honest_schema/honestschema/SqlLexicon", "isWhiteSpace", "(C)Z"⟩ : MethodName)) hown (mvT hZ (hw _ (List.mem_of_getElem? (i := 0) rfl))) (mvT hZ (hw _ (List.mem_of_getElem? (i := 1) rfl))) (mvT hZ (hw _ (List.mem_of_getElem? (i := 2) rfl))) (mvT hZ (hw _ (List.mem_of_getElem? (i := 3) rfl))) (by decide) (backOf (W := 0) (rm1 l Z a0 hw [] (p0.toUInt32.toUInt16.toUInt32.toInt32)  h0 n0 Z0 ) hZ (hw _ (List.mem_of_getElem? (i := 3) rfl)) (hw _ (List.mem_of_getElem? (i := 2) rfl)) (by decide) (by decide)) (g := (mkF m 19 #[.val (.int p0), .val (.int p1), .val (.int p2), .val (.int (p0.toUInt32.toUInt16.toUInt32.toInt32))] [(.int (p0.toUInt32.toUInt16.toUInt32.toInt32))])) rfl (by rw [hml]; rfl) (argsL := [(.int (p0.toUInt32.toUInt16.toUInt32.toInt32))]) (rest := []) (lenOf pd__28C_29Z rfl) rfl (by show 2 * 0 + _ ≤ _; exact Nat.le_of_eq rfl) (hb hby at_19) (fun _ _ => ⟨rfl, e0, (by decide : 0 + 0 ≤ _), (by decide : 0 + 0 ≤ _)⟩)
    dsimp only [Pt.U, Pt.locs, Pt.cells, Pt.slots] at X2 l2 y2 z2 st2 hQ2
    subst l2 y2 z2
    obtain ⟨rfl, N2q, e2⟩ := hQ2
    have N2 := Fr.app N0 N2q
    refine own_st st2 ?_
    show own_Go _ _ _ _ T2 (mkF m 22 #[.val (.int p0), .val (.int p1), .val (.int p2), .val (.int (p0.toUInt32.toUInt16.toUInt32.toInt32))] [(.int (own_f1 (p0.toUInt32.toUInt16.toUInt32.toInt32)))])
    refine own_st (fun t k => XS.iloadN X2.here hx rfl (hb hby at_22) rfl k) ?_
    show own_Go _ _ _ _ T2 (mkF m 23 #[.val (.int p0), .val (.int p1), .val (.int p2), .val (.int (p0.toUInt32.toUInt16.toUInt32.toInt32))] [(.int (p0.toUInt32.toUInt16.toUInt32.toInt32)), (.int (own_f1 (p0.toUInt32.toUInt16.toUInt32.toInt32)))])
    obtain ⟨_, _, ⟨T3, L3, k3, n3⟩, -, X3, ⟨Lc3, hQ3, l3, y3, z3⟩, st3⟩ := Jvm.LawKit.callS X2 hx (y := (⟨"com/example/honest_schema/honestschema/SqlLexiconIsWhiteSpacePinLaw", "expected", "(C)Z"⟩ : MethodName)) hown (mvT hZ (hw _ (List.mem_of_getElem? (i := 4) rfl))) (mvT hZ (hw _ (List.mem_of_getElem? (i := 5) rfl))) (mvT hZ (hw _ (List.mem_of_getElem? (i := 6) rfl))) (mvT hZ (hw _ (List.mem_of_getElem? (i := 7) rfl))) (by decide) (backOf (W := 1) (rm2 l Z a0 hw [] (p0.toUInt32.toUInt16.toUInt32.toInt32)  h0 n0 Z0 ) hZ (hw _ (List.mem_of_getElem? (i := 7) rfl)) (hw _ (List.mem_of_getElem? (i := 6) rfl)) (by decide) (by decide)) (g := (mkF m 23 #[.val (.int p0), .val (.int p1), .val (.int p2), .val (.int (p0.toUInt32.toUInt16.toUInt32.toInt32))] [(.int (p0.toUInt32.toUInt16.toUInt32.toInt32)), (.int (own_f1 (p0.toUInt32.toUInt16.toUInt32.toInt32)))])) rfl (by rw [hml]; rfl) (argsL := [(.int (p0.toUInt32.toUInt16.toUInt32.toInt32))]) (rest := [(.int (own_f1 (p0.toUInt32.toUInt16.toUInt32.toInt32)))]) (lenOf pd__28C_29Z rfl) rfl (by show 2 * 0 + _ ≤ _; exact Nat.le_of_eq rfl) (hb hby at_23) (fun _ _ => ⟨rfl, e2, (by decide : 0 + 0 ≤ _), (by decide : 0 + 0 ≤ _)⟩)
    dsimp only [Pt.U, Pt.locs, Pt.cells, Pt.slots] at X3 l3 y3 z3 st3 hQ3
    subst l3 y3 z3
    obtain ⟨rfl, N3q, e3⟩ := hQ3
    have N3 := Fr.app N2 N3q
    refine own_st st3 ?_
    show own_Go _ _ _ _ T3 (mkF m 26 #[.val (.int p0), .val (.int p1), .val (.int p2), .val (.int (p0.toUInt32.toUInt16.toUInt32.toInt32))] [(.int (own_f2 (p0.toUInt32.toUInt16.toUInt32.toInt32))), (.int (own_f1 (p0.toUInt32.toUInt16.toUInt32.toInt32)))])
    refine own_st (fun t k => XS.icmpNo X3.here hx rfl (hb hby at_26) rfl (teq (own_eq _ : (own_f1 (p0.toUInt32.toUInt16.toUInt32.toInt32)) = (own_f2 (p0.toUInt32.toUInt16.toUInt32.toInt32)))).2 k) ?_
    show own_Go _ _ _ _ T3 (mkF m 29 #[.val (.int p0), .val (.int p1), .val (.int p2), .val (.int (p0.toUInt32.toUInt16.toUInt32.toInt32))] [])
    refine own_st (fun t k => XS.iconst X3.here hx rfl (hb hby at_29) k) ?_
    show own_Go _ _ _ _ T3 (mkF m 30 #[.val (.int p0), .val (.int p1), .val (.int p2), .val (.int (p0.toUInt32.toUInt16.toUInt32.toInt32))] [(.int (1 : Int32))])
    refine own_st (fun t k => XS.goto X3.here hx rfl (pc0 := 30) (pc' := 34) rfl (hb hby at_30) (by decide) (by decide) k) ?_
    show own_Go _ _ _ _ T3 (mkF m 34 #[.val (.int p0), .val (.int p1), .val (.int p2), .val (.int (p0.toUInt32.toUInt16.toUInt32.toInt32))] [(.int (1 : Int32))])
    exact own_retN X3 hx hlk (t := .boolean) hrt (by simp) (hb hby at_34) ⟨rfl, N3⟩ (by decide) (by decide)
  ·
    refine own_st (fun t k => XS.ifNo X0.here hx rfl (hb hby at_3) rfl ((if0 _ _).trans (feq c3_1).1) k) ?_
    show own_Go _ _ _ _ s₁ (mkF m 6 #[.val (.int p0), .val (.int p1), .val (.int p2), .unset] [])
    refine own_st (fun t k => XS.iloadN X0.here hx rfl (hb hby at_6) rfl k) ?_
    show own_Go _ _ _ _ s₁ (mkF m 7 #[.val (.int p0), .val (.int p1), .val (.int p2), .unset] [(.int p1)])
    refine own_st (fun t k => XS.bipush X0.here hx rfl (hb hby at_7) k) ?_
    show own_Go _ _ _ _ s₁ (mkF m 9 #[.val (.int p0), .val (.int p1), .val (.int p2), .unset] [(.int (63 : Int32)), (.int p1)])
    refine own_st (fun t k => XS.iand X0.here hx rfl (hb hby at_9) rfl k) ?_
    show own_Go _ _ _ _ s₁ (mkF m 10 #[.val (.int p0), .val (.int p1), .val (.int p2), .unset] [(.int (p1 &&& (63 : Int32)))])
    refine own_st (fun t k => XS.i2c X0.here hx rfl (hb hby at_10) rfl k) ?_
    show own_Go _ _ _ _ s₁ (mkF m 11 #[.val (.int p0), .val (.int p1), .val (.int p2), .unset] [(.int ((p1 &&& (63 : Int32)).toUInt32.toUInt16.toUInt32.toInt32))])
    refine own_st (fun t k => XS.istoreN X0.here hx rfl (hb hby at_11) rfl (l' := #[.val (.int p0), .val (.int p1), .val (.int p2), .val (.int ((p1 &&& (63 : Int32)).toUInt32.toUInt16.toUInt32.toInt32))]) rfl k) ?_
    show own_Go _ _ _ _ s₁ (mkF m 12 #[.val (.int p0), .val (.int p1), .val (.int p2), .val (.int ((p1 &&& (63 : Int32)).toUInt32.toUInt16.toUInt32.toInt32))] [])
    refine own_st (fun t k => XS.goto X0.here hx rfl (pc0 := 12) (pc' := 18) rfl (hb hby at_12) (by decide) (by decide) k) ?_
    show own_Go _ _ _ _ s₁ (mkF m 18 #[.val (.int p0), .val (.int p1), .val (.int p2), .val (.int ((p1 &&& (63 : Int32)).toUInt32.toUInt16.toUInt32.toInt32))] [])
    refine own_st (fun t k => XS.iloadN X0.here hx rfl (hb hby at_18) rfl k) ?_
    show own_Go _ _ _ _ s₁ (mkF m 19 #[.val (.int p0), .val (.int p1), .val (.int p2), .val (.int ((p1 &&& (63 : Int32)).toUInt32.toUInt16.toUInt32.toInt32))] [(.int ((p1 &&& (63 : Int32)).toUInt32.toUInt16.toUInt32.toInt32))])
    obtain ⟨_, _, ⟨T4, L4, k4, n4⟩, -, X4, ⟨Lc4, hQ4, l4, y4, z4⟩, st4⟩ := Jvm.LawKit.callS X0 hx (y := (⟨"com/example/honest_schema/honestschema/SqlLexicon", "isWhiteSpace", "(C)Z"⟩ : MethodName)) hown (mvT hZ (hw _ (List.mem_of_getElem? (i := 0) rfl))) (mvT hZ (hw _ (List.mem_of_getElem? (i := 1) rfl))) (mvT hZ (hw _ (List.mem_of_getElem? (i := 2) rfl))) (mvT hZ (hw _ (List.mem_of_getElem? (i := 3) rfl))) (by decide) (backOf (W := 0) (rm1 l Z a0 hw [] ((p1 &&& (63 : Int32)).toUInt32.toUInt16.toUInt32.toInt32)  h0 n0 Z0 ) hZ (hw _ (List.mem_of_getElem? (i := 3) rfl)) (hw _ (List.mem_of_getElem? (i := 2) rfl)) (by decide) (by decide)) (g := (mkF m 19 #[.val (.int p0), .val (.int p1), .val (.int p2), .val (.int ((p1 &&& (63 : Int32)).toUInt32.toUInt16.toUInt32.toInt32))] [(.int ((p1 &&& (63 : Int32)).toUInt32.toUInt16.toUInt32.toInt32))])) rfl (by rw [hml]; rfl) (argsL := [(.int ((p1 &&& (63 : Int32)).toUInt32.toUInt16.toUInt32.toInt32))]) (rest := []) (lenOf pd__28C_29Z rfl) rfl (by show 2 * 0 + _ ≤ _; exact Nat.le_of_eq rfl) (hb hby at_19) (fun _ _ => ⟨rfl, e0, (by decide : 0 + 0 ≤ _), (by decide : 0 + 0 ≤ _)⟩)
    dsimp only [Pt.U, Pt.locs, Pt.cells, Pt.slots] at X4 l4 y4 z4 st4 hQ4
    subst l4 y4 z4
    obtain ⟨rfl, N4q, e4⟩ := hQ4
    have N4 := Fr.app N0 N4q
    refine own_st st4 ?_
    show own_Go _ _ _ _ T4 (mkF m 22 #[.val (.int p0), .val (.int p1), .val (.int p2), .val (.int ((p1 &&& (63 : Int32)).toUInt32.toUInt16.toUInt32.toInt32))] [(.int (own_f1 ((p1 &&& (63 : Int32)).toUInt32.toUInt16.toUInt32.toInt32)))])
    refine own_st (fun t k => XS.iloadN X4.here hx rfl (hb hby at_22) rfl k) ?_
    show own_Go _ _ _ _ T4 (mkF m 23 #[.val (.int p0), .val (.int p1), .val (.int p2), .val (.int ((p1 &&& (63 : Int32)).toUInt32.toUInt16.toUInt32.toInt32))] [(.int ((p1 &&& (63 : Int32)).toUInt32.toUInt16.toUInt32.toInt32)), (.int (own_f1 ((p1 &&& (63 : Int32)).toUInt32.toUInt16.toUInt32.toInt32)))])
    obtain ⟨_, _, ⟨T5, L5, k5, n5⟩, -, X5, ⟨Lc5, hQ5, l5, y5, z5⟩, st5⟩ := Jvm.LawKit.callS X4 hx (y := (⟨"com/example/honest_schema/honestschema/SqlLexiconIsWhiteSpacePinLaw", "expected", "(C)Z"⟩ : MethodName)) hown (mvT hZ (hw _ (List.mem_of_getElem? (i := 4) rfl))) (mvT hZ (hw _ (List.mem_of_getElem? (i := 5) rfl))) (mvT hZ (hw _ (List.mem_of_getElem? (i := 6) rfl))) (mvT hZ (hw _ (List.mem_of_getElem? (i := 7) rfl))) (by decide) (backOf (W := 1) (rm2 l Z a0 hw [] ((p1 &&& (63 : Int32)).toUInt32.toUInt16.toUInt32.toInt32)  h0 n0 Z0 ) hZ (hw _ (List.mem_of_getElem? (i := 7) rfl)) (hw _ (List.mem_of_getElem? (i := 6) rfl)) (by decide) (by decide)) (g := (mkF m 23 #[.val (.int p0), .val (.int p1), .val (.int p2), .val (.int ((p1 &&& (63 : Int32)).toUInt32.toUInt16.toUInt32.toInt32))] [(.int ((p1 &&& (63 : Int32)).toUInt32.toUInt16.toUInt32.toInt32)), (.int (own_f1 ((p1 &&& (63 : Int32)).toUInt32.toUInt16.toUInt32.toInt32)))])) rfl (by rw [hml]; rfl) (argsL := [(.int ((p1 &&& (63 : Int32)).toUInt32.toUInt16.toUInt32.toInt32))]) (rest := [(.int (own_f1 ((p1 &&& (63 : Int32)).toUInt32.toUInt16.toUInt32.toInt32)))]) (lenOf pd__28C_29Z rfl) rfl (by show 2 * 0 + _ ≤ _; exact Nat.le_of_eq rfl) (hb hby at_23) (fun _ _ => ⟨rfl, e4, (by decide : 0 + 0 ≤ _), (by decide : 0 + 0 ≤ _)⟩)
    dsimp only [Pt.U, Pt.locs, Pt.cells, Pt.slots] at X5 l5 y5 z5 st5 hQ5
    subst l5 y5 z5
    obtain ⟨rfl, N5q, e5⟩ := hQ5
    have N5 := Fr.app N4 N5q
    refine own_st st5 ?_
    show own_Go _ _ _ _ T5 (mkF m 26 #[.val (.int p0), .val (.int p1), .val (.int p2), .val (.int ((p1 &&& (63 : Int32)).toUInt32.toUInt16.toUInt32.toInt32))] [(.int (own_f2 ((p1 &&& (63 : Int32)).toUInt32.toUInt16.toUInt32.toInt32))), (.int (own_f1 ((p1 &&& (63 : Int32)).toUInt32.toUInt16.toUInt32.toInt32)))])
    refine own_st (fun t k => XS.icmpNo X5.here hx rfl (hb hby at_26) rfl (teq (own_eq _ : (own_f1 ((p1 &&& (63 : Int32)).toUInt32.toUInt16.toUInt32.toInt32)) = (own_f2 ((p1 &&& (63 : Int32)).toUInt32.toUInt16.toUInt32.toInt32)))).2 k) ?_
    show own_Go _ _ _ _ T5 (mkF m 29 #[.val (.int p0), .val (.int p1), .val (.int p2), .val (.int ((p1 &&& (63 : Int32)).toUInt32.toUInt16.toUInt32.toInt32))] [])
    refine own_st (fun t k => XS.iconst X5.here hx rfl (hb hby at_29) k) ?_
    show own_Go _ _ _ _ T5 (mkF m 30 #[.val (.int p0), .val (.int p1), .val (.int p2), .val (.int ((p1 &&& (63 : Int32)).toUInt32.toUInt16.toUInt32.toInt32))] [(.int (1 : Int32))])
    refine own_st (fun t k => XS.goto X5.here hx rfl (pc0 := 30) (pc' := 34) rfl (hb hby at_30) (by decide) (by decide) k) ?_
    show own_Go _ _ _ _ T5 (mkF m 34 #[.val (.int p0), .val (.int p1), .val (.int p2), .val (.int ((p1 &&& (63 : Int32)).toUInt32.toUInt16.toUInt32.toInt32))] [(.int (1 : Int32))])
    exact own_retN X5 hx hlk (t := .boolean) hrt (by simp) (hb hby at_34) ⟨rfl, N5⟩ (by decide) (by decide)
set_option maxRecDepth 65536 in
set_option maxHeartbeats 40000000 in
theorem comes_1 {Post : Tables → Env → Array Value → State → Outcome → State → Prop} (hpost : ∀ tb e args s v u, (limb_1_1.after args s (.returned v) u = true ∧ limb_1_2.after args s (.returned v) u = true ∧ True) → FrameEnd s (.returned v) u (Jvm.fieldLocs frame_1_writes args s ++ Jvm.arrayLocs frame_1_arrays args s ++ Jvm.staticLocs frame_1_statics s) 0 0 → Post tb e args s (.returned v) u) :
    ArmFor flags0 classFile x code maxLocals ret World_1 tables_1 room_1 Calls_1 rest_1 Pre_1 Post := by
  intro l hfl _ _ p e ha hc hk s m args below hf hA hF happ hP
  obtain ⟨hcalls, hrest, hpre⟩ := hP
  obtain ⟨-, -, -, hnamed, -, -, -, hat⟩ := (Spec.applies_iff hf).mp happ
  obtain ⟨hg, hn⟩ := and_e (Cond.before_iff.mp (show (Jvm.Cond.and given_1 narrow_1).before args s = true from hpre))
  obtain ⟨gc, gr0⟩ := and_e hg
  obtain ⟨ga0, gr1⟩ := and_e gr0
  obtain ⟨ga1, gr2⟩ := and_e gr1
  obtain ⟨w0, w1, w2, rfl⟩ : ∃ w0 w1 w2 : Value, args = #[w0, w1, w2] := by
    have hs : args.size = 3 := by simpa [Cond.value, given_1] using gc
    obtain ⟨L⟩ := args
    match L, hs with
    | [w0, w1, w2], _ => exact ⟨w0, w1, w2, rfl⟩
  have hw := fun d (hd : d ∈ tables_1) => atoms_spec (ws := Jvm.Cond.code x code maxLocals ret :: tables_1) hat d (List.mem_cons_of_mem _ hd)
  have hfit : Fit s := fun {y c} hc i hi => by
    obtain ⟨ha, rfl⟩ := Array.getElem?_eq_some_iff.mp hc
    have q := List.all_eq_true.mp ((Array.all_eq_true_iff_forall_mem.mp hF) _ (Array.getElem_mem ha)) i (List.mem_range.mpr hi)
    simpa [Array.getElem?_eq_getElem hi] using q
  obtain ⟨i0, ei0⟩ := is_v ga0
  obtain rfl : w0 = (.int i0) := Option.some.inj ei0
  obtain ⟨i1, ei1⟩ := is_v ga1
  obtain rfl : w1 = (.int i1) := Option.some.inj ei1
  obtain ⟨i2, ei2⟩ := is_v gr2
  obtain rfl : w2 = (.int i2) := Option.some.inj ei2
  obtain ⟨n, o, h1, h2, h3, _, L, rfl, ⟨rfl, N⟩, hq⟩ := rm0 l s _ hw tables_1 i0 i1 i2  s.heap s.heap.size (Nat.le_refl _)  p e ha hc hk s m _ below hf ((Spec.applies_iff_loose hf).mp happ).1 ⟨rfl, State.Warmed39.refl s, rfl⟩ trivial
  refine ⟨n, _, h1, h2, h3, hpost _ _ _ _ _ _ ⟨Cond.after_iff.mpr rfl, Cond.after_iff.mpr (eq_i res_at (Term.int_eval (1)) rfl), trivial⟩ ⟨hq.1, hq.2.1, (hq.2.2.sift fun y hy => Or.inr (N y hy)).mono (by decide) (by decide)⟩⟩
theorem main_1_1 : Claimed_1_1 := comes_1 fun _ _ _ _ _ _ h hF => ⟨h.1, hF⟩
theorem main_1_2 : Claimed_1_2 := comes_1 fun _ _ _ _ _ _ h hF => ⟨h.2.1, hF⟩
end Jvm.Pilot.@@N@@
namespace Jvm.Pilot.@@N@@
open Jvm Jvm.ClassFile Sem Op Lib Jvm.Free Jvm.Stand Jvm.Pilot.@@N@@.Jvm.D
/-! MADE BY PROGRAM (witnessworld.py) out of the Statement's table words and the real class files: 9 classes; the members and pool entries that the words name. The judged class is class 1, her method 2. -/
namespace start1
open Jvm.ClassFile
def u (s : String) : CpInfo := .utf8 (stringToUtf16 s)
/-- a pool by its gaps: so many unusable entries, then the entry; so many at the end -/
def gap : Nat → List CpInfo → List CpInfo
  | 0, r => r
  | n + 1, r => .unusable :: gap n r
def poolList (es : List (Nat × CpInfo)) (last : Nat) : List CpInfo := es.foldr (fun e r => gap e.1 (e.2 :: r)) (gap last [])
def pool (es : List (Nat × CpInfo)) (last : Nat) : Array CpInfo := ⟨poolList es last⟩
def fileOf (pool : Array CpInfo) (this : Nat) (attrs : Array Attribute := #[]) (ms : Array MethodInfo := #[]) (fl : Nat := 33) (sup : Nat := 0) (ifs : Array Nat := #[]) (fds : Array FieldInfo := #[]) : ClassFile where
  minorVersion := 0
  majorVersion := 65
  constantPool := pool
  accessFlags := fl
  thisClass := this
  superClass := sup
  interfaces := ifs
  fields := fds
  methods := ms
  attributes := attrs
def plain (name : String) (sup : Option ClassId) : Class where
  name := name
  kind := .ordinary
  loader := none
  accessFlags := 33
  super := sup
  interfaces := #[]
  cf := none
  fields := #[]
  methods := #[]
  instanceTypes := #[]
  staticTypes := #[]
  resolved := #[]
  callSites := []
  init := .initialized
  statics := none
  mirror := none

def pool0 : Array CpInfo := pool [(5, u "<init>"), (0, u "()V"), (1, .class_ 10), (1, u "java/lang/Object")] 113

def k0m0 : Method := { name := "<init>", desc := "()V", sig := { parameters := [], returnType := none }, accessFlags := 1, code := none }
/-- java/lang/Object -/
def k0 : Class := { plain "java/lang/Object" none with
  accessFlags := 33
  interfaces := #[]
  cf := some (fileOf pool0 8 #[] #[{ accessFlags := 1, nameIndex := 5, descriptorIndex := 6, attributes := #[] }] 33 0 #[] #[])
  fields := #[]
  methods := #[k0m0]
  instanceTypes := #[]
  staticTypes := #[]
  resolved := Array.replicate 124 none
  statics := none }

def pool1 : Array CpInfo := pool [(2, .class_ 4), (1, u "java/lang/Object"), (0, u "<init>"), (0, u "()V"), (0, .class_ 8), (0, u "com/example/honest_schema/honestschema/SqlLexiconIsWhiteSpacePinLaw"), (0, .long 4294981120), (1, .methodref 12 13), (0, .class_ 14), (0, .nameAndType 15 16), (0, u "com/example/honest_schema/honestschema/SqlLexicon"), (0, u "isWhiteSpace"), (0, u "(C)Z"), (0, .methodref 7 18), (0, .nameAndType 19 16), (0, u "expected"), (0, u "WHITE_MASK"), (0, u "J"), (4, u "law"), (0, u "(III)Z")] 2

def k1m0 : Method := { name := "<init>", desc := "()V", sig := { parameters := [], returnType := none }, accessFlags := 2, code := none }
def k1c1 : Code := { maxStack := 4, maxLocals := 2, code := method_2_code, exceptionTable := #[], attributes := #[] }
def k1m1 : Method := { name := "expected", desc := "(C)Z", sig := { parameters := [.char], returnType := some .boolean }, accessFlags := 10, code := some k1c1 }
def k1c2 : Code := { maxStack := 2, maxLocals := 4, code := code, exceptionTable := #[], attributes := #[] }
def k1m2 : Method := { name := "law", desc := "(III)Z", sig := { parameters := [.int, .int, .int], returnType := some .boolean }, accessFlags := 9, code := some k1c2 }
/-- com/example/honest_schema/honestschema/SqlLexiconIsWhiteSpacePinLaw -/
def k1 : Class := { plain "com/example/honest_schema/honestschema/SqlLexiconIsWhiteSpacePinLaw" (some 0) with
  accessFlags := 49
  interfaces := #[]
  cf := some (fileOf pool1 7 #[] #[{ accessFlags := 2, nameIndex := 5, descriptorIndex := 6, attributes := #[] }, { accessFlags := 10, nameIndex := 19, descriptorIndex := 16, attributes := #[] }, { accessFlags := 9, nameIndex := 26, descriptorIndex := 27, attributes := #[] }] 49 2 #[] #[{ accessFlags := 26, nameIndex := 20, descriptorIndex := 21, attributes := #[] }])
  fields := #[{ name := "WHITE_MASK", type := .long, accessFlags := 26, slot := 0, constantValue := 0 }]
  methods := #[k1m0, k1m1, k1m2]
  instanceTypes := #[]
  staticTypes := #[.long]
  resolved := Array.replicate 30 none
  statics := none }

def pool2 : Array CpInfo := pool [(2, .class_ 4), (1, u "java/lang/Object"), (0, u "<init>"), (0, u "()V"), (1, .class_ 10), (1, u "com/example/honest_schema/honestschema/SqlLexicon"), (1, u "(C)Z"), (49, u "MAX_IDENTIFIER_BYTES"), (0, u "I"), (4, u "isWhiteSpace")] 10

def k2m0 : Method := { name := "<init>", desc := "()V", sig := { parameters := [], returnType := none }, accessFlags := 2, code := none }
def k2c1 : Code := { maxStack := 2, maxLocals := 1, code := prog_74_method_2_code, exceptionTable := #[], attributes := #[] }
def k2m1 : Method := { name := "isWhiteSpace", desc := "(C)Z", sig := { parameters := [.char], returnType := some .boolean }, accessFlags := 8, code := some k2c1 }
/-- com/example/honest_schema/honestschema/SqlLexicon -/
def k2 : Class := { plain "com/example/honest_schema/honestschema/SqlLexicon" (some 0) with
  accessFlags := 48
  interfaces := #[]
  cf := some (fileOf pool2 8 #[] #[{ accessFlags := 2, nameIndex := 5, descriptorIndex := 6, attributes := #[] }, { accessFlags := 8, nameIndex := 68, descriptorIndex := 12, attributes := #[] }] 48 2 #[] #[{ accessFlags := 24, nameIndex := 62, descriptorIndex := 63, attributes := #[] }])
  fields := #[{ name := "MAX_IDENTIFIER_BYTES", type := .int, accessFlags := 24, slot := 0, constantValue := 0 }]
  methods := #[k2m0, k2m1]
  instanceTypes := #[]
  staticTypes := #[.int]
  resolved := Array.replicate 79 none
  statics := none }

def pool3 : Array CpInfo := pool [(1, u "java/lang/Cloneable"), (0, .class_ 1), (0, u "java/lang/Object"), (0, .class_ 3)] 3

/-- java/lang/Cloneable -/
def k3 : Class := { plain "java/lang/Cloneable" (some 0) with
  accessFlags := 1537
  interfaces := #[]
  cf := some (fileOf pool3 2 #[] #[] 1537 4 #[] #[])
  fields := #[]
  methods := #[]
  instanceTypes := #[]
  staticTypes := #[]
  resolved := Array.replicate 8 none
  statics := none }

def pool4 : Array CpInfo := pool [(1, u "java/io/Serializable"), (0, .class_ 1), (0, u "java/lang/Object"), (0, .class_ 3)] 3

/-- java/io/Serializable -/
def k4 : Class := { plain "java/io/Serializable" (some 0) with
  accessFlags := 1537
  interfaces := #[]
  cf := some (fileOf pool4 2 #[] #[] 1537 4 #[] #[])
  fields := #[]
  methods := #[]
  instanceTypes := #[]
  staticTypes := #[]
  resolved := Array.replicate 8 none
  statics := none }

/-- the primitive byte -/
def k5 : Class := { plain "byte" none with kind := .primitive 'B', accessFlags := 0x411 }
/-- [B -/
def k6 : Class := { plain "[B" (some 0) with kind := .array 5 .byte, interfaces := #[3, 4], accessFlags := 1041 }

/-- the primitive int -/
def k7 : Class := { plain "int" none with kind := .primitive 'I', accessFlags := 0x411 }
/-- [I -/
def k8 : Class := { plain "[I" (some 0) with kind := .array 7 .int, interfaces := #[3, 4], accessFlags := 1041 }

def heap : Heap := #[]
def classes : Array Class := #[k0, k1, k2, k3, k4, k5, k6, k7, k8]
def interned : List (Array UInt16 × Addr) := []
def slotsUsed : Nat := 0
def theMethod : MethodId := ⟨1, 2⟩
def args0 : Array Value := #[.int 5, .int 300, .int 1]
def aboutOver (below : List Frame) : State where
  vm := { classes := classes, interned := interned.toArray }
  heap := heap
  slotsUsed := slotsUsed
  threads := #[{ frames := .invoking theMethod args0 :: below }]
def below0 : List Frame := [.native { method := ⟨0, 0⟩, args := #[] }]
def about1 : State := aboutOver below0
def p0 : Program := .bare "" "" ""
def e0 : Env := launch0.env 0 0 0
theorem w_frames : about1.frames = Frame.invoking theMethod args0 :: below0 := rfl
set_option maxRecDepth 65536 in
theorem w_args : argsFit about1.vm theMethod args0 = true := by decide +kernel
set_option maxRecDepth 65536 in
theorem w_heap : heapFits about1 = true := by decide +kernel
set_option maxRecDepth 65536 in
theorem w_runnable : about1.curStatus? = some .runnable := by decide +kernel
set_option maxRecDepth 65536 in
theorem w_alone : about1.alone = true := by decide +kernel
set_option maxRecDepth 65536 in
theorem w_named : about1.methodNamed? x = some theMethod := by decide +kernel
set_option maxRecDepth 65536 in
theorem w_hears : about1.hears theMethod below0 = true := by decide +kernel
set_option maxRecDepth 65536 in
theorem w_ripe : about1.ripe theMethod args0 below0 = true := by decide +kernel
theorem w_running : about1.status = .running := rfl
set_option maxRecDepth 65536 in
theorem w_room : about1.hasRoom e0.platform room_1 = true :=
  launch0.hasRoom_least _ room_1 (by decide +kernel) (by decide +kernel) (by decide +kernel) (by decide +kernel) (by decide +kernel) (by decide +kernel)
theorem allAtoms_all (ts : List Jvm.Cond) (a : Array Jvm.Value) (st : Jvm.State) : (allAtoms ts).before a st = ts.all (fun c => c.before a st) := by
  induction ts with
  | nil => rfl
  | cons c t ih =>
    show (Jvm.Cond.and c (allAtoms t)).before a st = _
    rw [Jvm.Cond.before_and, ih, List.all_cons]
def words1 : List Jvm.Cond := Jvm.Cond.code x code maxLocals ret :: tables_1
/-- a 'code' word, met by the world's own term for the bytes: nothing is compared byte by byte -/
theorem code_word {y : MethodName} {bytes : ByteArray} {mx : Nat} {rt : Option FieldType} {a : Array Value} {s : State} {m : MethodId} {meth : Method} {c : Code} (h1 : s.methodNamed? y = some m) (h2 : s.vm.method? m = some meth) (h3 : meth.code = some c) (h4 : c.code = bytes)
    (h5 : (c.maxLocals == mx && c.exceptionTable.isEmpty && decide (c.maxStack ≤ mostOperands) && decide (meth.sig.returnType = rt) && !meth.locks && decide (parseMethodDescriptor y.desc = some meth.sig)) = true) : (Jvm.Cond.code y bytes mx rt).before a s = true := by
  simp only [Bool.and_eq_true, beq_iff_eq, Bool.not_eq_true', decide_eq_true_eq] at h5
  obtain ⟨⟨⟨⟨⟨g1, g2⟩, g3⟩, g4⟩, g5⟩, g6⟩ := h5
  simp [Cond.before, Cond.holds, Cond.value, h1, h2, h3, h4, g1, g2, g3, g4, g5, g6]
def isCode : Jvm.Cond → Bool
  | .code _ _ _ _ => true
  | _ => false
theorem all_split {L : List Jvm.Cond} {P : Jvm.Cond → Bool} (h1 : L.all (fun c => isCode c || P c) = true) (h2 : ∀ c ∈ L.filter isCode, P c = true) : L.all P = true := by
  refine List.all_eq_true.mpr fun c hc => ?_
  have h := List.all_eq_true.mp h1 c hc
  rcases Bool.eq_false_or_eq_true (isCode c) with hi | hi
  · exact h2 c (List.mem_filter.mpr ⟨hc, hi⟩)
  · simpa [hi] using h
set_option maxRecDepth 65536 in
theorem w_c0 : (Jvm.Cond.code x code maxLocals ret).before args0 about1 = true := code_word (m := ⟨1, 2⟩) (meth := k1m2) (c := k1c2) (by decide +kernel) rfl rfl rfl (by decide +kernel)
set_option maxRecDepth 65536 in
theorem w_c1 : (Jvm.Cond.code ({ cls := "com/example/honest_schema/honestschema/SqlLexicon", name := "isWhiteSpace", desc := "(C)Z" } : Jvm.MethodName) prog_74_method_2_code (1 : Nat) (Option.some Jvm.ClassFile.FieldType.boolean)).before args0 about1 = true := code_word (m := ⟨2, 1⟩) (meth := k2m1) (c := k2c1) (by decide +kernel) rfl rfl rfl (by decide +kernel)
set_option maxRecDepth 65536 in
theorem w_c2 : (Jvm.Cond.code ({ cls := "com/example/honest_schema/honestschema/SqlLexiconIsWhiteSpacePinLaw", name := "expected", desc := "(C)Z" } : Jvm.MethodName) method_2_code (2 : Nat) (Option.some Jvm.ClassFile.FieldType.boolean)).before args0 about1 = true := code_word (m := ⟨1, 1⟩) (meth := k1m1) (c := k1c1) (by decide +kernel) rfl rfl rfl (by decide +kernel)
def codes1 : List Jvm.Cond := [Jvm.Cond.code x code maxLocals ret, Jvm.Cond.code ({ cls := "com/example/honest_schema/honestschema/SqlLexicon", name := "isWhiteSpace", desc := "(C)Z" } : Jvm.MethodName) prog_74_method_2_code (1 : Nat) (Option.some Jvm.ClassFile.FieldType.boolean), Jvm.Cond.code ({ cls := "com/example/honest_schema/honestschema/SqlLexiconIsWhiteSpacePinLaw", name := "expected", desc := "(C)Z" } : Jvm.MethodName) method_2_code (2 : Nat) (Option.some Jvm.ClassFile.FieldType.boolean)]
set_option maxRecDepth 65536 in
theorem codes_eq : words1.filter isCode = codes1 := rfl
theorem w_codes : ∀ c ∈ words1.filter isCode, c.before args0 about1 = true := by
  rw [codes_eq]
  intro c hc
  simp only [codes1, List.mem_cons, List.not_mem_nil, or_false] at hc
  rcases hc with rfl | rfl | rfl
  · exact w_c0
  · exact w_c1
  · exact w_c2
set_option maxRecDepth 65536 in
theorem w_t1 : words1.all (fun c => isCode c || c.before args0 about1) = true := by decide +kernel
theorem w_tables : (allAtoms (Jvm.Cond.code x code maxLocals ret :: tables_1)).before args0 about1 = true := by
  rw [allAtoms_all]
  show words1.all (fun c => c.before args0 about1) = true
  refine all_split ?_ w_codes
  rw [w_t1]
set_option maxRecDepth 65536 in
theorem w_case : (Jvm.Cond.and given_1 narrow_1).before args0 about1 = true := by decide +kernel
theorem w_applies : (headSpec (Jvm.Cond.code x code maxLocals ret :: tables_1) room_1).applies x e0.platform about1 = true :=
  (Spec.applies_iff w_frames).mpr ⟨w_running, w_runnable, w_alone, w_named, w_hears, w_ripe, w_room, w_tables⟩
theorem atStart : AtStart classFile x code maxLocals ret World_1 tables_1 room_1 Calls_1 rest_1 Pre_1 launch0 p0 e0 about1 theMethod args0 below0 :=
  ⟨lists_1, trivial, launch0.admits_env _ _ _, launch0.least_env, fairChoices_fair.cas, fairChoices_fair.clock, w_frames, w_args, w_heap, w_applies, trivial, trivial, w_case⟩
end start1
theorem witness_1 : WitnessClaimed_1 := ⟨start1.p0, start1.e0, start1.about1, start1.theMethod, start1.args0, start1.below0, start1.atStart⟩
end Jvm.Pilot.@@N@@
