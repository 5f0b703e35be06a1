import JvmDerived
import JvmDerived.Pilot.@@N@@Statement
import JvmDerived.Pilot.@@N@@Code
set_option linter.unusedVariables false
set_option linter.unusedSimpArgs false
namespace Jvm.RoadKit
open Sem ClassFile Op Lib Jvm.Stand Jvm.Free Jvm.LawKit
section OwnGo
/-- from the state T with the frame g on top the run comes to a state of which K holds -/
def own_Go (tb : Tables) (e : Env) (below : List Frame) (K : State → Prop) (T : State) (g : JFrame) : Prop := ∃ t, Steps tb e below (T.setTop g) t ∧ K t
/-- the invocation has ended by a return, with what Q says of the value, the heap and the written places -/
def own_Fin (below : List Frame) (s : State) (Q : Option Value → Heap → List Loc → Prop) (k n : Nat) (t : State) : Prop := ∃ o, t.status = .running ∧ Ended t below o ∧ ∃ v L, o = .returned v ∧ Q v t.heap L ∧ FrameEnd s o t L k n
variable {p : Program} {l : Launch} {e : Env} {R : Room} {s : State} {m : MethodId} {args : Array Value} {below : List Frame} {meth : Method} {c : Code} {T : State} {locs : List Loc} {cells slots : Nat}
variable {K : State → Prop} {T' : State} {g g' : JFrame} {tb : Tables} {Q : Option Value → Heap → List Loc → Prop} {k n : Nat}
theorem own_st (h : ∀ t, Steps tb e below (T'.setTop g') t → Steps tb e below (T.setTop g) t) (q : own_Go tb e below K T' g') : own_Go tb e below K T g := by
  obtain ⟨t, h1, h2⟩ := q
  exact ⟨t, h _ h1, h2⟩
theorem own_tr (h : Steps tb e below (T.setTop g) (T'.setTop g')) (q : own_Go tb e below K T' g') : own_Go tb e below K T g := by
  obtain ⟨t, h1, h2⟩ := q
  exact ⟨t, h.trans h1, h2⟩
theorem own_in (h : g = g') (q : own_Go tb e below K T g') : own_Go tb e below K T g := h ▸ q
theorem own_out (q : own_Go tb e below (own_Fin below s Q k n) T g) : ∃ s₂ o, Steps tb e below (T.setTop g) s₂ ∧ s₂.status = .running ∧ Ended s₂ below o ∧ ∃ v L, o = .returned v ∧ Q v s₂.heap L ∧ FrameEnd s o s₂ L k n := by
  obtain ⟨t, h1, o, h2, h3, h4⟩ := q
  exact ⟨t, o, h1, h2, h3, h4⟩
theorem own_leave (X : Stand p l e R s m args below meth c T locs cells slots) (hlk : meth.locks = false) {v : Option Value} (hv : meth.sig.returnType = none → v = none) (hq : Q v T.heap locs) (hk : cells ≤ k) (hn : slots ≤ n)
    (st : ∀ fs, (∀ (f : JFrame) (acts : List Action), f.method = m → f.locked = none → f.entered = [] → (doReturn e (T.setTop f) acts v).1 = T.setFrames fs) → Steps p.tables e below (T.setTop g) (T.setFrames fs)) :
    own_Go p.tables e below (own_Fin below s Q k n) T g := by
  obtain ⟨fs, hr, hrun, hended, hW, hsame⟩ := X.leave (v := v) hv hlk
  exact ⟨_, st fs hr, _, hrun, hended, _, _, rfl, hq, ⟨_, rfl⟩, hW, hsame.mono hk hn⟩
variable {pc : Nat} {Ls : Array Slot} {rest : List Value}
theorem own_retV (X : Stand p l e R s m args below meth c T locs cells slots) (hx : p.tables.exec = Jvm.exec) (hlk : meth.locks = false) (hret : meth.sig.returnType = none) (hd : decode c.code pc = .ok (.return_, 1)) (hq : Q none T.heap locs) (hk : cells ≤ k) (hn : slots ≤ n) :
    own_Go p.tables e below (own_Fin below s Q k n) T (mkF m pc Ls []) :=
  own_leave X hlk (fun _ => rfl) hq hk hn fun _ hr => X.returnOut hx hret hd hr
theorem own_retW (X : Stand p l e R s m args below meth c T locs cells slots) (hx : p.tables.exec = Jvm.exec) (hlk : meth.locks = false) {w : Value} {t : FieldType} {i : Instr} (hret : meth.sig.returnType = some t) (hn' : narrow t w = w)
    (hi : (i = .ireturn ∧ (t = .int ∨ t = .boolean ∨ t = .byte ∨ t = .char ∨ t = .short) ∧ ∃ z, w = .int z) ∨ (i = .lreturn ∧ t = .long ∧ ∃ z, w = .long z) ∨ (i = .dreturn ∧ t = .double ∧ ∃ z, w = .double z) ∨ (i = .freturn ∧ t = .float ∧ ∃ z, w = .float z) ∨ (i = .areturn ∧ t.isReference = true ∧ w.isRef = true))
    (hd : decode c.code pc = .ok (i, 1)) (hq : Q (some w) T.heap locs) (hk : cells ≤ k) (hn : slots ≤ n) :
    own_Go p.tables e below (own_Fin below s Q k n) T (mkF m pc Ls (w :: rest)) :=
  own_leave X hlk (fun h => by rw [hret] at h; cases h) hq hk hn fun _ hr => retOut X hx hret hn' hi hd hr
theorem own_retI (X : Stand p l e R s m args below meth c T locs cells slots) (hx : p.tables.exec = Jvm.exec) (hlk : meth.locks = false) {z : Int32} (hret : meth.sig.returnType = some .int) (hd : decode c.code pc = .ok (.ireturn, 1)) (hq : Q (some (.int z)) T.heap locs) (hk : cells ≤ k) (hn : slots ≤ n) :
    own_Go p.tables e below (own_Fin below s Q k n) T (mkF m pc Ls (.int z :: rest)) :=
  own_retW X hx hlk hret rfl (Or.inl ⟨rfl, Or.inl rfl, _, rfl⟩) hd hq hk hn
theorem own_retJ (X : Stand p l e R s m args below meth c T locs cells slots) (hx : p.tables.exec = Jvm.exec) (hlk : meth.locks = false) {z : Int64} (hret : meth.sig.returnType = some .long) (hd : decode c.code pc = .ok (.lreturn, 1)) (hq : Q (some (.long z)) T.heap locs) (hk : cells ≤ k) (hn : slots ≤ n) :
    own_Go p.tables e below (own_Fin below s Q k n) T (mkF m pc Ls (.long z :: rest)) :=
  own_retW X hx hlk hret rfl (Or.inr (Or.inl ⟨rfl, rfl, _, rfl⟩)) hd hq hk hn
theorem own_retR (X : Stand p l e R s m args below meth c T locs cells slots) (hx : p.tables.exec = Jvm.exec) (hlk : meth.locks = false) {w : Value} {t : FieldType} (hret : meth.sig.returnType = some t) (ht : t.isReference = true) (hw : w.isRef = true) (hn' : narrow t w = w) (hd : decode c.code pc = .ok (.areturn, 1)) (hq : Q (some w) T.heap locs) (hk : cells ≤ k) (hn : slots ≤ n) :
    own_Go p.tables e below (own_Fin below s Q k n) T (mkF m pc Ls (w :: rest)) :=
  own_retW X hx hlk hret hn' (Or.inr (Or.inr (Or.inr (Or.inr ⟨rfl, ht, hw⟩)))) hd hq hk hn
theorem own_retN (X : Stand p l e R s m args below meth c T locs cells slots) (hx : p.tables.exec = Jvm.exec) (hlk : meth.locks = false) {z : Int32} {t : FieldType} (hret : meth.sig.returnType = some t) (ht : t = .boolean ∨ t = .byte ∨ t = .char ∨ t = .short) (hd : decode c.code pc = .ok (.ireturn, 1)) (hq : Q (some (.int (nar t z))) T.heap locs) (hk : cells ≤ k) (hn : slots ≤ n) :
    own_Go p.tables e below (own_Fin below s Q k n) T (mkF m pc Ls (.int z :: rest)) :=
  own_leave X hlk (fun h => by rw [hret] at h; cases h) hq hk hn fun _ hr => retN X hx hret ht hd hr
/-- the same, where String constants may have been resolved -/
def own_FinW (below : List Frame) (s : State) (Q : Option Value → Heap → List Loc → Prop) (k n : Nat) (t : State) : Prop := ∃ o, t.status = .running ∧ Ended t below o ∧ ∃ v L, o = .returned v ∧ Q v t.heap L ∧ ReturnedEndW s o t L k n
theorem own_outW (q : own_Go tb e below (own_FinW below s Q k n) T g) : ∃ s₂ o, Steps tb e below (T.setTop g) s₂ ∧ s₂.status = .running ∧ Ended s₂ below o ∧ ∃ v L, o = .returned v ∧ Q v s₂.heap L ∧ ReturnedEndW s o s₂ L k n := by
  obtain ⟨t, h1, o, h2, h3, h4⟩ := q
  exact ⟨t, o, h1, h2, h3, h4⟩
theorem own_leaveW {vm0 : Vm} {k0 : Nat} (X : Stand p l e R (s.setVm vm0) m args below meth c T locs cells slots) (hS : s.Since vm0 k0) (hk0 : k0 ≤ T.heap.size) (hlk : meth.locks = false) {v : Option Value} (hv : meth.sig.returnType = none → v = none) (hq : Q v T.heap locs) (hk : cells ≤ k) (hn : slots ≤ n)
    (st : ∀ fs, (∀ (f : JFrame) (acts : List Action), f.method = m → f.locked = none → f.entered = [] → (doReturn e (T.setTop f) acts v).1 = T.setFrames fs) → Steps p.tables e below (T.setTop g) (T.setFrames fs)) :
    own_Go p.tables e below (own_FinW below s Q k n) T g := by
  obtain ⟨fs, hr, hrun, hended, h1, h2, h3, h4⟩ := X.leaveW hS hk0 (v := v) hv hlk
  exact ⟨_, st fs hr, _, hrun, hended, _, _, rfl, hq, h1, h2, h3, h4.mono hk hn⟩
theorem own_retVW {vm0 : Vm} {k0 : Nat} (X : Stand p l e R (s.setVm vm0) m args below meth c T locs cells slots) (hS : s.Since vm0 k0) (hk0 : k0 ≤ T.heap.size) (hx : p.tables.exec = Jvm.exec) (hlk : meth.locks = false) (hret : meth.sig.returnType = none) (hd : decode c.code pc = .ok (.return_, 1)) (hq : Q none T.heap locs) (hk : cells ≤ k) (hn : slots ≤ n) :
    own_Go p.tables e below (own_FinW below s Q k n) T (mkF m pc Ls []) :=
  own_leaveW X hS hk0 hlk (fun _ => rfl) hq hk hn fun _ hr => X.returnOut hx hret hd hr
theorem own_retWW {vm0 : Vm} {k0 : Nat} (X : Stand p l e R (s.setVm vm0) m args below meth c T locs cells slots) (hS : s.Since vm0 k0) (hk0 : k0 ≤ T.heap.size) (hx : p.tables.exec = Jvm.exec) (hlk : meth.locks = false) {w : Value} {t : FieldType} {i : Instr} (hret : meth.sig.returnType = some t) (hn' : narrow t w = w)
    (hi : (i = .ireturn ∧ (t = .int ∨ t = .boolean ∨ t = .byte ∨ t = .char ∨ t = .short) ∧ ∃ z, w = .int z) ∨ (i = .lreturn ∧ t = .long ∧ ∃ z, w = .long z) ∨ (i = .dreturn ∧ t = .double ∧ ∃ z, w = .double z) ∨ (i = .freturn ∧ t = .float ∧ ∃ z, w = .float z) ∨ (i = .areturn ∧ t.isReference = true ∧ w.isRef = true))
    (hd : decode c.code pc = .ok (i, 1)) (hq : Q (some w) T.heap locs) (hk : cells ≤ k) (hn : slots ≤ n) :
    own_Go p.tables e below (own_FinW below s Q k n) T (mkF m pc Ls (w :: rest)) :=
  own_leaveW X hS hk0 hlk (fun h => by rw [hret] at h; cases h) hq hk hn fun _ hr => retOut X hx hret hn' hi hd hr
theorem own_retNW {vm0 : Vm} {k0 : Nat} (X : Stand p l e R (s.setVm vm0) m args below meth c T locs cells slots) (hS : s.Since vm0 k0) (hk0 : k0 ≤ T.heap.size) (hx : p.tables.exec = Jvm.exec) (hlk : meth.locks = false) {z : Int32} {t : FieldType} (hret : meth.sig.returnType = some t) (ht : t = .boolean ∨ t = .byte ∨ t = .char ∨ t = .short) (hd : decode c.code pc = .ok (.ireturn, 1)) (hq : Q (some (.int (nar t z))) T.heap locs) (hk : cells ≤ k) (hn : slots ≤ n) :
    own_Go p.tables e below (own_FinW below s Q k n) T (mkF m pc Ls (.int z :: rest)) :=
  own_leaveW X hS hk0 hlk (fun h => by rw [hret] at h; cases h) hq hk hn fun _ hr => retN X hx hret ht hd hr
theorem own_wz {Z : State} {vm0 vm1 : Vm} {k1 : Nat} (hZ : Z.Warmed39 vm0) (hs : (s.setVm vm0).Since vm1 k1) : Z.Warmed39 (s.setVm vm1).vm := State.Warmed39.trans (t := s.setVm vm0) hZ hs.1
theorem own_wo {vm0 vm1 : Vm} {k1 : Nat} {own : String} {q : ClassId} (h : (s.setVm vm0).vm.findClass own = some q) (hs : (s.setVm vm0).Since vm1 k1) : (s.setVm vm1).vm.findClass own = some q := by
  rw [show (s.setVm vm1).vm = vm1 from rfl, hs.1.alike.findClass]; exact h
theorem own_sta_keep {Z : State} {h h' : Heap} {C f d : String} {v : Value} {ws : List Addr} (F : Sta Z h C f d v) (K : Keep h h' ws) (hs : ∀ x ∈ ws, ∀ cl : Cell, h[x]? = some cl → cl.vm.isStatics = false) : Sta Z h' C f d v := by
  obtain ⟨cf, i, k, f', st, cell, h1, h2, h3, h4, h5, h6, h7⟩ := F
  refine ⟨cf, i, k, f', st, cell, h1, h2, h3, h4, K.2.1 _ _ h5 fun q => ?_, h6, h7⟩
  rw [hs st q cell h5] at h6
  cases h6
theorem own_getD_int (es : List Int32) (i : Nat) : (es.map Value.int).getD i (.int 0) = .int (es.getD i 0) := by
  induction es generalizing i with
  | nil => rfl
  | cons a t ih => cases i with
    | zero => rfl
    | succ j => simpa using ih j
theorem own_getD_long (es : List Int64) (i : Nat) : (es.map Value.long).getD i (.long 0) = .long (es.getD i 0) := by
  induction es generalizing i with
  | nil => rfl
  | cons a t ih => cases i with
    | zero => rfl
    | succ j => simpa using ih j
theorem own_eq_int {args : Array Value} {s : State} {t : Term} {k : Int32} (h : (Cond.eq t (.int k)).value args s none s [] = some true) : t.eval args s none [] s = some (.int k) := by
  obtain ⟨x, y, e1, e2, hk, hk'⟩ := cmp_v (Or.inl h)
  have e3 : y = .int k := by simpa [Term.eval] using e2.symm
  subst e3
  cases x with
  | int z => simp [Cond.value, e1, e2] at h; rw [e1, h]
  | _ => simp [Kin] at hk'
end OwnGo
end Jvm.RoadKit
namespace Jvm.Pilot.@@N@@
open Jvm Jvm.ClassFile Sem Op Lib Jvm.Free Jvm.Stand Jvm.LawKit Jvm.RoadKit Bundle Jvm.Pilot.@@N@@.Jvm.D
/-! body 1: RewriteVerdictAndPinLaw.pick -/
theorem d1_0 : decode method_2_code 0 = .ok (.iload_n 0, 1) := by decide +kernel
theorem d1_1 : decode method_2_code 1 = .ok (.ifCond .ne 7, 3) := by decide +kernel
theorem d1_4 : decode method_2_code 4 = .ok (.getstatic 7, 3) := by decide +kernel
theorem d1_7 : decode method_2_code 7 = .ok (.areturn, 1) := by decide +kernel
theorem d1_8 : decode method_2_code 8 = .ok (.iload_n 0, 1) := by decide +kernel
theorem d1_9 : decode method_2_code 9 = .ok (.iconst 1, 1) := by decide +kernel
theorem d1_10 : decode method_2_code 10 = .ok (.if_icmp .ne 7, 3) := by decide +kernel
theorem d1_13 : decode method_2_code 13 = .ok (.getstatic 13, 3) := by decide +kernel
theorem d1_16 : decode method_2_code 16 = .ok (.areturn, 1) := by decide +kernel
theorem d1_17 : decode method_2_code 17 = .ok (.getstatic 16, 3) := by decide +kernel
theorem d1_20 : decode method_2_code 20 = .ok (.areturn, 1) := by decide +kernel
theorem pn_com_example_honest_schema_honestschema_RewriteVerdictAndPinLaw : plainName "com/example/honest_schema/honestschema/RewriteVerdictAndPinLaw" = true := by first | (simp [plainName, overriddenIn]; done) | decide +kernel
theorem ef_1 (m : MethodId) (x0 : Int32) : entryFrame m #[(.int x0)] 1 = mkF m 0 #[.val (.int x0)] [] := by first | (simp [entryFrame, mkF, argsToLocals, Value.category]; done) | rfl
def own_pick (kk : Int32) (no : Addr) (un : Addr) (re : Addr) : Addr := (if kk = (0 : Int32) then no else (if kk = (1 : Int32) then un else re))
def Q1 (Z : State) (kk : Int32) (no : Addr) (un : Addr) (re : Addr) (h0 : Heap) (n0 : Nat) (v : Option Value) (h : Heap) (L : List Loc) : Prop := v = some (.ref (own_pick kk no un re)) ∧ Fr n0 L ∧ h = h0
set_option maxRecDepth 65536 in
set_option maxHeartbeats 40000000 in
theorem rm1 (l : Launch) (Z : State) (a0 : Array Value) (hw : ∀ d ∈ tables_1, d.before a0 Z = true) (ws : List Jvm.Cond) (kk : Int32) (no : Addr) (un : Addr) (re : Addr) (h0 : Heap) (n0 : Nat) (Z0 : n0 ≤ h0.size) (S_NO_REWRITE : Sta Z h0 "com/example/honest_schema/honestschema/RewriteVerdict" "NO_REWRITE" "Lcom/example/honest_schema/honestschema/RewriteVerdict;" (.ref no)) (S_UNKNOWN : Sta Z h0 "com/example/honest_schema/honestschema/RewriteVerdict" "UNKNOWN" "Lcom/example/honest_schema/honestschema/RewriteVerdict;" (.ref un)) (S_REWRITE : Sta Z h0 "com/example/honest_schema/honestschema/RewriteVerdict" "REWRITE" "Lcom/example/honest_schema/honestschema/RewriteVerdict;" (.ref re)) :
    MetFree l (⟨"com/example/honest_schema/honestschema/RewriteVerdictAndPinLaw", "pick", "(I)Lcom/example/honest_schema/honestschema/RewriteVerdict;"⟩ : MethodName) (head1 (Jvm.Cond.code (⟨"com/example/honest_schema/honestschema/RewriteVerdictAndPinLaw", "pick", "(I)Lcom/example/honest_schema/honestschema/RewriteVerdict;"⟩ : MethodName) method_2_code 1 (some (.object "com/example/honest_schema/honestschema/RewriteVerdict")) :: ws) ({ frames := 0, cells := 0, slots := 0, locals := 0 } : Room)) (fun a U => a = #[(.int kk)] ∧ Z.Warmed39 U.vm ∧ U.heap = h0) (fun _ _ _ _ _ => True) (fun _ U o U' => ∃ v L, o = .returned v ∧ Q1 Z kk no un re h0 n0 v U'.heap L ∧ FrameEnd U o U' L ({ frames := 0, cells := 0, slots := 0, locals := 0 } : Room).cells ({ frames := 0, cells := 0, slots := 0, locals := 0 } : Room).slots) := by
  refine MetFree.of_bodySF (plainFor_of_name pn_com_example_honest_schema_honestschema_RewriteVerdictAndPinLaw) hisR ?_
  intro p e s m args below meth c s₁ Bd hml0 hP hK
  obtain ⟨rfl, hZ, hh⟩ := hP
  have hx := Bd.exec
  have hby := Bd.bytes
  have hlk := Bd.notSynchronized
  have hrt := Bd.returns
  have hml : c.maxLocals = 1 := hml0
  have hown : s.vm.findClass "com/example/honest_schema/honestschema/RewriteVerdictAndPinLaw" = some m.cls := findClass_of_methodNamed Bd.named
  have hnm := (name_of_methodNamed Bd.named Bd.method).1
  have X0 : Stand p l e ({ frames := 0, cells := 0, slots := 0, locals := 0 } : Room) s m #[(.int kk)] below meth c s₁ [] 0 0 := Stand.of_body Bd
  have e0 : s₁.heap = h0 := by rw [← hh, Bd.state]; rfl
  have N0 := Fr.nil n0
  have K0 := Keep.refl h0 []
  refine own_out (Q := Q1 Z kk no un re h0 n0) ?_
  refine own_in (ef_1 m kk) ?_
  show own_Go _ _ _ _ s₁ (mkF m 0 #[.val (.int kk)] [])
  refine own_st (fun t k => XS.iloadN X0.here hx rfl (hb hby d1_0) rfl k) ?_
  show own_Go _ _ _ _ s₁ (mkF m 1 #[.val (.int kk)] [(.int kk)])
  by_cases c1_1 : kk = (0 : Int32)
  ·
    refine own_st (fun t k => XS.ifNo X0.here hx rfl (hb hby d1_1) rfl ((if0 _ _).trans (teq c1_1).2) k) ?_
    show own_Go _ _ _ _ s₁ (mkF m 4 #[.val (.int kk)] [])
    obtain ⟨T2, X2, e2, st2⟩ := getS2 X0 hx hZ hown (host := "") (Or.inl (hw _ (List.mem_of_getElem? (i := 5) rfl))) Via.refl e0 S_NO_REWRITE (g := (mkF m 4 #[.val (.int kk)] [])) rfl (hb hby d1_4)
    refine own_st st2 ?_
    show own_Go _ _ _ _ T2 (mkF m 7 #[.val (.int kk)] [(.ref no)])
    exact own_retR X2 hx hlk hrt rfl rfl rfl (hb hby d1_7) ⟨(by simp only [own_pick, if_pos c1_1]; first | rfl | done), N0, e2⟩ (by decide) (by decide)
  ·
    refine own_st (fun t k => XS.ifYes X0.here hx rfl (pc0 := 1) (pc' := 8) rfl (hb hby d1_1) rfl ((if0 _ _).trans (feq c1_1).2) (by decide) (by decide) k) ?_
    show own_Go _ _ _ _ s₁ (mkF m 8 #[.val (.int kk)] [])
    refine own_st (fun t k => XS.iloadN X0.here hx rfl (hb hby d1_8) rfl k) ?_
    show own_Go _ _ _ _ s₁ (mkF m 9 #[.val (.int kk)] [(.int kk)])
    refine own_st (fun t k => XS.iconst X0.here hx rfl (hb hby d1_9) k) ?_
    show own_Go _ _ _ _ s₁ (mkF m 10 #[.val (.int kk)] [(.int (1 : Int32)), (.int kk)])
    by_cases c10_3 : kk = (1 : Int32)
    ·
      refine own_st (fun t k => XS.icmpNo X0.here hx rfl (hb hby d1_10) rfl (teq c10_3).2 k) ?_
      show own_Go _ _ _ _ s₁ (mkF m 13 #[.val (.int kk)] [])
      obtain ⟨T4, X4, e4, st4⟩ := getS2 X0 hx hZ hown (host := "") (Or.inl (hw _ (List.mem_of_getElem? (i := 23) rfl))) Via.refl e0 S_UNKNOWN (g := (mkF m 13 #[.val (.int kk)] [])) rfl (hb hby d1_13)
      refine own_st st4 ?_
      show own_Go _ _ _ _ T4 (mkF m 16 #[.val (.int kk)] [(.ref un)])
      exact own_retR X4 hx hlk hrt rfl rfl rfl (hb hby d1_16) ⟨(by simp only [own_pick, if_neg c1_1, if_pos c10_3]; first | rfl | done), N0, e4⟩ (by decide) (by decide)
    ·
      refine own_st (fun t k => XS.icmpYes X0.here hx rfl (pc0 := 10) (pc' := 17) rfl (hb hby d1_10) rfl (feq c10_3).2 (by decide) (by decide) k) ?_
      show own_Go _ _ _ _ s₁ (mkF m 17 #[.val (.int kk)] [])
      obtain ⟨T5, X5, e5, st5⟩ := getS2 X0 hx hZ hown (host := "") (Or.inl (hw _ (List.mem_of_getElem? (i := 22) rfl))) Via.refl e0 S_REWRITE (g := (mkF m 17 #[.val (.int kk)] [])) rfl (hb hby d1_17)
      refine own_st st5 ?_
      show own_Go _ _ _ _ T5 (mkF m 20 #[.val (.int kk)] [(.ref re)])
      exact own_retR X5 hx hlk hrt rfl rfl rfl (hb hby d1_20) ⟨(by simp only [own_pick, if_neg c1_1, if_neg c10_3]; first | rfl | done), N0, e5⟩ (by decide) (by decide)
/-! body 2: RewriteVerdict.and -/
theorem d2_0 : decode prog_27_method_4_code 0 = .ok (.getstatic 3, 3) := by decide +kernel
theorem d2_3 : decode prog_27_method_4_code 3 = .ok (.astore_n 2, 1) := by decide +kernel
theorem d2_4 : decode prog_27_method_4_code 4 = .ok (.aload_n 0, 1) := by decide +kernel
theorem d2_5 : decode prog_27_method_4_code 5 = .ok (.getstatic 7, 3) := by decide +kernel
theorem d2_8 : decode prog_27_method_4_code 8 = .ok (.if_acmp .eq 10, 3) := by decide +kernel
theorem d2_11 : decode prog_27_method_4_code 11 = .ok (.aload_n 1, 1) := by decide +kernel
theorem d2_12 : decode prog_27_method_4_code 12 = .ok (.getstatic 7, 3) := by decide +kernel
theorem d2_15 : decode prog_27_method_4_code 15 = .ok (.if_acmp .ne 10, 3) := by decide +kernel
theorem d2_18 : decode prog_27_method_4_code 18 = .ok (.getstatic 7, 3) := by decide +kernel
theorem d2_21 : decode prog_27_method_4_code 21 = .ok (.astore_n 2, 1) := by decide +kernel
theorem d2_22 : decode prog_27_method_4_code 22 = .ok (.goto 21, 3) := by decide +kernel
theorem d2_25 : decode prog_27_method_4_code 25 = .ok (.aload_n 0, 1) := by decide +kernel
theorem d2_26 : decode prog_27_method_4_code 26 = .ok (.getstatic 10, 3) := by decide +kernel
theorem d2_29 : decode prog_27_method_4_code 29 = .ok (.if_acmp .eq 10, 3) := by decide +kernel
theorem d2_32 : decode prog_27_method_4_code 32 = .ok (.aload_n 1, 1) := by decide +kernel
theorem d2_33 : decode prog_27_method_4_code 33 = .ok (.getstatic 10, 3) := by decide +kernel
theorem d2_36 : decode prog_27_method_4_code 36 = .ok (.if_acmp .ne 7, 3) := by decide +kernel
theorem d2_39 : decode prog_27_method_4_code 39 = .ok (.getstatic 10, 3) := by decide +kernel
theorem d2_42 : decode prog_27_method_4_code 42 = .ok (.astore_n 2, 1) := by decide +kernel
theorem d2_43 : decode prog_27_method_4_code 43 = .ok (.aload_n 2, 1) := by decide +kernel
theorem d2_44 : decode prog_27_method_4_code 44 = .ok (.areturn, 1) := by decide +kernel
theorem pn_com_example_honest_schema_honestschema_RewriteVerdict : plainName "com/example/honest_schema/honestschema/RewriteVerdict" = true := by first | (simp [plainName, overriddenIn]; done) | decide +kernel
theorem ef_2 (m : MethodId) (x0 : Addr) (x1 : Addr) : entryFrame m #[(.ref x0), (.ref x1)] 3 = mkF m 0 #[.val (.ref x0), .val (.ref x1), .unset] [] := by first | (simp [entryFrame, mkF, argsToLocals, Value.category]; done) | rfl
def own_and (aa : Addr) (bb : Addr) (no : Addr) (un : Addr) (re : Addr) : Addr := (if aa = re then re else (if bb = re then re else (if aa = un then un else (if bb = un then un else no))))
def Q2 (Z : State) (aa : Addr) (bb : Addr) (no : Addr) (un : Addr) (re : Addr) (h0 : Heap) (n0 : Nat) (v : Option Value) (h : Heap) (L : List Loc) : Prop := v = some (.ref (own_and aa bb no un re)) ∧ Fr n0 L ∧ h = h0
set_option maxRecDepth 65536 in
set_option maxHeartbeats 40000000 in
theorem rm2 (l : Launch) (Z : State) (a0 : Array Value) (hw : ∀ d ∈ tables_1, d.before a0 Z = true) (ws : List Jvm.Cond) (aa : Addr) (bb : Addr) (no : Addr) (un : Addr) (re : Addr) (h0 : Heap) (n0 : Nat) (Z0 : n0 ≤ h0.size) (S_NO_REWRITE : Sta Z h0 "com/example/honest_schema/honestschema/RewriteVerdict" "NO_REWRITE" "Lcom/example/honest_schema/honestschema/RewriteVerdict;" (.ref no)) (S_UNKNOWN : Sta Z h0 "com/example/honest_schema/honestschema/RewriteVerdict" "UNKNOWN" "Lcom/example/honest_schema/honestschema/RewriteVerdict;" (.ref un)) (S_REWRITE : Sta Z h0 "com/example/honest_schema/honestschema/RewriteVerdict" "REWRITE" "Lcom/example/honest_schema/honestschema/RewriteVerdict;" (.ref re)) :
    MetFree l (⟨"com/example/honest_schema/honestschema/RewriteVerdict", "and", "(Lcom/example/honest_schema/honestschema/RewriteVerdict;)Lcom/example/honest_schema/honestschema/RewriteVerdict;"⟩ : MethodName) (head1 (Jvm.Cond.code (⟨"com/example/honest_schema/honestschema/RewriteVerdict", "and", "(Lcom/example/honest_schema/honestschema/RewriteVerdict;)Lcom/example/honest_schema/honestschema/RewriteVerdict;"⟩ : MethodName) prog_27_method_4_code 3 (some (.object "com/example/honest_schema/honestschema/RewriteVerdict")) :: ws) ({ frames := 0, cells := 0, slots := 0, locals := 0 } : Room)) (fun a U => a = #[(.ref aa), (.ref bb)] ∧ Z.Warmed39 U.vm ∧ U.heap = h0) (fun _ _ _ _ _ => True) (fun _ U o U' => ∃ v L, o = .returned v ∧ Q2 Z aa bb no un re h0 n0 v U'.heap L ∧ FrameEnd U o U' L ({ frames := 0, cells := 0, slots := 0, locals := 0 } : Room).cells ({ frames := 0, cells := 0, slots := 0, locals := 0 } : Room).slots) := by
  refine MetFree.of_bodySF (plainFor_of_name pn_com_example_honest_schema_honestschema_RewriteVerdict) hisR ?_
  intro p e s m args below meth c s₁ Bd hml0 hP hK
  obtain ⟨rfl, hZ, hh⟩ := hP
  have hx := Bd.exec
  have hby := Bd.bytes
  have hlk := Bd.notSynchronized
  have hrt := Bd.returns
  have hml : c.maxLocals = 3 := hml0
  have hown : s.vm.findClass "com/example/honest_schema/honestschema/RewriteVerdict" = some m.cls := findClass_of_methodNamed Bd.named
  have hnm := (name_of_methodNamed Bd.named Bd.method).1
  have X0 : Stand p l e ({ frames := 0, cells := 0, slots := 0, locals := 0 } : Room) s m #[(.ref aa), (.ref bb)] below meth c s₁ [] 0 0 := Stand.of_body Bd
  have e0 : s₁.heap = h0 := by rw [← hh, Bd.state]; rfl
  have N0 := Fr.nil n0
  have K0 := Keep.refl h0 []
  refine own_out (Q := Q2 Z aa bb no un re h0 n0) ?_
  refine own_in (ef_2 m aa bb) ?_
  show own_Go _ _ _ _ s₁ (mkF m 0 #[.val (.ref aa), .val (.ref bb), .unset] [])
  obtain ⟨T1, X1, e1, st1⟩ := getS2 X0 hx hZ hown (host := "") (Or.inl (hw _ (List.mem_of_getElem? (i := 13) rfl))) Via.refl e0 S_NO_REWRITE (g := (mkF m 0 #[.val (.ref aa), .val (.ref bb), .unset] [])) rfl (hb hby d2_0)
  refine own_st st1 ?_
  show own_Go _ _ _ _ T1 (mkF m 3 #[.val (.ref aa), .val (.ref bb), .unset] [(.ref no)])
  refine own_st (fun t k => XS.astoreN X1.here hx rfl (hb hby d2_3) rfl rfl (l' := #[.val (.ref aa), .val (.ref bb), .val (.ref no)]) rfl k) ?_
  show own_Go _ _ _ _ T1 (mkF m 4 #[.val (.ref aa), .val (.ref bb), .val (.ref no)] [])
  refine own_st (fun t k => XS.aloadN X1.here hx rfl (hb hby d2_4) rfl rfl k) ?_
  show own_Go _ _ _ _ T1 (mkF m 5 #[.val (.ref aa), .val (.ref bb), .val (.ref no)] [(.ref aa)])
  obtain ⟨T2, X2, e2, st2⟩ := getS2 X1 hx hZ hown (host := "") (Or.inl (hw _ (List.mem_of_getElem? (i := 14) rfl))) Via.refl e1 S_REWRITE (g := (mkF m 5 #[.val (.ref aa), .val (.ref bb), .val (.ref no)] [(.ref aa)])) rfl (hb hby d2_5)
  refine own_st st2 ?_
  show own_Go _ _ _ _ T2 (mkF m 8 #[.val (.ref aa), .val (.ref bb), .val (.ref no)] [(.ref re), (.ref aa)])
  by_cases c8_3 : aa = re
  ·
    refine own_st (fun t k => Jvm.RoadKit.acmp (g := (mkF m 8 #[.val (.ref aa), .val (.ref bb), .val (.ref no)] [(.ref re), (.ref aa)])) X2 hx rfl rfl rfl (pc0 := 8) (pc' := 18) (same := true) rfl (hb hby d2_8) rfl (decide_eq_true (congrArg Value.ref c8_3)) (by decide) (by decide) k) ?_
    show own_Go _ _ _ _ T2 (mkF m 18 #[.val (.ref aa), .val (.ref bb), .val (.ref no)] [])
    obtain ⟨T4, X4, e4, st4⟩ := getS2 X2 hx hZ hown (host := "") (Or.inl (hw _ (List.mem_of_getElem? (i := 14) rfl))) Via.refl e2 S_REWRITE (g := (mkF m 18 #[.val (.ref aa), .val (.ref bb), .val (.ref no)] [])) rfl (hb hby d2_18)
    refine own_st st4 ?_
    show own_Go _ _ _ _ T4 (mkF m 21 #[.val (.ref aa), .val (.ref bb), .val (.ref no)] [(.ref re)])
    refine own_st (fun t k => XS.astoreN X4.here hx rfl (hb hby d2_21) rfl rfl (l' := #[.val (.ref aa), .val (.ref bb), .val (.ref re)]) rfl k) ?_
    show own_Go _ _ _ _ T4 (mkF m 22 #[.val (.ref aa), .val (.ref bb), .val (.ref re)] [])
    refine own_st (fun t k => XS.goto X4.here hx rfl (pc0 := 22) (pc' := 43) rfl (hb hby d2_22) (by decide) (by decide) k) ?_
    show own_Go _ _ _ _ T4 (mkF m 43 #[.val (.ref aa), .val (.ref bb), .val (.ref re)] [])
    refine own_st (fun t k => XS.aloadN X4.here hx rfl (hb hby d2_43) rfl rfl k) ?_
    show own_Go _ _ _ _ T4 (mkF m 44 #[.val (.ref aa), .val (.ref bb), .val (.ref re)] [(.ref re)])
    exact own_retR X4 hx hlk hrt rfl rfl rfl (hb hby d2_44) ⟨(by simp only [own_and, if_pos c8_3]; first | rfl | done), N0, e4⟩ (by decide) (by decide)
  ·
    refine own_st (fun t k => Jvm.RoadKit.acmp (g := (mkF m 8 #[.val (.ref aa), .val (.ref bb), .val (.ref no)] [(.ref re), (.ref aa)])) X2 hx rfl rfl rfl (pc0 := 8) (pc' := 11) (same := false) rfl (hb hby d2_8) rfl (decide_eq_false fun q => c8_3 (Value.ref.inj q)) (by decide) (by decide) k) ?_
    show own_Go _ _ _ _ T2 (mkF m 11 #[.val (.ref aa), .val (.ref bb), .val (.ref no)] [])
    refine own_st (fun t k => XS.aloadN X2.here hx rfl (hb hby d2_11) rfl rfl k) ?_
    show own_Go _ _ _ _ T2 (mkF m 12 #[.val (.ref aa), .val (.ref bb), .val (.ref no)] [(.ref bb)])
    obtain ⟨T5, X5, e5, st5⟩ := getS2 X2 hx hZ hown (host := "") (Or.inl (hw _ (List.mem_of_getElem? (i := 14) rfl))) Via.refl e2 S_REWRITE (g := (mkF m 12 #[.val (.ref aa), .val (.ref bb), .val (.ref no)] [(.ref bb)])) rfl (hb hby d2_12)
    refine own_st st5 ?_
    show own_Go _ _ _ _ T5 (mkF m 15 #[.val (.ref aa), .val (.ref bb), .val (.ref no)] [(.ref re), (.ref bb)])
    by_cases c15_6 : bb = re
    ·
      refine own_st (fun t k => Jvm.RoadKit.acmp (g := (mkF m 15 #[.val (.ref aa), .val (.ref bb), .val (.ref no)] [(.ref re), (.ref bb)])) X5 hx rfl rfl rfl (pc0 := 15) (pc' := 18) (same := true) rfl (hb hby d2_15) rfl (decide_eq_true (congrArg Value.ref c15_6)) (by decide) (by decide) k) ?_
      show own_Go _ _ _ _ T5 (mkF m 18 #[.val (.ref aa), .val (.ref bb), .val (.ref no)] [])
      obtain ⟨T7, X7, e7, st7⟩ := getS2 X5 hx hZ hown (host := "") (Or.inl (hw _ (List.mem_of_getElem? (i := 14) rfl))) Via.refl e5 S_REWRITE (g := (mkF m 18 #[.val (.ref aa), .val (.ref bb), .val (.ref no)] [])) rfl (hb hby d2_18)
      refine own_st st7 ?_
      show own_Go _ _ _ _ T7 (mkF m 21 #[.val (.ref aa), .val (.ref bb), .val (.ref no)] [(.ref re)])
      refine own_st (fun t k => XS.astoreN X7.here hx rfl (hb hby d2_21) rfl rfl (l' := #[.val (.ref aa), .val (.ref bb), .val (.ref re)]) rfl k) ?_
      show own_Go _ _ _ _ T7 (mkF m 22 #[.val (.ref aa), .val (.ref bb), .val (.ref re)] [])
      refine own_st (fun t k => XS.goto X7.here hx rfl (pc0 := 22) (pc' := 43) rfl (hb hby d2_22) (by decide) (by decide) k) ?_
      show own_Go _ _ _ _ T7 (mkF m 43 #[.val (.ref aa), .val (.ref bb), .val (.ref re)] [])
      refine own_st (fun t k => XS.aloadN X7.here hx rfl (hb hby d2_43) rfl rfl k) ?_
      show own_Go _ _ _ _ T7 (mkF m 44 #[.val (.ref aa), .val (.ref bb), .val (.ref re)] [(.ref re)])
      exact own_retR X7 hx hlk hrt rfl rfl rfl (hb hby d2_44) ⟨(by simp only [own_and, if_neg c8_3, if_pos c15_6]; first | rfl | done), N0, e7⟩ (by decide) (by decide)
    ·
      refine own_st (fun t k => Jvm.RoadKit.acmp (g := (mkF m 15 #[.val (.ref aa), .val (.ref bb), .val (.ref no)] [(.ref re), (.ref bb)])) X5 hx rfl rfl rfl (pc0 := 15) (pc' := 25) (same := false) rfl (hb hby d2_15) rfl (decide_eq_false fun q => c15_6 (Value.ref.inj q)) (by decide) (by decide) k) ?_
      show own_Go _ _ _ _ T5 (mkF m 25 #[.val (.ref aa), .val (.ref bb), .val (.ref no)] [])
      refine own_st (fun t k => XS.aloadN X5.here hx rfl (hb hby d2_25) rfl rfl k) ?_
      show own_Go _ _ _ _ T5 (mkF m 26 #[.val (.ref aa), .val (.ref bb), .val (.ref no)] [(.ref aa)])
      obtain ⟨T8, X8, e8, st8⟩ := getS2 X5 hx hZ hown (host := "") (Or.inl (hw _ (List.mem_of_getElem? (i := 16) rfl))) Via.refl e5 S_UNKNOWN (g := (mkF m 26 #[.val (.ref aa), .val (.ref bb), .val (.ref no)] [(.ref aa)])) rfl (hb hby d2_26)
      refine own_st st8 ?_
      show own_Go _ _ _ _ T8 (mkF m 29 #[.val (.ref aa), .val (.ref bb), .val (.ref no)] [(.ref un), (.ref aa)])
      by_cases c29_9 : aa = un
      ·
        refine own_st (fun t k => Jvm.RoadKit.acmp (g := (mkF m 29 #[.val (.ref aa), .val (.ref bb), .val (.ref no)] [(.ref un), (.ref aa)])) X8 hx rfl rfl rfl (pc0 := 29) (pc' := 39) (same := true) rfl (hb hby d2_29) rfl (decide_eq_true (congrArg Value.ref c29_9)) (by decide) (by decide) k) ?_
        show own_Go _ _ _ _ T8 (mkF m 39 #[.val (.ref aa), .val (.ref bb), .val (.ref no)] [])
        obtain ⟨T10, X10, e10, st10⟩ := getS2 X8 hx hZ hown (host := "") (Or.inl (hw _ (List.mem_of_getElem? (i := 16) rfl))) Via.refl e8 S_UNKNOWN (g := (mkF m 39 #[.val (.ref aa), .val (.ref bb), .val (.ref no)] [])) rfl (hb hby d2_39)
        refine own_st st10 ?_
        show own_Go _ _ _ _ T10 (mkF m 42 #[.val (.ref aa), .val (.ref bb), .val (.ref no)] [(.ref un)])
        refine own_st (fun t k => XS.astoreN X10.here hx rfl (hb hby d2_42) rfl rfl (l' := #[.val (.ref aa), .val (.ref bb), .val (.ref un)]) rfl k) ?_
        show own_Go _ _ _ _ T10 (mkF m 43 #[.val (.ref aa), .val (.ref bb), .val (.ref un)] [])
        refine own_st (fun t k => XS.aloadN X10.here hx rfl (hb hby d2_43) rfl rfl k) ?_
        show own_Go _ _ _ _ T10 (mkF m 44 #[.val (.ref aa), .val (.ref bb), .val (.ref un)] [(.ref un)])
        exact own_retR X10 hx hlk hrt rfl rfl rfl (hb hby d2_44) ⟨(by simp only [own_and, if_neg c8_3, if_neg c15_6, if_pos c29_9]; first | rfl | done), N0, e10⟩ (by decide) (by decide)
      ·
        refine own_st (fun t k => Jvm.RoadKit.acmp (g := (mkF m 29 #[.val (.ref aa), .val (.ref bb), .val (.ref no)] [(.ref un), (.ref aa)])) X8 hx rfl rfl rfl (pc0 := 29) (pc' := 32) (same := false) rfl (hb hby d2_29) rfl (decide_eq_false fun q => c29_9 (Value.ref.inj q)) (by decide) (by decide) k) ?_
        show own_Go _ _ _ _ T8 (mkF m 32 #[.val (.ref aa), .val (.ref bb), .val (.ref no)] [])
        refine own_st (fun t k => XS.aloadN X8.here hx rfl (hb hby d2_32) rfl rfl k) ?_
        show own_Go _ _ _ _ T8 (mkF m 33 #[.val (.ref aa), .val (.ref bb), .val (.ref no)] [(.ref bb)])
        obtain ⟨T11, X11, e11, st11⟩ := getS2 X8 hx hZ hown (host := "") (Or.inl (hw _ (List.mem_of_getElem? (i := 16) rfl))) Via.refl e8 S_UNKNOWN (g := (mkF m 33 #[.val (.ref aa), .val (.ref bb), .val (.ref no)] [(.ref bb)])) rfl (hb hby d2_33)
        refine own_st st11 ?_
        show own_Go _ _ _ _ T11 (mkF m 36 #[.val (.ref aa), .val (.ref bb), .val (.ref no)] [(.ref un), (.ref bb)])
        by_cases c36_12 : bb = un
        ·
          refine own_st (fun t k => Jvm.RoadKit.acmp (g := (mkF m 36 #[.val (.ref aa), .val (.ref bb), .val (.ref no)] [(.ref un), (.ref bb)])) X11 hx rfl rfl rfl (pc0 := 36) (pc' := 39) (same := true) rfl (hb hby d2_36) rfl (decide_eq_true (congrArg Value.ref c36_12)) (by decide) (by decide) k) ?_
          show own_Go _ _ _ _ T11 (mkF m 39 #[.val (.ref aa), .val (.ref bb), .val (.ref no)] [])
          obtain ⟨T13, X13, e13, st13⟩ := getS2 X11 hx hZ hown (host := "") (Or.inl (hw _ (List.mem_of_getElem? (i := 16) rfl))) Via.refl e11 S_UNKNOWN (g := (mkF m 39 #[.val (.ref aa), .val (.ref bb), .val (.ref no)] [])) rfl (hb hby d2_39)
          refine own_st st13 ?_
          show own_Go _ _ _ _ T13 (mkF m 42 #[.val (.ref aa), .val (.ref bb), .val (.ref no)] [(.ref un)])
          refine own_st (fun t k => XS.astoreN X13.here hx rfl (hb hby d2_42) rfl rfl (l' := #[.val (.ref aa), .val (.ref bb), .val (.ref un)]) rfl k) ?_
          show own_Go _ _ _ _ T13 (mkF m 43 #[.val (.ref aa), .val (.ref bb), .val (.ref un)] [])
          refine own_st (fun t k => XS.aloadN X13.here hx rfl (hb hby d2_43) rfl rfl k) ?_
          show own_Go _ _ _ _ T13 (mkF m 44 #[.val (.ref aa), .val (.ref bb), .val (.ref un)] [(.ref un)])
          exact own_retR X13 hx hlk hrt rfl rfl rfl (hb hby d2_44) ⟨(by simp only [own_and, if_neg c8_3, if_neg c15_6, if_neg c29_9, if_pos c36_12]; first | rfl | done), N0, e13⟩ (by decide) (by decide)
        ·
          refine own_st (fun t k => Jvm.RoadKit.acmp (g := (mkF m 36 #[.val (.ref aa), .val (.ref bb), .val (.ref no)] [(.ref un), (.ref bb)])) X11 hx rfl rfl rfl (pc0 := 36) (pc' := 43) (same := false) rfl (hb hby d2_36) rfl (decide_eq_false fun q => c36_12 (Value.ref.inj q)) (by decide) (by decide) k) ?_
          show own_Go _ _ _ _ T11 (mkF m 43 #[.val (.ref aa), .val (.ref bb), .val (.ref no)] [])
          refine own_st (fun t k => XS.aloadN X11.here hx rfl (hb hby d2_43) rfl rfl k) ?_
          show own_Go _ _ _ _ T11 (mkF m 44 #[.val (.ref aa), .val (.ref bb), .val (.ref no)] [(.ref no)])
          exact own_retR X11 hx hlk hrt rfl rfl rfl (hb hby d2_44) ⟨(by simp only [own_and, if_neg c8_3, if_neg c15_6, if_neg c29_9, if_neg c36_12]; first | rfl | done), N0, e11⟩ (by decide) (by decide)
/-! body 3: Math.max -/
theorem d3_0 : decode jdk_29_method_65_code 0 = .ok (.iload_n 0, 1) := by decide +kernel
theorem d3_1 : decode jdk_29_method_65_code 1 = .ok (.iload_n 1, 1) := by decide +kernel
theorem d3_2 : decode jdk_29_method_65_code 2 = .ok (.if_icmp .lt 7, 3) := by decide +kernel
theorem d3_5 : decode jdk_29_method_65_code 5 = .ok (.iload_n 0, 1) := by decide +kernel
theorem d3_6 : decode jdk_29_method_65_code 6 = .ok (.goto 4, 3) := by decide +kernel
theorem d3_9 : decode jdk_29_method_65_code 9 = .ok (.iload_n 1, 1) := by decide +kernel
theorem d3_10 : decode jdk_29_method_65_code 10 = .ok (.ireturn, 1) := by decide +kernel
theorem ef_3 (m : MethodId) (x0 : Int32) (x1 : Int32) : entryFrame m #[(.int x0), (.int x1)] 2 = mkF m 0 #[.val (.int x0), .val (.int x1)] [] := by first | (simp [entryFrame, mkF, argsToLocals, Value.category]; done) | rfl
def own_max (x1 : Int32) (x2 : Int32) : Int32 := (if x1 < x2 then x2 else x1)
def Q3 (Z : State) (x1 : Int32) (x2 : Int32) (h0 : Heap) (n0 : Nat) (v : Option Value) (h : Heap) (L : List Loc) : Prop := v = some (.int (own_max x1 x2)) ∧ Fr n0 L ∧ h = h0
set_option maxRecDepth 65536 in
set_option maxHeartbeats 40000000 in
theorem rm3 (l : Launch) (Z : State) (a0 : Array Value) (hw : ∀ d ∈ tables_1, d.before a0 Z = true) (ws : List Jvm.Cond) (x1 : Int32) (x2 : Int32) (h0 : Heap) (n0 : Nat) (Z0 : n0 ≤ h0.size) :
    MetFree l (⟨"java/lang/Math", "max", "(II)I"⟩ : MethodName) (head1 (Jvm.Cond.code (⟨"java/lang/Math", "max", "(II)I"⟩ : MethodName) jdk_29_method_65_code 2 (some .int) :: ws) ({ frames := 0, cells := 0, slots := 0, locals := 0 } : Room)) (fun a U => a = #[(.int x1), (.int x2)] ∧ Z.Warmed39 U.vm ∧ U.heap = h0) (fun _ _ _ _ _ => True) (fun _ U o U' => ∃ v L, o = .returned v ∧ Q3 Z x1 x2 h0 n0 v U'.heap L ∧ FrameEnd U o U' L ({ frames := 0, cells := 0, slots := 0, locals := 0 } : Room).cells ({ frames := 0, cells := 0, slots := 0, locals := 0 } : Room).slots) := by
  refine MetFree.of_bodySF (Jvm.Free.JP.mathPlain rfl (by decide +kernel)) hisR ?_
  intro p e s m args below meth c s₁ Bd hml0 hP hK
  obtain ⟨rfl, hZ, hh⟩ := hP
  have hx := Bd.exec
  have hby := Bd.bytes
  have hlk := Bd.notSynchronized
  have hrt := Bd.returns
  have hml : c.maxLocals = 2 := hml0
  have hown : s.vm.findClass "java/lang/Math" = some m.cls := findClass_of_methodNamed Bd.named
  have hnm := (name_of_methodNamed Bd.named Bd.method).1
  have X0 : Stand p l e ({ frames := 0, cells := 0, slots := 0, locals := 0 } : Room) s m #[(.int x1), (.int x2)] below meth c s₁ [] 0 0 := Stand.of_body Bd
  have e0 : s₁.heap = h0 := by rw [← hh, Bd.state]; rfl
  have N0 := Fr.nil n0
  have K0 := Keep.refl h0 []
  refine own_out (Q := Q3 Z x1 x2 h0 n0) ?_
  refine own_in (ef_3 m x1 x2) ?_
  show own_Go _ _ _ _ s₁ (mkF m 0 #[.val (.int x1), .val (.int x2)] [])
  refine own_st (fun t k => XS.iloadN X0.here hx rfl (hb hby d3_0) rfl k) ?_
  show own_Go _ _ _ _ s₁ (mkF m 1 #[.val (.int x1), .val (.int x2)] [(.int x1)])
  refine own_st (fun t k => XS.iloadN X0.here hx rfl (hb hby d3_1) rfl k) ?_
  show own_Go _ _ _ _ s₁ (mkF m 2 #[.val (.int x1), .val (.int x2)] [(.int x2), (.int x1)])
  by_cases c2_1 : x1 < x2
  ·
    refine own_st (fun t k => XS.icmpYes X0.here hx rfl (pc0 := 2) (pc' := 9) rfl (hb hby d3_2) rfl (tlt c2_1).1 (by decide) (by decide) k) ?_
    show own_Go _ _ _ _ s₁ (mkF m 9 #[.val (.int x1), .val (.int x2)] [])
    refine own_st (fun t k => XS.iloadN X0.here hx rfl (hb hby d3_9) rfl k) ?_
    show own_Go _ _ _ _ s₁ (mkF m 10 #[.val (.int x1), .val (.int x2)] [(.int x2)])
    exact own_retI X0 hx hlk hrt (hb hby d3_10) ⟨(by simp only [own_max, if_pos c2_1]; first | rfl | done), N0, e0⟩ (by decide) (by decide)
  ·
    refine own_st (fun t k => XS.icmpNo X0.here hx rfl (hb hby d3_2) rfl (flt c2_1).1 k) ?_
    show own_Go _ _ _ _ s₁ (mkF m 5 #[.val (.int x1), .val (.int x2)] [])
    refine own_st (fun t k => XS.iloadN X0.here hx rfl (hb hby d3_5) rfl k) ?_
    show own_Go _ _ _ _ s₁ (mkF m 6 #[.val (.int x1), .val (.int x2)] [(.int x1)])
    refine own_st (fun t k => XS.goto X0.here hx rfl (pc0 := 6) (pc' := 10) rfl (hb hby d3_6) (by decide) (by decide) k) ?_
    show own_Go _ _ _ _ s₁ (mkF m 10 #[.val (.int x1), .val (.int x2)] [(.int x1)])
    exact own_retI X0 hx hlk hrt (hb hby d3_10) ⟨(by simp only [own_max, if_neg c2_1]; first | rfl | done), N0, e0⟩ (by decide) (by decide)
theorem own_r3 (x : Int32) : ((x &&& (2147483647 : Int32)) % (3 : Int32)) = 0 ∨ ((x &&& (2147483647 : Int32)) % (3 : Int32)) = 1 ∨ ((x &&& (2147483647 : Int32)) % (3 : Int32)) = 2 := by
  have h1 := c_and x (2147483647 : Int32) (by decide)
  have h2 := (c_irem (x &&& (2147483647 : Int32)) (3 : Int32) 3 (by decide)).1 h1.1
  have e : ∀ k : Int32, ((x &&& (2147483647 : Int32)) % (3 : Int32)) = k ↔ ((x &&& (2147483647 : Int32)) % (3 : Int32)).toInt = k.toInt := fun k => Int32.toInt_inj.symm
  rw [e, e, e, h2]
  simp only [Int32.reduceToInt]
  omega

theorem pd_205483 : parseMethodDescriptor "(I)Lcom/example/honest_schema/honestschema/RewriteVerdict;" = some ⟨[.int], some (.object "com/example/honest_schema/honestschema/RewriteVerdict")⟩ := by decide +kernel
theorem pd_697779 : parseMethodDescriptor "(Lcom/example/honest_schema/honestschema/RewriteVerdict;)Lcom/example/honest_schema/honestschema/RewriteVerdict;" = some ⟨[(.object "com/example/honest_schema/honestschema/RewriteVerdict")], some (.object "com/example/honest_schema/honestschema/RewriteVerdict")⟩ := by decide +kernel
theorem pd__28II_29I : parseMethodDescriptor "(II)I" = some ⟨[.int, .int], some .int⟩ := by decide +kernel
/-! body 0: RewriteVerdictAndPinLaw.law -/
theorem ef_0 (m : MethodId) (x0 : Int32) (x1 : Int32) : entryFrame m #[(.int x0), (.int x1)] maxLocals = mkF m 0 #[.val (.int x0), .val (.int x1), .unset, .unset, .unset] [] := by first | (simp [entryFrame, mkF, argsToLocals, Value.category, maxLocals]; done) | rfl
def Q0 (Z : State) (p0 : Int32) (p1 : Int32) (no : Addr) (un : Addr) (re : Addr) (h0 : Heap) (n0 : Nat) (v : Option Value) (h : Heap) (L : List Loc) : Prop := v = some (.int (1 : Int32)) ∧ Fr n0 L
set_option maxRecDepth 65536 in
set_option maxHeartbeats 40000000 in
theorem rm0 (l : Launch) (Z : State) (a0 : Array Value) (hw : ∀ d ∈ tables_1, d.before a0 Z = true) (ws : List Jvm.Cond) (p0 : Int32) (p1 : Int32) (no : Addr) (un : Addr) (re : Addr) (h0 : Heap) (n0 : Nat) (Z0 : n0 ≤ h0.size) (S_NO_REWRITE : Sta Z h0 "com/example/honest_schema/honestschema/RewriteVerdict" "NO_REWRITE" "Lcom/example/honest_schema/honestschema/RewriteVerdict;" (.ref no)) (S_UNKNOWN : Sta Z h0 "com/example/honest_schema/honestschema/RewriteVerdict" "UNKNOWN" "Lcom/example/honest_schema/honestschema/RewriteVerdict;" (.ref un)) (S_REWRITE : Sta Z h0 "com/example/honest_schema/honestschema/RewriteVerdict" "REWRITE" "Lcom/example/honest_schema/honestschema/RewriteVerdict;" (.ref re)) (E_no : Exa Z h0 no "com/example/honest_schema/honestschema/RewriteVerdict") (E_un : Exa Z h0 un "com/example/honest_schema/honestschema/RewriteVerdict") (E_re : Exa Z h0 re "com/example/honest_schema/honestschema/RewriteVerdict") (n1 : no ≠ un) (n2 : no ≠ re) (n3 : un ≠ re) :
    MetFree l x (head1 (Jvm.Cond.code x code maxLocals ret :: ws) room_1) (fun a U => a = #[(.int p0), (.int p1)] ∧ Z.Warmed39 U.vm ∧ U.heap = h0) (fun _ _ _ _ _ => True) (fun _ U o U' => ∃ v L, o = .returned v ∧ Q0 Z p0 p1 no un re h0 n0 v U'.heap L ∧ FrameEnd U o U' L 0 0) := by
  refine MetFree.of_bodySF (plainFor_of_name pn_com_example_honest_schema_honestschema_RewriteVerdictAndPinLaw) hisR ?_
  intro p e s m args below meth c s₁ Bd hml0 hP hK
  obtain ⟨rfl, hZ, hh⟩ := hP
  have hx := Bd.exec
  have hby := Bd.bytes
  have hlk := Bd.notSynchronized
  have hrt := Bd.returns
  have hml : c.maxLocals = 5 := hml0
  have hown : s.vm.findClass "com/example/honest_schema/honestschema/RewriteVerdictAndPinLaw" = some m.cls := findClass_of_methodNamed Bd.named
  have hnm := (name_of_methodNamed Bd.named Bd.method).1
  have X0 : Stand p l e room_1 s m #[(.int p0), (.int p1)] below meth c s₁ [] 0 0 := Stand.of_body Bd
  have e0 : s₁.heap = h0 := by rw [← hh, Bd.state]; rfl
  have N0 := Fr.nil n0
  have K0 := Keep.refl h0 []
  refine own_out (Q := Q0 Z p0 p1 no un re h0 n0) ?_
  refine own_in (ef_0 m p0 p1) ?_
  show own_Go _ _ _ _ s₁ (mkF m 0 #[.val (.int p0), .val (.int p1), .unset, .unset, .unset] [])
  refine own_st (fun t k => XS.iloadN X0.here hx rfl (hb hby at_0) rfl k) ?_
  show own_Go _ _ _ _ s₁ (mkF m 1 #[.val (.int p0), .val (.int p1), .unset, .unset, .unset] [(.int p0)])
  refine own_st (X0.ldcInt hx hown (mvT hZ (hw _ (List.mem_of_getElem? (i := 0) rfl))) (g := (mkF m 1 #[.val (.int p0), .val (.int p1), .unset, .unset, .unset] [(.int p0)])) rfl (hb hby at_1)) ?_
  show own_Go _ _ _ _ s₁ (mkF m 3 #[.val (.int p0), .val (.int p1), .unset, .unset, .unset] [(.int (2147483647 : Int32)), (.int p0)])
  refine own_st (fun t k => XS.iand X0.here hx rfl (hb hby at_3) rfl k) ?_
  show own_Go _ _ _ _ s₁ (mkF m 4 #[.val (.int p0), .val (.int p1), .unset, .unset, .unset] [(.int (p0 &&& (2147483647 : Int32)))])
  refine own_st (fun t k => XS.iconst X0.here hx rfl (hb hby at_4) k) ?_
  show own_Go _ _ _ _ s₁ (mkF m 5 #[.val (.int p0), .val (.int p1), .unset, .unset, .unset] [(.int (3 : Int32)), (.int (p0 &&& (2147483647 : Int32)))])
  refine own_st (fun t k => iremM X0 hx rfl (hb hby at_5) rfl (by decide) k) ?_
  show own_Go _ _ _ _ s₁ (mkF m 6 #[.val (.int p0), .val (.int p1), .unset, .unset, .unset] [(.int ((p0 &&& (2147483647 : Int32)) % (3 : Int32)))])
  refine own_st (fun t k => XS.istoreN X0.here hx rfl (hb hby at_6) rfl (l' := #[.val (.int p0), .val (.int p1), .val (.int ((p0 &&& (2147483647 : Int32)) % (3 : Int32))), .unset, .unset]) rfl k) ?_
  show own_Go _ _ _ _ s₁ (mkF m 7 #[.val (.int p0), .val (.int p1), .val (.int ((p0 &&& (2147483647 : Int32)) % (3 : Int32))), .unset, .unset] [])
  rcases own_r3 p0 with hra | hra | hra
  ·
    rw [hra]
    show own_Go _ _ _ _ s₁ (mkF m 7 #[.val (.int p0), .val (.int p1), .val (.int (0 : Int32)), .unset, .unset] [])
    refine own_st (fun t k => XS.iloadN X0.here hx rfl (hb hby at_7) rfl k) ?_
    show own_Go _ _ _ _ s₁ (mkF m 8 #[.val (.int p0), .val (.int p1), .val (.int (0 : Int32)), .unset, .unset] [(.int p1)])
    refine own_st (X0.ldcInt hx hown (mvT hZ (hw _ (List.mem_of_getElem? (i := 0) rfl))) (g := (mkF m 8 #[.val (.int p0), .val (.int p1), .val (.int (0 : Int32)), .unset, .unset] [(.int p1)])) rfl (hb hby at_8)) ?_
    show own_Go _ _ _ _ s₁ (mkF m 10 #[.val (.int p0), .val (.int p1), .val (.int (0 : Int32)), .unset, .unset] [(.int (2147483647 : Int32)), (.int p1)])
    refine own_st (fun t k => XS.iand X0.here hx rfl (hb hby at_10) rfl k) ?_
    show own_Go _ _ _ _ s₁ (mkF m 11 #[.val (.int p0), .val (.int p1), .val (.int (0 : Int32)), .unset, .unset] [(.int (p1 &&& (2147483647 : Int32)))])
    refine own_st (fun t k => XS.iconst X0.here hx rfl (hb hby at_11) k) ?_
    show own_Go _ _ _ _ s₁ (mkF m 12 #[.val (.int p0), .val (.int p1), .val (.int (0 : Int32)), .unset, .unset] [(.int (3 : Int32)), (.int (p1 &&& (2147483647 : Int32)))])
    refine own_st (fun t k => iremM X0 hx rfl (hb hby at_12) rfl (by decide) k) ?_
    show own_Go _ _ _ _ s₁ (mkF m 13 #[.val (.int p0), .val (.int p1), .val (.int (0 : Int32)), .unset, .unset] [(.int ((p1 &&& (2147483647 : Int32)) % (3 : Int32)))])
    refine own_st (fun t k => XS.istoreN X0.here hx rfl (hb hby at_13) rfl (l' := #[.val (.int p0), .val (.int p1), .val (.int (0 : Int32)), .val (.int ((p1 &&& (2147483647 : Int32)) % (3 : Int32))), .unset]) rfl k) ?_
    show own_Go _ _ _ _ s₁ (mkF m 14 #[.val (.int p0), .val (.int p1), .val (.int (0 : Int32)), .val (.int ((p1 &&& (2147483647 : Int32)) % (3 : Int32))), .unset] [])
    rcases own_r3 p1 with hrb | hrb | hrb
    ·
      rw [hrb]
      show own_Go _ _ _ _ s₁ (mkF m 14 #[.val (.int p0), .val (.int p1), .val (.int (0 : Int32)), .val (.int (0 : Int32)), .unset] [])
      refine own_st (fun t k => XS.iloadN X0.here hx rfl (hb hby at_14) rfl k) ?_
      show own_Go _ _ _ _ s₁ (mkF m 15 #[.val (.int p0), .val (.int p1), .val (.int (0 : Int32)), .val (.int (0 : Int32)), .unset] [(.int (0 : Int32))])
      obtain ⟨_, _, ⟨T1, L1, k1, n1⟩, -, X1, ⟨Lc1, hQ1, l1, y1, z1⟩, st1⟩ := Jvm.LawKit.callS X0 hx (y := (⟨"com/example/honest_schema/honestschema/RewriteVerdictAndPinLaw", "pick", "(I)Lcom/example/honest_schema/honestschema/RewriteVerdict;"⟩ : MethodName)) hown (mvT hZ (hw _ (List.mem_of_getElem? (i := 1) rfl))) (mvT hZ (hw _ (List.mem_of_getElem? (i := 2) rfl))) (mvT hZ (hw _ (List.mem_of_getElem? (i := 3) rfl))) (mvT hZ (hw _ (List.mem_of_getElem? (i := 4) rfl))) (by decide) (backOf (W := 0) (rm1 l Z a0 hw [] (0 : Int32) no un re  h0 n0 Z0 S_NO_REWRITE S_UNKNOWN S_REWRITE) hZ (hw _ (List.mem_of_getElem? (i := 4) rfl)) (hw _ (List.mem_of_getElem? (i := 3) rfl)) (by decide) (by decide)) (g := (mkF m 15 #[.val (.int p0), .val (.int p1), .val (.int (0 : Int32)), .val (.int (0 : Int32)), .unset] [(.int (0 : Int32))])) rfl (by rw [hml]; rfl) (argsL := [(.int (0 : Int32))]) (rest := []) (lenOf pd_205483 rfl) rfl (by show 2 * 0 + _ ≤ _; exact Nat.le_of_eq rfl) (hb hby at_15) (fun _ _ => ⟨rfl, e0, (by decide : 0 + 0 ≤ _), (by decide : 0 + 0 ≤ _)⟩)
      dsimp only [Pt.U, Pt.locs, Pt.cells, Pt.slots] at X1 l1 y1 z1 st1 hQ1
      subst l1 y1 z1
      obtain ⟨rfl, N1q, e1⟩ := hQ1
      rw [show own_pick (0 : Int32) no un re = no from by simp [own_pick]] at st1
      have N1 := Fr.app N0 N1q
      refine own_st st1 ?_
      show own_Go _ _ _ _ T1 (mkF m 18 #[.val (.int p0), .val (.int p1), .val (.int (0 : Int32)), .val (.int (0 : Int32)), .unset] [(.ref no)])
      refine own_st (fun t k => XS.iloadN X1.here hx rfl (hb hby at_18) rfl k) ?_
      show own_Go _ _ _ _ T1 (mkF m 19 #[.val (.int p0), .val (.int p1), .val (.int (0 : Int32)), .val (.int (0 : Int32)), .unset] [(.int (0 : Int32)), (.ref no)])
      obtain ⟨_, _, ⟨T2, L2, k2, n2⟩, -, X2, ⟨Lc2, hQ2, l2, y2, z2⟩, st2⟩ := Jvm.LawKit.callS X1 hx (y := (⟨"com/example/honest_schema/honestschema/RewriteVerdictAndPinLaw", "pick", "(I)Lcom/example/honest_schema/honestschema/RewriteVerdict;"⟩ : MethodName)) hown (mvT hZ (hw _ (List.mem_of_getElem? (i := 1) rfl))) (mvT hZ (hw _ (List.mem_of_getElem? (i := 2) rfl))) (mvT hZ (hw _ (List.mem_of_getElem? (i := 3) rfl))) (mvT hZ (hw _ (List.mem_of_getElem? (i := 4) rfl))) (by decide) (backOf (W := 1) (rm1 l Z a0 hw [] (0 : Int32) no un re  h0 n0 Z0 S_NO_REWRITE S_UNKNOWN S_REWRITE) hZ (hw _ (List.mem_of_getElem? (i := 4) rfl)) (hw _ (List.mem_of_getElem? (i := 3) rfl)) (by decide) (by decide)) (g := (mkF m 19 #[.val (.int p0), .val (.int p1), .val (.int (0 : Int32)), .val (.int (0 : Int32)), .unset] [(.int (0 : Int32)), (.ref no)])) rfl (by rw [hml]; rfl) (argsL := [(.int (0 : Int32))]) (rest := [(.ref no)]) (lenOf pd_205483 rfl) rfl (by show 2 * 0 + _ ≤ _; exact Nat.le_of_eq rfl) (hb hby at_19) (fun _ _ => ⟨rfl, e1, (by decide : 0 + 0 ≤ _), (by decide : 0 + 0 ≤ _)⟩)
      dsimp only [Pt.U, Pt.locs, Pt.cells, Pt.slots] at X2 l2 y2 z2 st2 hQ2
      subst l2 y2 z2
      obtain ⟨rfl, N2q, e2⟩ := hQ2
      rw [show own_pick (0 : Int32) no un re = no from by simp [own_pick]] at st2
      have N2 := Fr.app N1 N2q
      refine own_st st2 ?_
      show own_Go _ _ _ _ T2 (mkF m 22 #[.val (.int p0), .val (.int p1), .val (.int (0 : Int32)), .val (.int (0 : Int32)), .unset] [(.ref no), (.ref no)])
      obtain ⟨cq3, kq3, q3a, q3b, q3c⟩ := isOf hZ e2 E_no
      obtain ⟨_, _, ⟨T3, L3, k3, n3⟩, -, X3, ⟨Lc3, hQ3, l3, y3, z3⟩, st3⟩ := X2.virtualBack hx (y := (⟨"com/example/honest_schema/honestschema/RewriteVerdict", "and", "(Lcom/example/honest_schema/honestschema/RewriteVerdict;)Lcom/example/honest_schema/honestschema/RewriteVerdict;"⟩ : MethodName)) (z := (⟨"com/example/honest_schema/honestschema/RewriteVerdict", "and", "(Lcom/example/honest_schema/honestschema/RewriteVerdict;)Lcom/example/honest_schema/honestschema/RewriteVerdict;"⟩ : MethodName)) hown (mvT hZ (hw _ (List.mem_of_getElem? (i := 8) rfl))) (mvT hZ (hw _ (List.mem_of_getElem? (i := 9) rfl))) (notFace_of_selects (args := #[]) (mvT hZ (hw _ (List.mem_of_getElem? (i := 11) rfl)))) (mvT hZ (hw _ (List.mem_of_getElem? (i := 11) rfl))) (mvT hZ (hw _ (List.mem_of_getElem? (i := 10) rfl))) (by decide) (backOf (W := 0) (rm2 l Z a0 hw [] no no no un re  h0 n0 Z0 S_NO_REWRITE S_UNKNOWN S_REWRITE) hZ (hw _ (List.mem_of_getElem? (i := 12) rfl)) (hw _ (List.mem_of_getElem? (i := 6) rfl)) (by decide) (by decide)) q3a q3c (g := (mkF m 22 #[.val (.int p0), .val (.int p1), .val (.int (0 : Int32)), .val (.int (0 : Int32)), .unset] [(.ref no), (.ref no)])) rfl (by rw [hml]; rfl) (Steps.refl _) (argsL := [(.ref no)]) (rest := []) (lenOf pd_697779 rfl) rfl (by show 2 * 0 + _ ≤ _; exact Nat.le_of_eq rfl) (hb hby at_22) (fun _ _ => ⟨rfl, e2, (by decide : 0 + 0 ≤ _), (by decide : 0 + 0 ≤ _)⟩)
      dsimp only [Pt.U, Pt.locs, Pt.cells, Pt.slots] at X3 l3 y3 z3 st3 hQ3
      subst l3 y3 z3
      obtain ⟨rfl, N3q, e3⟩ := hQ3
      rw [show own_and no no no un re = no from by simp [own_and, n1, n2, n3, n1.symm, n2.symm, n3.symm]] at st3
      have N3 := Fr.app N2 N3q
      refine own_tr st3 ?_
      show own_Go _ _ _ _ T3 (mkF m 25 #[.val (.int p0), .val (.int p1), .val (.int (0 : Int32)), .val (.int (0 : Int32)), .unset] [(.ref no)])
      refine own_st (fun t k => XS.astore X3.here hx rfl (hb hby at_25) rfl rfl (l' := #[.val (.int p0), .val (.int p1), .val (.int (0 : Int32)), .val (.int (0 : Int32)), .val (.ref no)]) rfl k) ?_
      show own_Go _ _ _ _ T3 (mkF m 27 #[.val (.int p0), .val (.int p1), .val (.int (0 : Int32)), .val (.int (0 : Int32)), .val (.ref no)] [])
      refine own_st (fun t k => XS.aload X3.here hx rfl (hb hby at_27) rfl rfl k) ?_
      show own_Go _ _ _ _ T3 (mkF m 29 #[.val (.int p0), .val (.int p1), .val (.int (0 : Int32)), .val (.int (0 : Int32)), .val (.ref no)] [(.ref no)])
      refine own_st (fun t k => XS.iloadN X3.here hx rfl (hb hby at_29) rfl k) ?_
      show own_Go _ _ _ _ T3 (mkF m 30 #[.val (.int p0), .val (.int p1), .val (.int (0 : Int32)), .val (.int (0 : Int32)), .val (.ref no)] [(.int (0 : Int32)), (.ref no)])
      refine own_st (fun t k => XS.iloadN X3.here hx rfl (hb hby at_30) rfl k) ?_
      show own_Go _ _ _ _ T3 (mkF m 31 #[.val (.int p0), .val (.int p1), .val (.int (0 : Int32)), .val (.int (0 : Int32)), .val (.ref no)] [(.int (0 : Int32)), (.int (0 : Int32)), (.ref no)])
      obtain ⟨_, _, ⟨T4, L4, k4, n4⟩, -, X4, ⟨Lc4, hQ4, l4, y4, z4⟩, st4⟩ := Jvm.LawKit.callS X3 hx (y := (⟨"java/lang/Math", "max", "(II)I"⟩ : MethodName)) hown (mvT hZ (hw _ (List.mem_of_getElem? (i := 18) rfl))) (mvT hZ (hw _ (List.mem_of_getElem? (i := 19) rfl))) (mvT hZ (hw _ (List.mem_of_getElem? (i := 20) rfl))) (mvT hZ (hw _ (List.mem_of_getElem? (i := 21) rfl))) (by decide) (backOf (W := 1) (rm3 l Z a0 hw [] (0 : Int32) (0 : Int32)  h0 n0 Z0 ) hZ (hw _ (List.mem_of_getElem? (i := 21) rfl)) (hw _ (List.mem_of_getElem? (i := 20) rfl)) (by decide) (by decide)) (g := (mkF m 31 #[.val (.int p0), .val (.int p1), .val (.int (0 : Int32)), .val (.int (0 : Int32)), .val (.ref no)] [(.int (0 : Int32)), (.int (0 : Int32)), (.ref no)])) rfl (by rw [hml]; rfl) (argsL := [(.int (0 : Int32)), (.int (0 : Int32))]) (rest := [(.ref no)]) (lenOf pd__28II_29I rfl) rfl (by show 2 * 0 + _ ≤ _; exact Nat.le_of_eq rfl) (hb hby at_31) (fun _ _ => ⟨rfl, e3, (by decide : 0 + 0 ≤ _), (by decide : 0 + 0 ≤ _)⟩)
      dsimp only [Pt.U, Pt.locs, Pt.cells, Pt.slots] at X4 l4 y4 z4 st4 hQ4
      subst l4 y4 z4
      obtain ⟨rfl, N4q, e4⟩ := hQ4
      rw [show own_max (0 : Int32) (0 : Int32) = (0 : Int32) from by decide +kernel] at st4
      have N4 := Fr.app N3 N4q
      refine own_st st4 ?_
      show own_Go _ _ _ _ T4 (mkF m 34 #[.val (.int p0), .val (.int p1), .val (.int (0 : Int32)), .val (.int (0 : Int32)), .val (.ref no)] [(.int (0 : Int32)), (.ref no)])
      obtain ⟨_, _, ⟨T5, L5, k5, n5⟩, -, X5, ⟨Lc5, hQ5, l5, y5, z5⟩, st5⟩ := Jvm.LawKit.callS X4 hx (y := (⟨"com/example/honest_schema/honestschema/RewriteVerdictAndPinLaw", "pick", "(I)Lcom/example/honest_schema/honestschema/RewriteVerdict;"⟩ : MethodName)) hown (mvT hZ (hw _ (List.mem_of_getElem? (i := 1) rfl))) (mvT hZ (hw _ (List.mem_of_getElem? (i := 2) rfl))) (mvT hZ (hw _ (List.mem_of_getElem? (i := 3) rfl))) (mvT hZ (hw _ (List.mem_of_getElem? (i := 4) rfl))) (by decide) (backOf (W := 1) (rm1 l Z a0 hw [] (0 : Int32) no un re  h0 n0 Z0 S_NO_REWRITE S_UNKNOWN S_REWRITE) hZ (hw _ (List.mem_of_getElem? (i := 4) rfl)) (hw _ (List.mem_of_getElem? (i := 3) rfl)) (by decide) (by decide)) (g := (mkF m 34 #[.val (.int p0), .val (.int p1), .val (.int (0 : Int32)), .val (.int (0 : Int32)), .val (.ref no)] [(.int (0 : Int32)), (.ref no)])) rfl (by rw [hml]; rfl) (argsL := [(.int (0 : Int32))]) (rest := [(.ref no)]) (lenOf pd_205483 rfl) rfl (by show 2 * 0 + _ ≤ _; exact Nat.le_of_eq rfl) (hb hby at_34) (fun _ _ => ⟨rfl, e4, (by decide : 0 + 0 ≤ _), (by decide : 0 + 0 ≤ _)⟩)
      dsimp only [Pt.U, Pt.locs, Pt.cells, Pt.slots] at X5 l5 y5 z5 st5 hQ5
      subst l5 y5 z5
      obtain ⟨rfl, N5q, e5⟩ := hQ5
      rw [show own_pick (0 : Int32) no un re = no from by simp [own_pick]] at st5
      have N5 := Fr.app N4 N5q
      refine own_st st5 ?_
      show own_Go _ _ _ _ T5 (mkF m 37 #[.val (.int p0), .val (.int p1), .val (.int (0 : Int32)), .val (.int (0 : Int32)), .val (.ref no)] [(.ref no), (.ref no)])
      refine own_st (fun t k => Jvm.RoadKit.acmp (g := (mkF m 37 #[.val (.int p0), .val (.int p1), .val (.int (0 : Int32)), .val (.int (0 : Int32)), .val (.ref no)] [(.ref no), (.ref no)])) X5 hx rfl rfl rfl (pc0 := 37) (pc' := 40) (same := true) rfl (hb hby at_37) rfl (decide_eq_true rfl) (by decide) (by decide) k) ?_
      show own_Go _ _ _ _ T5 (mkF m 40 #[.val (.int p0), .val (.int p1), .val (.int (0 : Int32)), .val (.int (0 : Int32)), .val (.ref no)] [])
      refine own_st (fun t k => XS.iconst X5.here hx rfl (hb hby at_40) k) ?_
      show own_Go _ _ _ _ T5 (mkF m 41 #[.val (.int p0), .val (.int p1), .val (.int (0 : Int32)), .val (.int (0 : Int32)), .val (.ref no)] [(.int (1 : Int32))])
      refine own_st (fun t k => XS.goto X5.here hx rfl (pc0 := 41) (pc' := 45) rfl (hb hby at_41) (by decide) (by decide) k) ?_
      show own_Go _ _ _ _ T5 (mkF m 45 #[.val (.int p0), .val (.int p1), .val (.int (0 : Int32)), .val (.int (0 : Int32)), .val (.ref no)] [(.int (1 : Int32))])
      exact own_retN X5 hx hlk (t := .boolean) hrt (by simp) (hb hby at_45) ⟨rfl, N5⟩ (by decide) (by decide)
    ·
      rw [hrb]
      show own_Go _ _ _ _ s₁ (mkF m 14 #[.val (.int p0), .val (.int p1), .val (.int (0 : Int32)), .val (.int (1 : Int32)), .unset] [])
      refine own_st (fun t k => XS.iloadN X0.here hx rfl (hb hby at_14) rfl k) ?_
      show own_Go _ _ _ _ s₁ (mkF m 15 #[.val (.int p0), .val (.int p1), .val (.int (0 : Int32)), .val (.int (1 : Int32)), .unset] [(.int (0 : Int32))])
      obtain ⟨_, _, ⟨T6, L6, k6, n6⟩, -, X6, ⟨Lc6, hQ6, l6, y6, z6⟩, st6⟩ := Jvm.LawKit.callS X0 hx (y := (⟨"com/example/honest_schema/honestschema/RewriteVerdictAndPinLaw", "pick", "(I)Lcom/example/honest_schema/honestschema/RewriteVerdict;"⟩ : MethodName)) hown (mvT hZ (hw _ (List.mem_of_getElem? (i := 1) rfl))) (mvT hZ (hw _ (List.mem_of_getElem? (i := 2) rfl))) (mvT hZ (hw _ (List.mem_of_getElem? (i := 3) rfl))) (mvT hZ (hw _ (List.mem_of_getElem? (i := 4) rfl))) (by decide) (backOf (W := 0) (rm1 l Z a0 hw [] (0 : Int32) no un re  h0 n0 Z0 S_NO_REWRITE S_UNKNOWN S_REWRITE) hZ (hw _ (List.mem_of_getElem? (i := 4) rfl)) (hw _ (List.mem_of_getElem? (i := 3) rfl)) (by decide) (by decide)) (g := (mkF m 15 #[.val (.int p0), .val (.int p1), .val (.int (0 : Int32)), .val (.int (1 : Int32)), .unset] [(.int (0 : Int32))])) rfl (by rw [hml]; rfl) (argsL := [(.int (0 : Int32))]) (rest := []) (lenOf pd_205483 rfl) rfl (by show 2 * 0 + _ ≤ _; exact Nat.le_of_eq rfl) (hb hby at_15) (fun _ _ => ⟨rfl, e0, (by decide : 0 + 0 ≤ _), (by decide : 0 + 0 ≤ _)⟩)
      dsimp only [Pt.U, Pt.locs, Pt.cells, Pt.slots] at X6 l6 y6 z6 st6 hQ6
      subst l6 y6 z6
      obtain ⟨rfl, N6q, e6⟩ := hQ6
      rw [show own_pick (0 : Int32) no un re = no from by simp [own_pick]] at st6
      have N6 := Fr.app N0 N6q
      refine own_st st6 ?_
      show own_Go _ _ _ _ T6 (mkF m 18 #[.val (.int p0), .val (.int p1), .val (.int (0 : Int32)), .val (.int (1 : Int32)), .unset] [(.ref no)])
      refine own_st (fun t k => XS.iloadN X6.here hx rfl (hb hby at_18) rfl k) ?_
      show own_Go _ _ _ _ T6 (mkF m 19 #[.val (.int p0), .val (.int p1), .val (.int (0 : Int32)), .val (.int (1 : Int32)), .unset] [(.int (1 : Int32)), (.ref no)])
      obtain ⟨_, _, ⟨T7, L7, k7, n7⟩, -, X7, ⟨Lc7, hQ7, l7, y7, z7⟩, st7⟩ := Jvm.LawKit.callS X6 hx (y := (⟨"com/example/honest_schema/honestschema/RewriteVerdictAndPinLaw", "pick", "(I)Lcom/example/honest_schema/honestschema/RewriteVerdict;"⟩ : MethodName)) hown (mvT hZ (hw _ (List.mem_of_getElem? (i := 1) rfl))) (mvT hZ (hw _ (List.mem_of_getElem? (i := 2) rfl))) (mvT hZ (hw _ (List.mem_of_getElem? (i := 3) rfl))) (mvT hZ (hw _ (List.mem_of_getElem? (i := 4) rfl))) (by decide) (backOf (W := 1) (rm1 l Z a0 hw [] (1 : Int32) no un re  h0 n0 Z0 S_NO_REWRITE S_UNKNOWN S_REWRITE) hZ (hw _ (List.mem_of_getElem? (i := 4) rfl)) (hw _ (List.mem_of_getElem? (i := 3) rfl)) (by decide) (by decide)) (g := (mkF m 19 #[.val (.int p0), .val (.int p1), .val (.int (0 : Int32)), .val (.int (1 : Int32)), .unset] [(.int (1 : Int32)), (.ref no)])) rfl (by rw [hml]; rfl) (argsL := [(.int (1 : Int32))]) (rest := [(.ref no)]) (lenOf pd_205483 rfl) rfl (by show 2 * 0 + _ ≤ _; exact Nat.le_of_eq rfl) (hb hby at_19) (fun _ _ => ⟨rfl, e6, (by decide : 0 + 0 ≤ _), (by decide : 0 + 0 ≤ _)⟩)
      dsimp only [Pt.U, Pt.locs, Pt.cells, Pt.slots] at X7 l7 y7 z7 st7 hQ7
      subst l7 y7 z7
      obtain ⟨rfl, N7q, e7⟩ := hQ7
      rw [show own_pick (1 : Int32) no un re = un from by simp [own_pick]] at st7
      have N7 := Fr.app N6 N7q
      refine own_st st7 ?_
      show own_Go _ _ _ _ T7 (mkF m 22 #[.val (.int p0), .val (.int p1), .val (.int (0 : Int32)), .val (.int (1 : Int32)), .unset] [(.ref un), (.ref no)])
      obtain ⟨cq8, kq8, q8a, q8b, q8c⟩ := isOf hZ e7 E_no
      obtain ⟨_, _, ⟨T8, L8, k8, n8⟩, -, X8, ⟨Lc8, hQ8, l8, y8, z8⟩, st8⟩ := X7.virtualBack hx (y := (⟨"com/example/honest_schema/honestschema/RewriteVerdict", "and", "(Lcom/example/honest_schema/honestschema/RewriteVerdict;)Lcom/example/honest_schema/honestschema/RewriteVerdict;"⟩ : MethodName)) (z := (⟨"com/example/honest_schema/honestschema/RewriteVerdict", "and", "(Lcom/example/honest_schema/honestschema/RewriteVerdict;)Lcom/example/honest_schema/honestschema/RewriteVerdict;"⟩ : MethodName)) hown (mvT hZ (hw _ (List.mem_of_getElem? (i := 8) rfl))) (mvT hZ (hw _ (List.mem_of_getElem? (i := 9) rfl))) (notFace_of_selects (args := #[]) (mvT hZ (hw _ (List.mem_of_getElem? (i := 11) rfl)))) (mvT hZ (hw _ (List.mem_of_getElem? (i := 11) rfl))) (mvT hZ (hw _ (List.mem_of_getElem? (i := 10) rfl))) (by decide) (backOf (W := 0) (rm2 l Z a0 hw [] no un no un re  h0 n0 Z0 S_NO_REWRITE S_UNKNOWN S_REWRITE) hZ (hw _ (List.mem_of_getElem? (i := 12) rfl)) (hw _ (List.mem_of_getElem? (i := 6) rfl)) (by decide) (by decide)) q8a q8c (g := (mkF m 22 #[.val (.int p0), .val (.int p1), .val (.int (0 : Int32)), .val (.int (1 : Int32)), .unset] [(.ref un), (.ref no)])) rfl (by rw [hml]; rfl) (Steps.refl _) (argsL := [(.ref un)]) (rest := []) (lenOf pd_697779 rfl) rfl (by show 2 * 0 + _ ≤ _; exact Nat.le_of_eq rfl) (hb hby at_22) (fun _ _ => ⟨rfl, e7, (by decide : 0 + 0 ≤ _), (by decide : 0 + 0 ≤ _)⟩)
      dsimp only [Pt.U, Pt.locs, Pt.cells, Pt.slots] at X8 l8 y8 z8 st8 hQ8
      subst l8 y8 z8
      obtain ⟨rfl, N8q, e8⟩ := hQ8
      rw [show own_and no un no un re = un from by simp [own_and, n1, n2, n3, n1.symm, n2.symm, n3.symm]] at st8
      have N8 := Fr.app N7 N8q
      refine own_tr st8 ?_
      show own_Go _ _ _ _ T8 (mkF m 25 #[.val (.int p0), .val (.int p1), .val (.int (0 : Int32)), .val (.int (1 : Int32)), .unset] [(.ref un)])
      refine own_st (fun t k => XS.astore X8.here hx rfl (hb hby at_25) rfl rfl (l' := #[.val (.int p0), .val (.int p1), .val (.int (0 : Int32)), .val (.int (1 : Int32)), .val (.ref un)]) rfl k) ?_
      show own_Go _ _ _ _ T8 (mkF m 27 #[.val (.int p0), .val (.int p1), .val (.int (0 : Int32)), .val (.int (1 : Int32)), .val (.ref un)] [])
      refine own_st (fun t k => XS.aload X8.here hx rfl (hb hby at_27) rfl rfl k) ?_
      show own_Go _ _ _ _ T8 (mkF m 29 #[.val (.int p0), .val (.int p1), .val (.int (0 : Int32)), .val (.int (1 : Int32)), .val (.ref un)] [(.ref un)])
      refine own_st (fun t k => XS.iloadN X8.here hx rfl (hb hby at_29) rfl k) ?_
      show own_Go _ _ _ _ T8 (mkF m 30 #[.val (.int p0), .val (.int p1), .val (.int (0 : Int32)), .val (.int (1 : Int32)), .val (.ref un)] [(.int (0 : Int32)), (.ref un)])
      refine own_st (fun t k => XS.iloadN X8.here hx rfl (hb hby at_30) rfl k) ?_
      show own_Go _ _ _ _ T8 (mkF m 31 #[.val (.int p0), .val (.int p1), .val (.int (0 : Int32)), .val (.int (1 : Int32)), .val (.ref un)] [(.int (1 : Int32)), (.int (0 : Int32)), (.ref un)])
      obtain ⟨_, _, ⟨T9, L9, k9, n9⟩, -, X9, ⟨Lc9, hQ9, l9, y9, z9⟩, st9⟩ := Jvm.LawKit.callS X8 hx (y := (⟨"java/lang/Math", "max", "(II)I"⟩ : MethodName)) hown (mvT hZ (hw _ (List.mem_of_getElem? (i := 18) rfl))) (mvT hZ (hw _ (List.mem_of_getElem? (i := 19) rfl))) (mvT hZ (hw _ (List.mem_of_getElem? (i := 20) rfl))) (mvT hZ (hw _ (List.mem_of_getElem? (i := 21) rfl))) (by decide) (backOf (W := 1) (rm3 l Z a0 hw [] (0 : Int32) (1 : Int32)  h0 n0 Z0 ) hZ (hw _ (List.mem_of_getElem? (i := 21) rfl)) (hw _ (List.mem_of_getElem? (i := 20) rfl)) (by decide) (by decide)) (g := (mkF m 31 #[.val (.int p0), .val (.int p1), .val (.int (0 : Int32)), .val (.int (1 : Int32)), .val (.ref un)] [(.int (1 : Int32)), (.int (0 : Int32)), (.ref un)])) rfl (by rw [hml]; rfl) (argsL := [(.int (0 : Int32)), (.int (1 : Int32))]) (rest := [(.ref un)]) (lenOf pd__28II_29I rfl) rfl (by show 2 * 0 + _ ≤ _; exact Nat.le_of_eq rfl) (hb hby at_31) (fun _ _ => ⟨rfl, e8, (by decide : 0 + 0 ≤ _), (by decide : 0 + 0 ≤ _)⟩)
      dsimp only [Pt.U, Pt.locs, Pt.cells, Pt.slots] at X9 l9 y9 z9 st9 hQ9
      subst l9 y9 z9
      obtain ⟨rfl, N9q, e9⟩ := hQ9
      rw [show own_max (0 : Int32) (1 : Int32) = (1 : Int32) from by decide +kernel] at st9
      have N9 := Fr.app N8 N9q
      refine own_st st9 ?_
      show own_Go _ _ _ _ T9 (mkF m 34 #[.val (.int p0), .val (.int p1), .val (.int (0 : Int32)), .val (.int (1 : Int32)), .val (.ref un)] [(.int (1 : Int32)), (.ref un)])
      obtain ⟨_, _, ⟨T10, L10, k10, n10⟩, -, X10, ⟨Lc10, hQ10, l10, y10, z10⟩, st10⟩ := Jvm.LawKit.callS X9 hx (y := (⟨"com/example/honest_schema/honestschema/RewriteVerdictAndPinLaw", "pick", "(I)Lcom/example/honest_schema/honestschema/RewriteVerdict;"⟩ : MethodName)) hown (mvT hZ (hw _ (List.mem_of_getElem? (i := 1) rfl))) (mvT hZ (hw _ (List.mem_of_getElem? (i := 2) rfl))) (mvT hZ (hw _ (List.mem_of_getElem? (i := 3) rfl))) (mvT hZ (hw _ (List.mem_of_getElem? (i := 4) rfl))) (by decide) (backOf (W := 1) (rm1 l Z a0 hw [] (1 : Int32) no un re  h0 n0 Z0 S_NO_REWRITE S_UNKNOWN S_REWRITE) hZ (hw _ (List.mem_of_getElem? (i := 4) rfl)) (hw _ (List.mem_of_getElem? (i := 3) rfl)) (by decide) (by decide)) (g := (mkF m 34 #[.val (.int p0), .val (.int p1), .val (.int (0 : Int32)), .val (.int (1 : Int32)), .val (.ref un)] [(.int (1 : Int32)), (.ref un)])) rfl (by rw [hml]; rfl) (argsL := [(.int (1 : Int32))]) (rest := [(.ref un)]) (lenOf pd_205483 rfl) rfl (by show 2 * 0 + _ ≤ _; exact Nat.le_of_eq rfl) (hb hby at_34) (fun _ _ => ⟨rfl, e9, (by decide : 0 + 0 ≤ _), (by decide : 0 + 0 ≤ _)⟩)
      dsimp only [Pt.U, Pt.locs, Pt.cells, Pt.slots] at X10 l10 y10 z10 st10 hQ10
      subst l10 y10 z10
      obtain ⟨rfl, N10q, e10⟩ := hQ10
      rw [show own_pick (1 : Int32) no un re = un from by simp [own_pick]] at st10
      have N10 := Fr.app N9 N10q
      refine own_st st10 ?_
      show own_Go _ _ _ _ T10 (mkF m 37 #[.val (.int p0), .val (.int p1), .val (.int (0 : Int32)), .val (.int (1 : Int32)), .val (.ref un)] [(.ref un), (.ref un)])
      refine own_st (fun t k => Jvm.RoadKit.acmp (g := (mkF m 37 #[.val (.int p0), .val (.int p1), .val (.int (0 : Int32)), .val (.int (1 : Int32)), .val (.ref un)] [(.ref un), (.ref un)])) X10 hx rfl rfl rfl (pc0 := 37) (pc' := 40) (same := true) rfl (hb hby at_37) rfl (decide_eq_true rfl) (by decide) (by decide) k) ?_
      show own_Go _ _ _ _ T10 (mkF m 40 #[.val (.int p0), .val (.int p1), .val (.int (0 : Int32)), .val (.int (1 : Int32)), .val (.ref un)] [])
      refine own_st (fun t k => XS.iconst X10.here hx rfl (hb hby at_40) k) ?_
      show own_Go _ _ _ _ T10 (mkF m 41 #[.val (.int p0), .val (.int p1), .val (.int (0 : Int32)), .val (.int (1 : Int32)), .val (.ref un)] [(.int (1 : Int32))])
      refine own_st (fun t k => XS.goto X10.here hx rfl (pc0 := 41) (pc' := 45) rfl (hb hby at_41) (by decide) (by decide) k) ?_
      show own_Go _ _ _ _ T10 (mkF m 45 #[.val (.int p0), .val (.int p1), .val (.int (0 : Int32)), .val (.int (1 : Int32)), .val (.ref un)] [(.int (1 : Int32))])
      exact own_retN X10 hx hlk (t := .boolean) hrt (by simp) (hb hby at_45) ⟨rfl, N10⟩ (by decide) (by decide)
    ·
      rw [hrb]
      show own_Go _ _ _ _ s₁ (mkF m 14 #[.val (.int p0), .val (.int p1), .val (.int (0 : Int32)), .val (.int (2 : Int32)), .unset] [])
      refine own_st (fun t k => XS.iloadN X0.here hx rfl (hb hby at_14) rfl k) ?_
      show own_Go _ _ _ _ s₁ (mkF m 15 #[.val (.int p0), .val (.int p1), .val (.int (0 : Int32)), .val (.int (2 : Int32)), .unset] [(.int (0 : Int32))])
      obtain ⟨_, _, ⟨T11, L11, k11, n11⟩, -, X11, ⟨Lc11, hQ11, l11, y11, z11⟩, st11⟩ := Jvm.LawKit.callS X0 hx (y := (⟨"com/example/honest_schema/honestschema/RewriteVerdictAndPinLaw", "pick", "(I)Lcom/example/honest_schema/honestschema/RewriteVerdict;"⟩ : MethodName)) hown (mvT hZ (hw _ (List.mem_of_getElem? (i := 1) rfl))) (mvT hZ (hw _ (List.mem_of_getElem? (i := 2) rfl))) (mvT hZ (hw _ (List.mem_of_getElem? (i := 3) rfl))) (mvT hZ (hw _ (List.mem_of_getElem? (i := 4) rfl))) (by decide) (backOf (W := 0) (rm1 l Z a0 hw [] (0 : Int32) no un re  h0 n0 Z0 S_NO_REWRITE S_UNKNOWN S_REWRITE) hZ (hw _ (List.mem_of_getElem? (i := 4) rfl)) (hw _ (List.mem_of_getElem? (i := 3) rfl)) (by decide) (by decide)) (g := (mkF m 15 #[.val (.int p0), .val (.int p1), .val (.int (0 : Int32)), .val (.int (2 : Int32)), .unset] [(.int (0 : Int32))])) rfl (by rw [hml]; rfl) (argsL := [(.int (0 : Int32))]) (rest := []) (lenOf pd_205483 rfl) rfl (by show 2 * 0 + _ ≤ _; exact Nat.le_of_eq rfl) (hb hby at_15) (fun _ _ => ⟨rfl, e0, (by decide : 0 + 0 ≤ _), (by decide : 0 + 0 ≤ _)⟩)
      dsimp only [Pt.U, Pt.locs, Pt.cells, Pt.slots] at X11 l11 y11 z11 st11 hQ11
      subst l11 y11 z11
      obtain ⟨rfl, N11q, e11⟩ := hQ11
      rw [show own_pick (0 : Int32) no un re = no from by simp [own_pick]] at st11
      have N11 := Fr.app N0 N11q
      refine own_st st11 ?_
      show own_Go _ _ _ _ T11 (mkF m 18 #[.val (.int p0), .val (.int p1), .val (.int (0 : Int32)), .val (.int (2 : Int32)), .unset] [(.ref no)])
      refine own_st (fun t k => XS.iloadN X11.here hx rfl (hb hby at_18) rfl k) ?_
      show own_Go _ _ _ _ T11 (mkF m 19 #[.val (.int p0), .val (.int p1), .val (.int (0 : Int32)), .val (.int (2 : Int32)), .unset] [(.int (2 : Int32)), (.ref no)])
      obtain ⟨_, _, ⟨T12, L12, k12, n12⟩, -, X12, ⟨Lc12, hQ12, l12, y12, z12⟩, st12⟩ := Jvm.LawKit.callS X11 hx (y := (⟨"com/example/honest_schema/honestschema/RewriteVerdictAndPinLaw", "pick", "(I)Lcom/example/honest_schema/honestschema/RewriteVerdict;"⟩ : MethodName)) hown (mvT hZ (hw _ (List.mem_of_getElem? (i := 1) rfl))) (mvT hZ (hw _ (List.mem_of_getElem? (i := 2) rfl))) (mvT hZ (hw _ (List.mem_of_getElem? (i := 3) rfl))) (mvT hZ (hw _ (List.mem_of_getElem? (i := 4) rfl))) (by decide) (backOf (W := 1) (rm1 l Z a0 hw [] (2 : Int32) no un re  h0 n0 Z0 S_NO_REWRITE S_UNKNOWN S_REWRITE) hZ (hw _ (List.mem_of_getElem? (i := 4) rfl)) (hw _ (List.mem_of_getElem? (i := 3) rfl)) (by decide) (by decide)) (g := (mkF m 19 #[.val (.int p0), .val (.int p1), .val (.int (0 : Int32)), .val (.int (2 : Int32)), .unset] [(.int (2 : Int32)), (.ref no)])) rfl (by rw [hml]; rfl) (argsL := [(.int (2 : Int32))]) (rest := [(.ref no)]) (lenOf pd_205483 rfl) rfl (by show 2 * 0 + _ ≤ _; exact Nat.le_of_eq rfl) (hb hby at_19) (fun _ _ => ⟨rfl, e11, (by decide : 0 + 0 ≤ _), (by decide : 0 + 0 ≤ _)⟩)
      dsimp only [Pt.U, Pt.locs, Pt.cells, Pt.slots] at X12 l12 y12 z12 st12 hQ12
      subst l12 y12 z12
      obtain ⟨rfl, N12q, e12⟩ := hQ12
      rw [show own_pick (2 : Int32) no un re = re from by simp [own_pick]] at st12
      have N12 := Fr.app N11 N12q
      refine own_st st12 ?_
      show own_Go _ _ _ _ T12 (mkF m 22 #[.val (.int p0), .val (.int p1), .val (.int (0 : Int32)), .val (.int (2 : Int32)), .unset] [(.ref re), (.ref no)])
      obtain ⟨cq13, kq13, q13a, q13b, q13c⟩ := isOf hZ e12 E_no
      obtain ⟨_, _, ⟨T13, L13, k13, n13⟩, -, X13, ⟨Lc13, hQ13, l13, y13, z13⟩, st13⟩ := X12.virtualBack hx (y := (⟨"com/example/honest_schema/honestschema/RewriteVerdict", "and", "(Lcom/example/honest_schema/honestschema/RewriteVerdict;)Lcom/example/honest_schema/honestschema/RewriteVerdict;"⟩ : MethodName)) (z := (⟨"com/example/honest_schema/honestschema/RewriteVerdict", "and", "(Lcom/example/honest_schema/honestschema/RewriteVerdict;)Lcom/example/honest_schema/honestschema/RewriteVerdict;"⟩ : MethodName)) hown (mvT hZ (hw _ (List.mem_of_getElem? (i := 8) rfl))) (mvT hZ (hw _ (List.mem_of_getElem? (i := 9) rfl))) (notFace_of_selects (args := #[]) (mvT hZ (hw _ (List.mem_of_getElem? (i := 11) rfl)))) (mvT hZ (hw _ (List.mem_of_getElem? (i := 11) rfl))) (mvT hZ (hw _ (List.mem_of_getElem? (i := 10) rfl))) (by decide) (backOf (W := 0) (rm2 l Z a0 hw [] no re no un re  h0 n0 Z0 S_NO_REWRITE S_UNKNOWN S_REWRITE) hZ (hw _ (List.mem_of_getElem? (i := 12) rfl)) (hw _ (List.mem_of_getElem? (i := 6) rfl)) (by decide) (by decide)) q13a q13c (g := (mkF m 22 #[.val (.int p0), .val (.int p1), .val (.int (0 : Int32)), .val (.int (2 : Int32)), .unset] [(.ref re), (.ref no)])) rfl (by rw [hml]; rfl) (Steps.refl _) (argsL := [(.ref re)]) (rest := []) (lenOf pd_697779 rfl) rfl (by show 2 * 0 + _ ≤ _; exact Nat.le_of_eq rfl) (hb hby at_22) (fun _ _ => ⟨rfl, e12, (by decide : 0 + 0 ≤ _), (by decide : 0 + 0 ≤ _)⟩)
      dsimp only [Pt.U, Pt.locs, Pt.cells, Pt.slots] at X13 l13 y13 z13 st13 hQ13
      subst l13 y13 z13
      obtain ⟨rfl, N13q, e13⟩ := hQ13
      rw [show own_and no re no un re = re from by simp [own_and, n1, n2, n3, n1.symm, n2.symm, n3.symm]] at st13
      have N13 := Fr.app N12 N13q
      refine own_tr st13 ?_
      show own_Go _ _ _ _ T13 (mkF m 25 #[.val (.int p0), .val (.int p1), .val (.int (0 : Int32)), .val (.int (2 : Int32)), .unset] [(.ref re)])
      refine own_st (fun t k => XS.astore X13.here hx rfl (hb hby at_25) rfl rfl (l' := #[.val (.int p0), .val (.int p1), .val (.int (0 : Int32)), .val (.int (2 : Int32)), .val (.ref re)]) rfl k) ?_
      show own_Go _ _ _ _ T13 (mkF m 27 #[.val (.int p0), .val (.int p1), .val (.int (0 : Int32)), .val (.int (2 : Int32)), .val (.ref re)] [])
      refine own_st (fun t k => XS.aload X13.here hx rfl (hb hby at_27) rfl rfl k) ?_
      show own_Go _ _ _ _ T13 (mkF m 29 #[.val (.int p0), .val (.int p1), .val (.int (0 : Int32)), .val (.int (2 : Int32)), .val (.ref re)] [(.ref re)])
      refine own_st (fun t k => XS.iloadN X13.here hx rfl (hb hby at_29) rfl k) ?_
      show own_Go _ _ _ _ T13 (mkF m 30 #[.val (.int p0), .val (.int p1), .val (.int (0 : Int32)), .val (.int (2 : Int32)), .val (.ref re)] [(.int (0 : Int32)), (.ref re)])
      refine own_st (fun t k => XS.iloadN X13.here hx rfl (hb hby at_30) rfl k) ?_
      show own_Go _ _ _ _ T13 (mkF m 31 #[.val (.int p0), .val (.int p1), .val (.int (0 : Int32)), .val (.int (2 : Int32)), .val (.ref re)] [(.int (2 : Int32)), (.int (0 : Int32)), (.ref re)])
      obtain ⟨_, _, ⟨T14, L14, k14, n14⟩, -, X14, ⟨Lc14, hQ14, l14, y14, z14⟩, st14⟩ := Jvm.LawKit.callS X13 hx (y := (⟨"java/lang/Math", "max", "(II)I"⟩ : MethodName)) hown (mvT hZ (hw _ (List.mem_of_getElem? (i := 18) rfl))) (mvT hZ (hw _ (List.mem_of_getElem? (i := 19) rfl))) (mvT hZ (hw _ (List.mem_of_getElem? (i := 20) rfl))) (mvT hZ (hw _ (List.mem_of_getElem? (i := 21) rfl))) (by decide) (backOf (W := 1) (rm3 l Z a0 hw [] (0 : Int32) (2 : Int32)  h0 n0 Z0 ) hZ (hw _ (List.mem_of_getElem? (i := 21) rfl)) (hw _ (List.mem_of_getElem? (i := 20) rfl)) (by decide) (by decide)) (g := (mkF m 31 #[.val (.int p0), .val (.int p1), .val (.int (0 : Int32)), .val (.int (2 : Int32)), .val (.ref re)] [(.int (2 : Int32)), (.int (0 : Int32)), (.ref re)])) rfl (by rw [hml]; rfl) (argsL := [(.int (0 : Int32)), (.int (2 : Int32))]) (rest := [(.ref re)]) (lenOf pd__28II_29I rfl) rfl (by show 2 * 0 + _ ≤ _; exact Nat.le_of_eq rfl) (hb hby at_31) (fun _ _ => ⟨rfl, e13, (by decide : 0 + 0 ≤ _), (by decide : 0 + 0 ≤ _)⟩)
      dsimp only [Pt.U, Pt.locs, Pt.cells, Pt.slots] at X14 l14 y14 z14 st14 hQ14
      subst l14 y14 z14
      obtain ⟨rfl, N14q, e14⟩ := hQ14
      rw [show own_max (0 : Int32) (2 : Int32) = (2 : Int32) from by decide +kernel] at st14
      have N14 := Fr.app N13 N14q
      refine own_st st14 ?_
      show own_Go _ _ _ _ T14 (mkF m 34 #[.val (.int p0), .val (.int p1), .val (.int (0 : Int32)), .val (.int (2 : Int32)), .val (.ref re)] [(.int (2 : Int32)), (.ref re)])
      obtain ⟨_, _, ⟨T15, L15, k15, n15⟩, -, X15, ⟨Lc15, hQ15, l15, y15, z15⟩, st15⟩ := Jvm.LawKit.callS X14 hx (y := (⟨"com/example/honest_schema/honestschema/RewriteVerdictAndPinLaw", "pick", "(I)Lcom/example/honest_schema/honestschema/RewriteVerdict;"⟩ : MethodName)) hown (mvT hZ (hw _ (List.mem_of_getElem? (i := 1) rfl))) (mvT hZ (hw _ (List.mem_of_getElem? (i := 2) rfl))) (mvT hZ (hw _ (List.mem_of_getElem? (i := 3) rfl))) (mvT hZ (hw _ (List.mem_of_getElem? (i := 4) rfl))) (by decide) (backOf (W := 1) (rm1 l Z a0 hw [] (2 : Int32) no un re  h0 n0 Z0 S_NO_REWRITE S_UNKNOWN S_REWRITE) hZ (hw _ (List.mem_of_getElem? (i := 4) rfl)) (hw _ (List.mem_of_getElem? (i := 3) rfl)) (by decide) (by decide)) (g := (mkF m 34 #[.val (.int p0), .val (.int p1), .val (.int (0 : Int32)), .val (.int (2 : Int32)), .val (.ref re)] [(.int (2 : Int32)), (.ref re)])) rfl (by rw [hml]; rfl) (argsL := [(.int (2 : Int32))]) (rest := [(.ref re)]) (lenOf pd_205483 rfl) rfl (by show 2 * 0 + _ ≤ _; exact Nat.le_of_eq rfl) (hb hby at_34) (fun _ _ => ⟨rfl, e14, (by decide : 0 + 0 ≤ _), (by decide : 0 + 0 ≤ _)⟩)
      dsimp only [Pt.U, Pt.locs, Pt.cells, Pt.slots] at X15 l15 y15 z15 st15 hQ15
      subst l15 y15 z15
      obtain ⟨rfl, N15q, e15⟩ := hQ15
      rw [show own_pick (2 : Int32) no un re = re from by simp [own_pick]] at st15
      have N15 := Fr.app N14 N15q
      refine own_st st15 ?_
      show own_Go _ _ _ _ T15 (mkF m 37 #[.val (.int p0), .val (.int p1), .val (.int (0 : Int32)), .val (.int (2 : Int32)), .val (.ref re)] [(.ref re), (.ref re)])
      refine own_st (fun t k => Jvm.RoadKit.acmp (g := (mkF m 37 #[.val (.int p0), .val (.int p1), .val (.int (0 : Int32)), .val (.int (2 : Int32)), .val (.ref re)] [(.ref re), (.ref re)])) X15 hx rfl rfl rfl (pc0 := 37) (pc' := 40) (same := true) rfl (hb hby at_37) rfl (decide_eq_true rfl) (by decide) (by decide) k) ?_
      show own_Go _ _ _ _ T15 (mkF m 40 #[.val (.int p0), .val (.int p1), .val (.int (0 : Int32)), .val (.int (2 : Int32)), .val (.ref re)] [])
      refine own_st (fun t k => XS.iconst X15.here hx rfl (hb hby at_40) k) ?_
      show own_Go _ _ _ _ T15 (mkF m 41 #[.val (.int p0), .val (.int p1), .val (.int (0 : Int32)), .val (.int (2 : Int32)), .val (.ref re)] [(.int (1 : Int32))])
      refine own_st (fun t k => XS.goto X15.here hx rfl (pc0 := 41) (pc' := 45) rfl (hb hby at_41) (by decide) (by decide) k) ?_
      show own_Go _ _ _ _ T15 (mkF m 45 #[.val (.int p0), .val (.int p1), .val (.int (0 : Int32)), .val (.int (2 : Int32)), .val (.ref re)] [(.int (1 : Int32))])
      exact own_retN X15 hx hlk (t := .boolean) hrt (by simp) (hb hby at_45) ⟨rfl, N15⟩ (by decide) (by decide)
  ·
    rw [hra]
    show own_Go _ _ _ _ s₁ (mkF m 7 #[.val (.int p0), .val (.int p1), .val (.int (1 : Int32)), .unset, .unset] [])
    refine own_st (fun t k => XS.iloadN X0.here hx rfl (hb hby at_7) rfl k) ?_
    show own_Go _ _ _ _ s₁ (mkF m 8 #[.val (.int p0), .val (.int p1), .val (.int (1 : Int32)), .unset, .unset] [(.int p1)])
    refine own_st (X0.ldcInt hx hown (mvT hZ (hw _ (List.mem_of_getElem? (i := 0) rfl))) (g := (mkF m 8 #[.val (.int p0), .val (.int p1), .val (.int (1 : Int32)), .unset, .unset] [(.int p1)])) rfl (hb hby at_8)) ?_
    show own_Go _ _ _ _ s₁ (mkF m 10 #[.val (.int p0), .val (.int p1), .val (.int (1 : Int32)), .unset, .unset] [(.int (2147483647 : Int32)), (.int p1)])
    refine own_st (fun t k => XS.iand X0.here hx rfl (hb hby at_10) rfl k) ?_
    show own_Go _ _ _ _ s₁ (mkF m 11 #[.val (.int p0), .val (.int p1), .val (.int (1 : Int32)), .unset, .unset] [(.int (p1 &&& (2147483647 : Int32)))])
    refine own_st (fun t k => XS.iconst X0.here hx rfl (hb hby at_11) k) ?_
    show own_Go _ _ _ _ s₁ (mkF m 12 #[.val (.int p0), .val (.int p1), .val (.int (1 : Int32)), .unset, .unset] [(.int (3 : Int32)), (.int (p1 &&& (2147483647 : Int32)))])
    refine own_st (fun t k => iremM X0 hx rfl (hb hby at_12) rfl (by decide) k) ?_
    show own_Go _ _ _ _ s₁ (mkF m 13 #[.val (.int p0), .val (.int p1), .val (.int (1 : Int32)), .unset, .unset] [(.int ((p1 &&& (2147483647 : Int32)) % (3 : Int32)))])
    refine own_st (fun t k => XS.istoreN X0.here hx rfl (hb hby at_13) rfl (l' := #[.val (.int p0), .val (.int p1), .val (.int (1 : Int32)), .val (.int ((p1 &&& (2147483647 : Int32)) % (3 : Int32))), .unset]) rfl k) ?_
    show own_Go _ _ _ _ s₁ (mkF m 14 #[.val (.int p0), .val (.int p1), .val (.int (1 : Int32)), .val (.int ((p1 &&& (2147483647 : Int32)) % (3 : Int32))), .unset] [])
    rcases own_r3 p1 with hrb | hrb | hrb
    ·
      rw [hrb]
      show own_Go _ _ _ _ s₁ (mkF m 14 #[.val (.int p0), .val (.int p1), .val (.int (1 : Int32)), .val (.int (0 : Int32)), .unset] [])
      refine own_st (fun t k => XS.iloadN X0.here hx rfl (hb hby at_14) rfl k) ?_
      show own_Go _ _ _ _ s₁ (mkF m 15 #[.val (.int p0), .val (.int p1), .val (.int (1 : Int32)), .val (.int (0 : Int32)), .unset] [(.int (1 : Int32))])
      obtain ⟨_, _, ⟨T16, L16, k16, n16⟩, -, X16, ⟨Lc16, hQ16, l16, y16, z16⟩, st16⟩ := Jvm.LawKit.callS X0 hx (y := (⟨"com/example/honest_schema/honestschema/RewriteVerdictAndPinLaw", "pick", "(I)Lcom/example/honest_schema/honestschema/RewriteVerdict;"⟩ : MethodName)) hown (mvT hZ (hw _ (List.mem_of_getElem? (i := 1) rfl))) (mvT hZ (hw _ (List.mem_of_getElem? (i := 2) rfl))) (mvT hZ (hw _ (List.mem_of_getElem? (i := 3) rfl))) (mvT hZ (hw _ (List.mem_of_getElem? (i := 4) rfl))) (by decide) (backOf (W := 0) (rm1 l Z a0 hw [] (1 : Int32) no un re  h0 n0 Z0 S_NO_REWRITE S_UNKNOWN S_REWRITE) hZ (hw _ (List.mem_of_getElem? (i := 4) rfl)) (hw _ (List.mem_of_getElem? (i := 3) rfl)) (by decide) (by decide)) (g := (mkF m 15 #[.val (.int p0), .val (.int p1), .val (.int (1 : Int32)), .val (.int (0 : Int32)), .unset] [(.int (1 : Int32))])) rfl (by rw [hml]; rfl) (argsL := [(.int (1 : Int32))]) (rest := []) (lenOf pd_205483 rfl) rfl (by show 2 * 0 + _ ≤ _; exact Nat.le_of_eq rfl) (hb hby at_15) (fun _ _ => ⟨rfl, e0, (by decide : 0 + 0 ≤ _), (by decide : 0 + 0 ≤ _)⟩)
      dsimp only [Pt.U, Pt.locs, Pt.cells, Pt.slots] at X16 l16 y16 z16 st16 hQ16
      subst l16 y16 z16
      obtain ⟨rfl, N16q, e16⟩ := hQ16
      rw [show own_pick (1 : Int32) no un re = un from by simp [own_pick]] at st16
      have N16 := Fr.app N0 N16q
      refine own_st st16 ?_
      show own_Go _ _ _ _ T16 (mkF m 18 #[.val (.int p0), .val (.int p1), .val (.int (1 : Int32)), .val (.int (0 : Int32)), .unset] [(.ref un)])
      refine own_st (fun t k => XS.iloadN X16.here hx rfl (hb hby at_18) rfl k) ?_
      show own_Go _ _ _ _ T16 (mkF m 19 #[.val (.int p0), .val (.int p1), .val (.int (1 : Int32)), .val (.int (0 : Int32)), .unset] [(.int (0 : Int32)), (.ref un)])
      obtain ⟨_, _, ⟨T17, L17, k17, n17⟩, -, X17, ⟨Lc17, hQ17, l17, y17, z17⟩, st17⟩ := Jvm.LawKit.callS X16 hx (y := (⟨"com/example/honest_schema/honestschema/RewriteVerdictAndPinLaw", "pick", "(I)Lcom/example/honest_schema/honestschema/RewriteVerdict;"⟩ : MethodName)) hown (mvT hZ (hw _ (List.mem_of_getElem? (i := 1) rfl))) (mvT hZ (hw _ (List.mem_of_getElem? (i := 2) rfl))) (mvT hZ (hw _ (List.mem_of_getElem? (i := 3) rfl))) (mvT hZ (hw _ (List.mem_of_getElem? (i := 4) rfl))) (by decide) (backOf (W := 1) (rm1 l Z a0 hw [] (0 : Int32) no un re  h0 n0 Z0 S_NO_REWRITE S_UNKNOWN S_REWRITE) hZ (hw _ (List.mem_of_getElem? (i := 4) rfl)) (hw _ (List.mem_of_getElem? (i := 3) rfl)) (by decide) (by decide)) (g := (mkF m 19 #[.val (.int p0), .val (.int p1), .val (.int (1 : Int32)), .val (.int (0 : Int32)), .unset] [(.int (0 : Int32)), (.ref un)])) rfl (by rw [hml]; rfl) (argsL := [(.int (0 : Int32))]) (rest := [(.ref un)]) (lenOf pd_205483 rfl) rfl (by show 2 * 0 + _ ≤ _; exact Nat.le_of_eq rfl) (hb hby at_19) (fun _ _ => ⟨rfl, e16, (by decide : 0 + 0 ≤ _), (by decide : 0 + 0 ≤ _)⟩)
      dsimp only [Pt.U, Pt.locs, Pt.cells, Pt.slots] at X17 l17 y17 z17 st17 hQ17
      subst l17 y17 z17
      obtain ⟨rfl, N17q, e17⟩ := hQ17
      rw [show own_pick (0 : Int32) no un re = no from by simp [own_pick]] at st17
      have N17 := Fr.app N16 N17q
      refine own_st st17 ?_
      show own_Go _ _ _ _ T17 (mkF m 22 #[.val (.int p0), .val (.int p1), .val (.int (1 : Int32)), .val (.int (0 : Int32)), .unset] [(.ref no), (.ref un)])
      obtain ⟨cq18, kq18, q18a, q18b, q18c⟩ := isOf hZ e17 E_un
      obtain ⟨_, _, ⟨T18, L18, k18, n18⟩, -, X18, ⟨Lc18, hQ18, l18, y18, z18⟩, st18⟩ := X17.virtualBack hx (y := (⟨"com/example/honest_schema/honestschema/RewriteVerdict", "and", "(Lcom/example/honest_schema/honestschema/RewriteVerdict;)Lcom/example/honest_schema/honestschema/RewriteVerdict;"⟩ : MethodName)) (z := (⟨"com/example/honest_schema/honestschema/RewriteVerdict", "and", "(Lcom/example/honest_schema/honestschema/RewriteVerdict;)Lcom/example/honest_schema/honestschema/RewriteVerdict;"⟩ : MethodName)) hown (mvT hZ (hw _ (List.mem_of_getElem? (i := 8) rfl))) (mvT hZ (hw _ (List.mem_of_getElem? (i := 9) rfl))) (notFace_of_selects (args := #[]) (mvT hZ (hw _ (List.mem_of_getElem? (i := 11) rfl)))) (mvT hZ (hw _ (List.mem_of_getElem? (i := 11) rfl))) (mvT hZ (hw _ (List.mem_of_getElem? (i := 10) rfl))) (by decide) (backOf (W := 0) (rm2 l Z a0 hw [] un no no un re  h0 n0 Z0 S_NO_REWRITE S_UNKNOWN S_REWRITE) hZ (hw _ (List.mem_of_getElem? (i := 12) rfl)) (hw _ (List.mem_of_getElem? (i := 6) rfl)) (by decide) (by decide)) q18a q18c (g := (mkF m 22 #[.val (.int p0), .val (.int p1), .val (.int (1 : Int32)), .val (.int (0 : Int32)), .unset] [(.ref no), (.ref un)])) rfl (by rw [hml]; rfl) (Steps.refl _) (argsL := [(.ref no)]) (rest := []) (lenOf pd_697779 rfl) rfl (by show 2 * 0 + _ ≤ _; exact Nat.le_of_eq rfl) (hb hby at_22) (fun _ _ => ⟨rfl, e17, (by decide : 0 + 0 ≤ _), (by decide : 0 + 0 ≤ _)⟩)
      dsimp only [Pt.U, Pt.locs, Pt.cells, Pt.slots] at X18 l18 y18 z18 st18 hQ18
      subst l18 y18 z18
      obtain ⟨rfl, N18q, e18⟩ := hQ18
      rw [show own_and un no no un re = un from by simp [own_and, n1, n2, n3, n1.symm, n2.symm, n3.symm]] at st18
      have N18 := Fr.app N17 N18q
      refine own_tr st18 ?_
      show own_Go _ _ _ _ T18 (mkF m 25 #[.val (.int p0), .val (.int p1), .val (.int (1 : Int32)), .val (.int (0 : Int32)), .unset] [(.ref un)])
      refine own_st (fun t k => XS.astore X18.here hx rfl (hb hby at_25) rfl rfl (l' := #[.val (.int p0), .val (.int p1), .val (.int (1 : Int32)), .val (.int (0 : Int32)), .val (.ref un)]) rfl k) ?_
      show own_Go _ _ _ _ T18 (mkF m 27 #[.val (.int p0), .val (.int p1), .val (.int (1 : Int32)), .val (.int (0 : Int32)), .val (.ref un)] [])
      refine own_st (fun t k => XS.aload X18.here hx rfl (hb hby at_27) rfl rfl k) ?_
      show own_Go _ _ _ _ T18 (mkF m 29 #[.val (.int p0), .val (.int p1), .val (.int (1 : Int32)), .val (.int (0 : Int32)), .val (.ref un)] [(.ref un)])
      refine own_st (fun t k => XS.iloadN X18.here hx rfl (hb hby at_29) rfl k) ?_
      show own_Go _ _ _ _ T18 (mkF m 30 #[.val (.int p0), .val (.int p1), .val (.int (1 : Int32)), .val (.int (0 : Int32)), .val (.ref un)] [(.int (1 : Int32)), (.ref un)])
      refine own_st (fun t k => XS.iloadN X18.here hx rfl (hb hby at_30) rfl k) ?_
      show own_Go _ _ _ _ T18 (mkF m 31 #[.val (.int p0), .val (.int p1), .val (.int (1 : Int32)), .val (.int (0 : Int32)), .val (.ref un)] [(.int (0 : Int32)), (.int (1 : Int32)), (.ref un)])
      obtain ⟨_, _, ⟨T19, L19, k19, n19⟩, -, X19, ⟨Lc19, hQ19, l19, y19, z19⟩, st19⟩ := Jvm.LawKit.callS X18 hx (y := (⟨"java/lang/Math", "max", "(II)I"⟩ : MethodName)) hown (mvT hZ (hw _ (List.mem_of_getElem? (i := 18) rfl))) (mvT hZ (hw _ (List.mem_of_getElem? (i := 19) rfl))) (mvT hZ (hw _ (List.mem_of_getElem? (i := 20) rfl))) (mvT hZ (hw _ (List.mem_of_getElem? (i := 21) rfl))) (by decide) (backOf (W := 1) (rm3 l Z a0 hw [] (1 : Int32) (0 : Int32)  h0 n0 Z0 ) hZ (hw _ (List.mem_of_getElem? (i := 21) rfl)) (hw _ (List.mem_of_getElem? (i := 20) rfl)) (by decide) (by decide)) (g := (mkF m 31 #[.val (.int p0), .val (.int p1), .val (.int (1 : Int32)), .val (.int (0 : Int32)), .val (.ref un)] [(.int (0 : Int32)), (.int (1 : Int32)), (.ref un)])) rfl (by rw [hml]; rfl) (argsL := [(.int (1 : Int32)), (.int (0 : Int32))]) (rest := [(.ref un)]) (lenOf pd__28II_29I rfl) rfl (by show 2 * 0 + _ ≤ _; exact Nat.le_of_eq rfl) (hb hby at_31) (fun _ _ => ⟨rfl, e18, (by decide : 0 + 0 ≤ _), (by decide : 0 + 0 ≤ _)⟩)
      dsimp only [Pt.U, Pt.locs, Pt.cells, Pt.slots] at X19 l19 y19 z19 st19 hQ19
      subst l19 y19 z19
      obtain ⟨rfl, N19q, e19⟩ := hQ19
      rw [show own_max (1 : Int32) (0 : Int32) = (1 : Int32) from by decide +kernel] at st19
      have N19 := Fr.app N18 N19q
      refine own_st st19 ?_
      show own_Go _ _ _ _ T19 (mkF m 34 #[.val (.int p0), .val (.int p1), .val (.int (1 : Int32)), .val (.int (0 : Int32)), .val (.ref un)] [(.int (1 : Int32)), (.ref un)])
      obtain ⟨_, _, ⟨T20, L20, k20, n20⟩, -, X20, ⟨Lc20, hQ20, l20, y20, z20⟩, st20⟩ := Jvm.LawKit.callS X19 hx (y := (⟨"com/example/honest_schema/honestschema/RewriteVerdictAndPinLaw", "pick", "(I)Lcom/example/honest_schema/honestschema/RewriteVerdict;"⟩ : MethodName)) hown (mvT hZ (hw _ (List.mem_of_getElem? (i := 1) rfl))) (mvT hZ (hw _ (List.mem_of_getElem? (i := 2) rfl))) (mvT hZ (hw _ (List.mem_of_getElem? (i := 3) rfl))) (mvT hZ (hw _ (List.mem_of_getElem? (i := 4) rfl))) (by decide) (backOf (W := 1) (rm1 l Z a0 hw [] (1 : Int32) no un re  h0 n0 Z0 S_NO_REWRITE S_UNKNOWN S_REWRITE) hZ (hw _ (List.mem_of_getElem? (i := 4) rfl)) (hw _ (List.mem_of_getElem? (i := 3) rfl)) (by decide) (by decide)) (g := (mkF m 34 #[.val (.int p0), .val (.int p1), .val (.int (1 : Int32)), .val (.int (0 : Int32)), .val (.ref un)] [(.int (1 : Int32)), (.ref un)])) rfl (by rw [hml]; rfl) (argsL := [(.int (1 : Int32))]) (rest := [(.ref un)]) (lenOf pd_205483 rfl) rfl (by show 2 * 0 + _ ≤ _; exact Nat.le_of_eq rfl) (hb hby at_34) (fun _ _ => ⟨rfl, e19, (by decide : 0 + 0 ≤ _), (by decide : 0 + 0 ≤ _)⟩)
      dsimp only [Pt.U, Pt.locs, Pt.cells, Pt.slots] at X20 l20 y20 z20 st20 hQ20
      subst l20 y20 z20
      obtain ⟨rfl, N20q, e20⟩ := hQ20
      rw [show own_pick (1 : Int32) no un re = un from by simp [own_pick]] at st20
      have N20 := Fr.app N19 N20q
      refine own_st st20 ?_
      show own_Go _ _ _ _ T20 (mkF m 37 #[.val (.int p0), .val (.int p1), .val (.int (1 : Int32)), .val (.int (0 : Int32)), .val (.ref un)] [(.ref un), (.ref un)])
      refine own_st (fun t k => Jvm.RoadKit.acmp (g := (mkF m 37 #[.val (.int p0), .val (.int p1), .val (.int (1 : Int32)), .val (.int (0 : Int32)), .val (.ref un)] [(.ref un), (.ref un)])) X20 hx rfl rfl rfl (pc0 := 37) (pc' := 40) (same := true) rfl (hb hby at_37) rfl (decide_eq_true rfl) (by decide) (by decide) k) ?_
      show own_Go _ _ _ _ T20 (mkF m 40 #[.val (.int p0), .val (.int p1), .val (.int (1 : Int32)), .val (.int (0 : Int32)), .val (.ref un)] [])
      refine own_st (fun t k => XS.iconst X20.here hx rfl (hb hby at_40) k) ?_
      show own_Go _ _ _ _ T20 (mkF m 41 #[.val (.int p0), .val (.int p1), .val (.int (1 : Int32)), .val (.int (0 : Int32)), .val (.ref un)] [(.int (1 : Int32))])
      refine own_st (fun t k => XS.goto X20.here hx rfl (pc0 := 41) (pc' := 45) rfl (hb hby at_41) (by decide) (by decide) k) ?_
      show own_Go _ _ _ _ T20 (mkF m 45 #[.val (.int p0), .val (.int p1), .val (.int (1 : Int32)), .val (.int (0 : Int32)), .val (.ref un)] [(.int (1 : Int32))])
      exact own_retN X20 hx hlk (t := .boolean) hrt (by simp) (hb hby at_45) ⟨rfl, N20⟩ (by decide) (by decide)
    ·
      rw [hrb]
      show own_Go _ _ _ _ s₁ (mkF m 14 #[.val (.int p0), .val (.int p1), .val (.int (1 : Int32)), .val (.int (1 : Int32)), .unset] [])
      refine own_st (fun t k => XS.iloadN X0.here hx rfl (hb hby at_14) rfl k) ?_
      show own_Go _ _ _ _ s₁ (mkF m 15 #[.val (.int p0), .val (.int p1), .val (.int (1 : Int32)), .val (.int (1 : Int32)), .unset] [(.int (1 : Int32))])
      obtain ⟨_, _, ⟨T21, L21, k21, n21⟩, -, X21, ⟨Lc21, hQ21, l21, y21, z21⟩, st21⟩ := Jvm.LawKit.callS X0 hx (y := (⟨"com/example/honest_schema/honestschema/RewriteVerdictAndPinLaw", "pick", "(I)Lcom/example/honest_schema/honestschema/RewriteVerdict;"⟩ : MethodName)) hown (mvT hZ (hw _ (List.mem_of_getElem? (i := 1) rfl))) (mvT hZ (hw _ (List.mem_of_getElem? (i := 2) rfl))) (mvT hZ (hw _ (List.mem_of_getElem? (i := 3) rfl))) (mvT hZ (hw _ (List.mem_of_getElem? (i := 4) rfl))) (by decide) (backOf (W := 0) (rm1 l Z a0 hw [] (1 : Int32) no un re  h0 n0 Z0 S_NO_REWRITE S_UNKNOWN S_REWRITE) hZ (hw _ (List.mem_of_getElem? (i := 4) rfl)) (hw _ (List.mem_of_getElem? (i := 3) rfl)) (by decide) (by decide)) (g := (mkF m 15 #[.val (.int p0), .val (.int p1), .val (.int (1 : Int32)), .val (.int (1 : Int32)), .unset] [(.int (1 : Int32))])) rfl (by rw [hml]; rfl) (argsL := [(.int (1 : Int32))]) (rest := []) (lenOf pd_205483 rfl) rfl (by show 2 * 0 + _ ≤ _; exact Nat.le_of_eq rfl) (hb hby at_15) (fun _ _ => ⟨rfl, e0, (by decide : 0 + 0 ≤ _), (by decide : 0 + 0 ≤ _)⟩)
      dsimp only [Pt.U, Pt.locs, Pt.cells, Pt.slots] at X21 l21 y21 z21 st21 hQ21
      subst l21 y21 z21
      obtain ⟨rfl, N21q, e21⟩ := hQ21
      rw [show own_pick (1 : Int32) no un re = un from by simp [own_pick]] at st21
      have N21 := Fr.app N0 N21q
      refine own_st st21 ?_
      show own_Go _ _ _ _ T21 (mkF m 18 #[.val (.int p0), .val (.int p1), .val (.int (1 : Int32)), .val (.int (1 : Int32)), .unset] [(.ref un)])
      refine own_st (fun t k => XS.iloadN X21.here hx rfl (hb hby at_18) rfl k) ?_
      show own_Go _ _ _ _ T21 (mkF m 19 #[.val (.int p0), .val (.int p1), .val (.int (1 : Int32)), .val (.int (1 : Int32)), .unset] [(.int (1 : Int32)), (.ref un)])
      obtain ⟨_, _, ⟨T22, L22, k22, n22⟩, -, X22, ⟨Lc22, hQ22, l22, y22, z22⟩, st22⟩ := Jvm.LawKit.callS X21 hx (y := (⟨"com/example/honest_schema/honestschema/RewriteVerdictAndPinLaw", "pick", "(I)Lcom/example/honest_schema/honestschema/RewriteVerdict;"⟩ : MethodName)) hown (mvT hZ (hw _ (List.mem_of_getElem? (i := 1) rfl))) (mvT hZ (hw _ (List.mem_of_getElem? (i := 2) rfl))) (mvT hZ (hw _ (List.mem_of_getElem? (i := 3) rfl))) (mvT hZ (hw _ (List.mem_of_getElem? (i := 4) rfl))) (by decide) (backOf (W := 1) (rm1 l Z a0 hw [] (1 : Int32) no un re  h0 n0 Z0 S_NO_REWRITE S_UNKNOWN S_REWRITE) hZ (hw _ (List.mem_of_getElem? (i := 4) rfl)) (hw _ (List.mem_of_getElem? (i := 3) rfl)) (by decide) (by decide)) (g := (mkF m 19 #[.val (.int p0), .val (.int p1), .val (.int (1 : Int32)), .val (.int (1 : Int32)), .unset] [(.int (1 : Int32)), (.ref un)])) rfl (by rw [hml]; rfl) (argsL := [(.int (1 : Int32))]) (rest := [(.ref un)]) (lenOf pd_205483 rfl) rfl (by show 2 * 0 + _ ≤ _; exact Nat.le_of_eq rfl) (hb hby at_19) (fun _ _ => ⟨rfl, e21, (by decide : 0 + 0 ≤ _), (by decide : 0 + 0 ≤ _)⟩)
      dsimp only [Pt.U, Pt.locs, Pt.cells, Pt.slots] at X22 l22 y22 z22 st22 hQ22
      subst l22 y22 z22
      obtain ⟨rfl, N22q, e22⟩ := hQ22
      rw [show own_pick (1 : Int32) no un re = un from by simp [own_pick]] at st22
      have N22 := Fr.app N21 N22q
      refine own_st st22 ?_
      show own_Go _ _ _ _ T22 (mkF m 22 #[.val (.int p0), .val (.int p1), .val (.int (1 : Int32)), .val (.int (1 : Int32)), .unset] [(.ref un), (.ref un)])
      obtain ⟨cq23, kq23, q23a, q23b, q23c⟩ := isOf hZ e22 E_un
      obtain ⟨_, _, ⟨T23, L23, k23, n23⟩, -, X23, ⟨Lc23, hQ23, l23, y23, z23⟩, st23⟩ := X22.virtualBack hx (y := (⟨"com/example/honest_schema/honestschema/RewriteVerdict", "and", "(Lcom/example/honest_schema/honestschema/RewriteVerdict;)Lcom/example/honest_schema/honestschema/RewriteVerdict;"⟩ : MethodName)) (z := (⟨"com/example/honest_schema/honestschema/RewriteVerdict", "and", "(Lcom/example/honest_schema/honestschema/RewriteVerdict;)Lcom/example/honest_schema/honestschema/RewriteVerdict;"⟩ : MethodName)) hown (mvT hZ (hw _ (List.mem_of_getElem? (i := 8) rfl))) (mvT hZ (hw _ (List.mem_of_getElem? (i := 9) rfl))) (notFace_of_selects (args := #[]) (mvT hZ (hw _ (List.mem_of_getElem? (i := 11) rfl)))) (mvT hZ (hw _ (List.mem_of_getElem? (i := 11) rfl))) (mvT hZ (hw _ (List.mem_of_getElem? (i := 10) rfl))) (by decide) (backOf (W := 0) (rm2 l Z a0 hw [] un un no un re  h0 n0 Z0 S_NO_REWRITE S_UNKNOWN S_REWRITE) hZ (hw _ (List.mem_of_getElem? (i := 12) rfl)) (hw _ (List.mem_of_getElem? (i := 6) rfl)) (by decide) (by decide)) q23a q23c (g := (mkF m 22 #[.val (.int p0), .val (.int p1), .val (.int (1 : Int32)), .val (.int (1 : Int32)), .unset] [(.ref un), (.ref un)])) rfl (by rw [hml]; rfl) (Steps.refl _) (argsL := [(.ref un)]) (rest := []) (lenOf pd_697779 rfl) rfl (by show 2 * 0 + _ ≤ _; exact Nat.le_of_eq rfl) (hb hby at_22) (fun _ _ => ⟨rfl, e22, (by decide : 0 + 0 ≤ _), (by decide : 0 + 0 ≤ _)⟩)
      dsimp only [Pt.U, Pt.locs, Pt.cells, Pt.slots] at X23 l23 y23 z23 st23 hQ23
      subst l23 y23 z23
      obtain ⟨rfl, N23q, e23⟩ := hQ23
      rw [show own_and un un no un re = un from by simp [own_and, n1, n2, n3, n1.symm, n2.symm, n3.symm]] at st23
      have N23 := Fr.app N22 N23q
      refine own_tr st23 ?_
      show own_Go _ _ _ _ T23 (mkF m 25 #[.val (.int p0), .val (.int p1), .val (.int (1 : Int32)), .val (.int (1 : Int32)), .unset] [(.ref un)])
      refine own_st (fun t k => XS.astore X23.here hx rfl (hb hby at_25) rfl rfl (l' := #[.val (.int p0), .val (.int p1), .val (.int (1 : Int32)), .val (.int (1 : Int32)), .val (.ref un)]) rfl k) ?_
      show own_Go _ _ _ _ T23 (mkF m 27 #[.val (.int p0), .val (.int p1), .val (.int (1 : Int32)), .val (.int (1 : Int32)), .val (.ref un)] [])
      refine own_st (fun t k => XS.aload X23.here hx rfl (hb hby at_27) rfl rfl k) ?_
      show own_Go _ _ _ _ T23 (mkF m 29 #[.val (.int p0), .val (.int p1), .val (.int (1 : Int32)), .val (.int (1 : Int32)), .val (.ref un)] [(.ref un)])
      refine own_st (fun t k => XS.iloadN X23.here hx rfl (hb hby at_29) rfl k) ?_
      show own_Go _ _ _ _ T23 (mkF m 30 #[.val (.int p0), .val (.int p1), .val (.int (1 : Int32)), .val (.int (1 : Int32)), .val (.ref un)] [(.int (1 : Int32)), (.ref un)])
      refine own_st (fun t k => XS.iloadN X23.here hx rfl (hb hby at_30) rfl k) ?_
      show own_Go _ _ _ _ T23 (mkF m 31 #[.val (.int p0), .val (.int p1), .val (.int (1 : Int32)), .val (.int (1 : Int32)), .val (.ref un)] [(.int (1 : Int32)), (.int (1 : Int32)), (.ref un)])
      obtain ⟨_, _, ⟨T24, L24, k24, n24⟩, -, X24, ⟨Lc24, hQ24, l24, y24, z24⟩, st24⟩ := Jvm.LawKit.callS X23 hx (y := (⟨"java/lang/Math", "max", "(II)I"⟩ : MethodName)) hown (mvT hZ (hw _ (List.mem_of_getElem? (i := 18) rfl))) (mvT hZ (hw _ (List.mem_of_getElem? (i := 19) rfl))) (mvT hZ (hw _ (List.mem_of_getElem? (i := 20) rfl))) (mvT hZ (hw _ (List.mem_of_getElem? (i := 21) rfl))) (by decide) (backOf (W := 1) (rm3 l Z a0 hw [] (1 : Int32) (1 : Int32)  h0 n0 Z0 ) hZ (hw _ (List.mem_of_getElem? (i := 21) rfl)) (hw _ (List.mem_of_getElem? (i := 20) rfl)) (by decide) (by decide)) (g := (mkF m 31 #[.val (.int p0), .val (.int p1), .val (.int (1 : Int32)), .val (.int (1 : Int32)), .val (.ref un)] [(.int (1 : Int32)), (.int (1 : Int32)), (.ref un)])) rfl (by rw [hml]; rfl) (argsL := [(.int (1 : Int32)), (.int (1 : Int32))]) (rest := [(.ref un)]) (lenOf pd__28II_29I rfl) rfl (by show 2 * 0 + _ ≤ _; exact Nat.le_of_eq rfl) (hb hby at_31) (fun _ _ => ⟨rfl, e23, (by decide : 0 + 0 ≤ _), (by decide : 0 + 0 ≤ _)⟩)
      dsimp only [Pt.U, Pt.locs, Pt.cells, Pt.slots] at X24 l24 y24 z24 st24 hQ24
      subst l24 y24 z24
      obtain ⟨rfl, N24q, e24⟩ := hQ24
      rw [show own_max (1 : Int32) (1 : Int32) = (1 : Int32) from by decide +kernel] at st24
      have N24 := Fr.app N23 N24q
      refine own_st st24 ?_
      show own_Go _ _ _ _ T24 (mkF m 34 #[.val (.int p0), .val (.int p1), .val (.int (1 : Int32)), .val (.int (1 : Int32)), .val (.ref un)] [(.int (1 : Int32)), (.ref un)])
      obtain ⟨_, _, ⟨T25, L25, k25, n25⟩, -, X25, ⟨Lc25, hQ25, l25, y25, z25⟩, st25⟩ := Jvm.LawKit.callS X24 hx (y := (⟨"com/example/honest_schema/honestschema/RewriteVerdictAndPinLaw", "pick", "(I)Lcom/example/honest_schema/honestschema/RewriteVerdict;"⟩ : MethodName)) hown (mvT hZ (hw _ (List.mem_of_getElem? (i := 1) rfl))) (mvT hZ (hw _ (List.mem_of_getElem? (i := 2) rfl))) (mvT hZ (hw _ (List.mem_of_getElem? (i := 3) rfl))) (mvT hZ (hw _ (List.mem_of_getElem? (i := 4) rfl))) (by decide) (backOf (W := 1) (rm1 l Z a0 hw [] (1 : Int32) no un re  h0 n0 Z0 S_NO_REWRITE S_UNKNOWN S_REWRITE) hZ (hw _ (List.mem_of_getElem? (i := 4) rfl)) (hw _ (List.mem_of_getElem? (i := 3) rfl)) (by decide) (by decide)) (g := (mkF m 34 #[.val (.int p0), .val (.int p1), .val (.int (1 : Int32)), .val (.int (1 : Int32)), .val (.ref un)] [(.int (1 : Int32)), (.ref un)])) rfl (by rw [hml]; rfl) (argsL := [(.int (1 : Int32))]) (rest := [(.ref un)]) (lenOf pd_205483 rfl) rfl (by show 2 * 0 + _ ≤ _; exact Nat.le_of_eq rfl) (hb hby at_34) (fun _ _ => ⟨rfl, e24, (by decide : 0 + 0 ≤ _), (by decide : 0 + 0 ≤ _)⟩)
      dsimp only [Pt.U, Pt.locs, Pt.cells, Pt.slots] at X25 l25 y25 z25 st25 hQ25
      subst l25 y25 z25
      obtain ⟨rfl, N25q, e25⟩ := hQ25
      rw [show own_pick (1 : Int32) no un re = un from by simp [own_pick]] at st25
      have N25 := Fr.app N24 N25q
      refine own_st st25 ?_
      show own_Go _ _ _ _ T25 (mkF m 37 #[.val (.int p0), .val (.int p1), .val (.int (1 : Int32)), .val (.int (1 : Int32)), .val (.ref un)] [(.ref un), (.ref un)])
      refine own_st (fun t k => Jvm.RoadKit.acmp (g := (mkF m 37 #[.val (.int p0), .val (.int p1), .val (.int (1 : Int32)), .val (.int (1 : Int32)), .val (.ref un)] [(.ref un), (.ref un)])) X25 hx rfl rfl rfl (pc0 := 37) (pc' := 40) (same := true) rfl (hb hby at_37) rfl (decide_eq_true rfl) (by decide) (by decide) k) ?_
      show own_Go _ _ _ _ T25 (mkF m 40 #[.val (.int p0), .val (.int p1), .val (.int (1 : Int32)), .val (.int (1 : Int32)), .val (.ref un)] [])
      refine own_st (fun t k => XS.iconst X25.here hx rfl (hb hby at_40) k) ?_
      show own_Go _ _ _ _ T25 (mkF m 41 #[.val (.int p0), .val (.int p1), .val (.int (1 : Int32)), .val (.int (1 : Int32)), .val (.ref un)] [(.int (1 : Int32))])
      refine own_st (fun t k => XS.goto X25.here hx rfl (pc0 := 41) (pc' := 45) rfl (hb hby at_41) (by decide) (by decide) k) ?_
      show own_Go _ _ _ _ T25 (mkF m 45 #[.val (.int p0), .val (.int p1), .val (.int (1 : Int32)), .val (.int (1 : Int32)), .val (.ref un)] [(.int (1 : Int32))])
      exact own_retN X25 hx hlk (t := .boolean) hrt (by simp) (hb hby at_45) ⟨rfl, N25⟩ (by decide) (by decide)
    ·
      rw [hrb]
      show own_Go _ _ _ _ s₁ (mkF m 14 #[.val (.int p0), .val (.int p1), .val (.int (1 : Int32)), .val (.int (2 : Int32)), .unset] [])
      refine own_st (fun t k => XS.iloadN X0.here hx rfl (hb hby at_14) rfl k) ?_
      show own_Go _ _ _ _ s₁ (mkF m 15 #[.val (.int p0), .val (.int p1), .val (.int (1 : Int32)), .val (.int (2 : Int32)), .unset] [(.int (1 : Int32))])
      obtain ⟨_, _, ⟨T26, L26, k26, n26⟩, -, X26, ⟨Lc26, hQ26, l26, y26, z26⟩, st26⟩ := Jvm.LawKit.callS X0 hx (y := (⟨"com/example/honest_schema/honestschema/RewriteVerdictAndPinLaw", "pick", "(I)Lcom/example/honest_schema/honestschema/RewriteVerdict;"⟩ : MethodName)) hown (mvT hZ (hw _ (List.mem_of_getElem? (i := 1) rfl))) (mvT hZ (hw _ (List.mem_of_getElem? (i := 2) rfl))) (mvT hZ (hw _ (List.mem_of_getElem? (i := 3) rfl))) (mvT hZ (hw _ (List.mem_of_getElem? (i := 4) rfl))) (by decide) (backOf (W := 0) (rm1 l Z a0 hw [] (1 : Int32) no un re  h0 n0 Z0 S_NO_REWRITE S_UNKNOWN S_REWRITE) hZ (hw _ (List.mem_of_getElem? (i := 4) rfl)) (hw _ (List.mem_of_getElem? (i := 3) rfl)) (by decide) (by decide)) (g := (mkF m 15 #[.val (.int p0), .val (.int p1), .val (.int (1 : Int32)), .val (.int (2 : Int32)), .unset] [(.int (1 : Int32))])) rfl (by rw [hml]; rfl) (argsL := [(.int (1 : Int32))]) (rest := []) (lenOf pd_205483 rfl) rfl (by show 2 * 0 + _ ≤ _; exact Nat.le_of_eq rfl) (hb hby at_15) (fun _ _ => ⟨rfl, e0, (by decide : 0 + 0 ≤ _), (by decide : 0 + 0 ≤ _)⟩)
      dsimp only [Pt.U, Pt.locs, Pt.cells, Pt.slots] at X26 l26 y26 z26 st26 hQ26
      subst l26 y26 z26
      obtain ⟨rfl, N26q, e26⟩ := hQ26
      rw [show own_pick (1 : Int32) no un re = un from by simp [own_pick]] at st26
      have N26 := Fr.app N0 N26q
      refine own_st st26 ?_
      show own_Go _ _ _ _ T26 (mkF m 18 #[.val (.int p0), .val (.int p1), .val (.int (1 : Int32)), .val (.int (2 : Int32)), .unset] [(.ref un)])
      refine own_st (fun t k => XS.iloadN X26.here hx rfl (hb hby at_18) rfl k) ?_
      show own_Go _ _ _ _ T26 (mkF m 19 #[.val (.int p0), .val (.int p1), .val (.int (1 : Int32)), .val (.int (2 : Int32)), .unset] [(.int (2 : Int32)), (.ref un)])
      obtain ⟨_, _, ⟨T27, L27, k27, n27⟩, -, X27, ⟨Lc27, hQ27, l27, y27, z27⟩, st27⟩ := Jvm.LawKit.callS X26 hx (y := (⟨"com/example/honest_schema/honestschema/RewriteVerdictAndPinLaw", "pick", "(I)Lcom/example/honest_schema/honestschema/RewriteVerdict;"⟩ : MethodName)) hown (mvT hZ (hw _ (List.mem_of_getElem? (i := 1) rfl))) (mvT hZ (hw _ (List.mem_of_getElem? (i := 2) rfl))) (mvT hZ (hw _ (List.mem_of_getElem? (i := 3) rfl))) (mvT hZ (hw _ (List.mem_of_getElem? (i := 4) rfl))) (by decide) (backOf (W := 1) (rm1 l Z a0 hw [] (2 : Int32) no un re  h0 n0 Z0 S_NO_REWRITE S_UNKNOWN S_REWRITE) hZ (hw _ (List.mem_of_getElem? (i := 4) rfl)) (hw _ (List.mem_of_getElem? (i := 3) rfl)) (by decide) (by decide)) (g := (mkF m 19 #[.val (.int p0), .val (.int p1), .val (.int (1 : Int32)), .val (.int (2 : Int32)), .unset] [(.int (2 : Int32)), (.ref un)])) rfl (by rw [hml]; rfl) (argsL := [(.int (2 : Int32))]) (rest := [(.ref un)]) (lenOf pd_205483 rfl) rfl (by show 2 * 0 + _ ≤ _; exact Nat.le_of_eq rfl) (hb hby at_19) (fun _ _ => ⟨rfl, e26, (by decide : 0 + 0 ≤ _), (by decide : 0 + 0 ≤ _)⟩)
      dsimp only [Pt.U, Pt.locs, Pt.cells, Pt.slots] at X27 l27 y27 z27 st27 hQ27
      subst l27 y27 z27
      obtain ⟨rfl, N27q, e27⟩ := hQ27
      rw [show own_pick (2 : Int32) no un re = re from by simp [own_pick]] at st27
      have N27 := Fr.app N26 N27q
      refine own_st st27 ?_
      show own_Go _ _ _ _ T27 (mkF m 22 #[.val (.int p0), .val (.int p1), .val (.int (1 : Int32)), .val (.int (2 : Int32)), .unset] [(.ref re), (.ref un)])
      obtain ⟨cq28, kq28, q28a, q28b, q28c⟩ := isOf hZ e27 E_un
      obtain ⟨_, _, ⟨T28, L28, k28, n28⟩, -, X28, ⟨Lc28, hQ28, l28, y28, z28⟩, st28⟩ := X27.virtualBack hx (y := (⟨"com/example/honest_schema/honestschema/RewriteVerdict", "and", "(Lcom/example/honest_schema/honestschema/RewriteVerdict;)Lcom/example/honest_schema/honestschema/RewriteVerdict;"⟩ : MethodName)) (z := (⟨"com/example/honest_schema/honestschema/RewriteVerdict", "and", "(Lcom/example/honest_schema/honestschema/RewriteVerdict;)Lcom/example/honest_schema/honestschema/RewriteVerdict;"⟩ : MethodName)) hown (mvT hZ (hw _ (List.mem_of_getElem? (i := 8) rfl))) (mvT hZ (hw _ (List.mem_of_getElem? (i := 9) rfl))) (notFace_of_selects (args := #[]) (mvT hZ (hw _ (List.mem_of_getElem? (i := 11) rfl)))) (mvT hZ (hw _ (List.mem_of_getElem? (i := 11) rfl))) (mvT hZ (hw _ (List.mem_of_getElem? (i := 10) rfl))) (by decide) (backOf (W := 0) (rm2 l Z a0 hw [] un re no un re  h0 n0 Z0 S_NO_REWRITE S_UNKNOWN S_REWRITE) hZ (hw _ (List.mem_of_getElem? (i := 12) rfl)) (hw _ (List.mem_of_getElem? (i := 6) rfl)) (by decide) (by decide)) q28a q28c (g := (mkF m 22 #[.val (.int p0), .val (.int p1), .val (.int (1 : Int32)), .val (.int (2 : Int32)), .unset] [(.ref re), (.ref un)])) rfl (by rw [hml]; rfl) (Steps.refl _) (argsL := [(.ref re)]) (rest := []) (lenOf pd_697779 rfl) rfl (by show 2 * 0 + _ ≤ _; exact Nat.le_of_eq rfl) (hb hby at_22) (fun _ _ => ⟨rfl, e27, (by decide : 0 + 0 ≤ _), (by decide : 0 + 0 ≤ _)⟩)
      dsimp only [Pt.U, Pt.locs, Pt.cells, Pt.slots] at X28 l28 y28 z28 st28 hQ28
      subst l28 y28 z28
      obtain ⟨rfl, N28q, e28⟩ := hQ28
      rw [show own_and un re no un re = re from by simp [own_and, n1, n2, n3, n1.symm, n2.symm, n3.symm]] at st28
      have N28 := Fr.app N27 N28q
      refine own_tr st28 ?_
      show own_Go _ _ _ _ T28 (mkF m 25 #[.val (.int p0), .val (.int p1), .val (.int (1 : Int32)), .val (.int (2 : Int32)), .unset] [(.ref re)])
      refine own_st (fun t k => XS.astore X28.here hx rfl (hb hby at_25) rfl rfl (l' := #[.val (.int p0), .val (.int p1), .val (.int (1 : Int32)), .val (.int (2 : Int32)), .val (.ref re)]) rfl k) ?_
      show own_Go _ _ _ _ T28 (mkF m 27 #[.val (.int p0), .val (.int p1), .val (.int (1 : Int32)), .val (.int (2 : Int32)), .val (.ref re)] [])
      refine own_st (fun t k => XS.aload X28.here hx rfl (hb hby at_27) rfl rfl k) ?_
      show own_Go _ _ _ _ T28 (mkF m 29 #[.val (.int p0), .val (.int p1), .val (.int (1 : Int32)), .val (.int (2 : Int32)), .val (.ref re)] [(.ref re)])
      refine own_st (fun t k => XS.iloadN X28.here hx rfl (hb hby at_29) rfl k) ?_
      show own_Go _ _ _ _ T28 (mkF m 30 #[.val (.int p0), .val (.int p1), .val (.int (1 : Int32)), .val (.int (2 : Int32)), .val (.ref re)] [(.int (1 : Int32)), (.ref re)])
      refine own_st (fun t k => XS.iloadN X28.here hx rfl (hb hby at_30) rfl k) ?_
      show own_Go _ _ _ _ T28 (mkF m 31 #[.val (.int p0), .val (.int p1), .val (.int (1 : Int32)), .val (.int (2 : Int32)), .val (.ref re)] [(.int (2 : Int32)), (.int (1 : Int32)), (.ref re)])
      obtain ⟨_, _, ⟨T29, L29, k29, n29⟩, -, X29, ⟨Lc29, hQ29, l29, y29, z29⟩, st29⟩ := Jvm.LawKit.callS X28 hx (y := (⟨"java/lang/Math", "max", "(II)I"⟩ : MethodName)) hown (mvT hZ (hw _ (List.mem_of_getElem? (i := 18) rfl))) (mvT hZ (hw _ (List.mem_of_getElem? (i := 19) rfl))) (mvT hZ (hw _ (List.mem_of_getElem? (i := 20) rfl))) (mvT hZ (hw _ (List.mem_of_getElem? (i := 21) rfl))) (by decide) (backOf (W := 1) (rm3 l Z a0 hw [] (1 : Int32) (2 : Int32)  h0 n0 Z0 ) hZ (hw _ (List.mem_of_getElem? (i := 21) rfl)) (hw _ (List.mem_of_getElem? (i := 20) rfl)) (by decide) (by decide)) (g := (mkF m 31 #[.val (.int p0), .val (.int p1), .val (.int (1 : Int32)), .val (.int (2 : Int32)), .val (.ref re)] [(.int (2 : Int32)), (.int (1 : Int32)), (.ref re)])) rfl (by rw [hml]; rfl) (argsL := [(.int (1 : Int32)), (.int (2 : Int32))]) (rest := [(.ref re)]) (lenOf pd__28II_29I rfl) rfl (by show 2 * 0 + _ ≤ _; exact Nat.le_of_eq rfl) (hb hby at_31) (fun _ _ => ⟨rfl, e28, (by decide : 0 + 0 ≤ _), (by decide : 0 + 0 ≤ _)⟩)
      dsimp only [Pt.U, Pt.locs, Pt.cells, Pt.slots] at X29 l29 y29 z29 st29 hQ29
      subst l29 y29 z29
      obtain ⟨rfl, N29q, e29⟩ := hQ29
      rw [show own_max (1 : Int32) (2 : Int32) = (2 : Int32) from by decide +kernel] at st29
      have N29 := Fr.app N28 N29q
      refine own_st st29 ?_
      show own_Go _ _ _ _ T29 (mkF m 34 #[.val (.int p0), .val (.int p1), .val (.int (1 : Int32)), .val (.int (2 : Int32)), .val (.ref re)] [(.int (2 : Int32)), (.ref re)])
      obtain ⟨_, _, ⟨T30, L30, k30, n30⟩, -, X30, ⟨Lc30, hQ30, l30, y30, z30⟩, st30⟩ := Jvm.LawKit.callS X29 hx (y := (⟨"com/example/honest_schema/honestschema/RewriteVerdictAndPinLaw", "pick", "(I)Lcom/example/honest_schema/honestschema/RewriteVerdict;"⟩ : MethodName)) hown (mvT hZ (hw _ (List.mem_of_getElem? (i := 1) rfl))) (mvT hZ (hw _ (List.mem_of_getElem? (i := 2) rfl))) (mvT hZ (hw _ (List.mem_of_getElem? (i := 3) rfl))) (mvT hZ (hw _ (List.mem_of_getElem? (i := 4) rfl))) (by decide) (backOf (W := 1) (rm1 l Z a0 hw [] (2 : Int32) no un re  h0 n0 Z0 S_NO_REWRITE S_UNKNOWN S_REWRITE) hZ (hw _ (List.mem_of_getElem? (i := 4) rfl)) (hw _ (List.mem_of_getElem? (i := 3) rfl)) (by decide) (by decide)) (g := (mkF m 34 #[.val (.int p0), .val (.int p1), .val (.int (1 : Int32)), .val (.int (2 : Int32)), .val (.ref re)] [(.int (2 : Int32)), (.ref re)])) rfl (by rw [hml]; rfl) (argsL := [(.int (2 : Int32))]) (rest := [(.ref re)]) (lenOf pd_205483 rfl) rfl (by show 2 * 0 + _ ≤ _; exact Nat.le_of_eq rfl) (hb hby at_34) (fun _ _ => ⟨rfl, e29, (by decide : 0 + 0 ≤ _), (by decide : 0 + 0 ≤ _)⟩)
      dsimp only [Pt.U, Pt.locs, Pt.cells, Pt.slots] at X30 l30 y30 z30 st30 hQ30
      subst l30 y30 z30
      obtain ⟨rfl, N30q, e30⟩ := hQ30
      rw [show own_pick (2 : Int32) no un re = re from by simp [own_pick]] at st30
      have N30 := Fr.app N29 N30q
      refine own_st st30 ?_
      show own_Go _ _ _ _ T30 (mkF m 37 #[.val (.int p0), .val (.int p1), .val (.int (1 : Int32)), .val (.int (2 : Int32)), .val (.ref re)] [(.ref re), (.ref re)])
      refine own_st (fun t k => Jvm.RoadKit.acmp (g := (mkF m 37 #[.val (.int p0), .val (.int p1), .val (.int (1 : Int32)), .val (.int (2 : Int32)), .val (.ref re)] [(.ref re), (.ref re)])) X30 hx rfl rfl rfl (pc0 := 37) (pc' := 40) (same := true) rfl (hb hby at_37) rfl (decide_eq_true rfl) (by decide) (by decide) k) ?_
      show own_Go _ _ _ _ T30 (mkF m 40 #[.val (.int p0), .val (.int p1), .val (.int (1 : Int32)), .val (.int (2 : Int32)), .val (.ref re)] [])
      refine own_st (fun t k => XS.iconst X30.here hx rfl (hb hby at_40) k) ?_
      show own_Go _ _ _ _ T30 (mkF m 41 #[.val (.int p0), .val (.int p1), .val (.int (1 : Int32)), .val (.int (2 : Int32)), .val (.ref re)] [(.int (1 : Int32))])
      refine own_st (fun t k => XS.goto X30.here hx rfl (pc0 := 41) (pc' := 45) rfl (hb hby at_41) (by decide) (by decide) k) ?_
      show own_Go _ _ _ _ T30 (mkF m 45 #[.val (.int p0), .val (.int p1), .val (.int (1 : Int32)), .val (.int (2 : Int32)), .val (.ref re)] [(.int (1 : Int32))])
      exact own_retN X30 hx hlk (t := .boolean) hrt (by simp) (hb hby at_45) ⟨rfl, N30⟩ (by decide) (by decide)
  ·
    rw [hra]
    show own_Go _ _ _ _ s₁ (mkF m 7 #[.val (.int p0), .val (.int p1), .val (.int (2 : Int32)), .unset, .unset] [])
    refine own_st (fun t k => XS.iloadN X0.here hx rfl (hb hby at_7) rfl k) ?_
    show own_Go _ _ _ _ s₁ (mkF m 8 #[.val (.int p0), .val (.int p1), .val (.int (2 : Int32)), .unset, .unset] [(.int p1)])
    refine own_st (X0.ldcInt hx hown (mvT hZ (hw _ (List.mem_of_getElem? (i := 0) rfl))) (g := (mkF m 8 #[.val (.int p0), .val (.int p1), .val (.int (2 : Int32)), .unset, .unset] [(.int p1)])) rfl (hb hby at_8)) ?_
    show own_Go _ _ _ _ s₁ (mkF m 10 #[.val (.int p0), .val (.int p1), .val (.int (2 : Int32)), .unset, .unset] [(.int (2147483647 : Int32)), (.int p1)])
    refine own_st (fun t k => XS.iand X0.here hx rfl (hb hby at_10) rfl k) ?_
    show own_Go _ _ _ _ s₁ (mkF m 11 #[.val (.int p0), .val (.int p1), .val (.int (2 : Int32)), .unset, .unset] [(.int (p1 &&& (2147483647 : Int32)))])
    refine own_st (fun t k => XS.iconst X0.here hx rfl (hb hby at_11) k) ?_
    show own_Go _ _ _ _ s₁ (mkF m 12 #[.val (.int p0), .val (.int p1), .val (.int (2 : Int32)), .unset, .unset] [(.int (3 : Int32)), (.int (p1 &&& (2147483647 : Int32)))])
    refine own_st (fun t k => iremM X0 hx rfl (hb hby at_12) rfl (by decide) k) ?_
    show own_Go _ _ _ _ s₁ (mkF m 13 #[.val (.int p0), .val (.int p1), .val (.int (2 : Int32)), .unset, .unset] [(.int ((p1 &&& (2147483647 : Int32)) % (3 : Int32)))])
    refine own_st (fun t k => XS.istoreN X0.here hx rfl (hb hby at_13) rfl (l' := #[.val (.int p0), .val (.int p1), .val (.int (2 : Int32)), .val (.int ((p1 &&& (2147483647 : Int32)) % (3 : Int32))), .unset]) rfl k) ?_
    show own_Go _ _ _ _ s₁ (mkF m 14 #[.val (.int p0), .val (.int p1), .val (.int (2 : Int32)), .val (.int ((p1 &&& (2147483647 : Int32)) % (3 : Int32))), .unset] [])
    rcases own_r3 p1 with hrb | hrb | hrb
    ·
      rw [hrb]
      show own_Go _ _ _ _ s₁ (mkF m 14 #[.val (.int p0), .val (.int p1), .val (.int (2 : Int32)), .val (.int (0 : Int32)), .unset] [])
      refine own_st (fun t k => XS.iloadN X0.here hx rfl (hb hby at_14) rfl k) ?_
      show own_Go _ _ _ _ s₁ (mkF m 15 #[.val (.int p0), .val (.int p1), .val (.int (2 : Int32)), .val (.int (0 : Int32)), .unset] [(.int (2 : Int32))])
      obtain ⟨_, _, ⟨T31, L31, k31, n31⟩, -, X31, ⟨Lc31, hQ31, l31, y31, z31⟩, st31⟩ := Jvm.LawKit.callS X0 hx (y := (⟨"com/example/honest_schema/honestschema/RewriteVerdictAndPinLaw", "pick", "(I)Lcom/example/honest_schema/honestschema/RewriteVerdict;"⟩ : MethodName)) hown (mvT hZ (hw _ (List.mem_of_getElem? (i := 1) rfl))) (mvT hZ (hw _ (List.mem_of_getElem? (i := 2) rfl))) (mvT hZ (hw _ (List.mem_of_getElem? (i := 3) rfl))) (mvT hZ (hw _ (List.mem_of_getElem? (i := 4) rfl))) (by decide) (backOf (W := 0) (rm1 l Z a0 hw [] (2 : Int32) no un re  h0 n0 Z0 S_NO_REWRITE S_UNKNOWN S_REWRITE) hZ (hw _ (List.mem_of_getElem? (i := 4) rfl)) (hw _ (List.mem_of_getElem? (i := 3) rfl)) (by decide) (by decide)) (g := (mkF m 15 #[.val (.int p0), .val (.int p1), .val (.int (2 : Int32)), .val (.int (0 : Int32)), .unset] [(.int (2 : Int32))])) rfl (by rw [hml]; rfl) (argsL := [(.int (2 : Int32))]) (rest := []) (lenOf pd_205483 rfl) rfl (by show 2 * 0 + _ ≤ _; exact Nat.le_of_eq rfl) (hb hby at_15) (fun _ _ => ⟨rfl, e0, (by decide : 0 + 0 ≤ _), (by decide : 0 + 0 ≤ _)⟩)
      dsimp only [Pt.U, Pt.locs, Pt.cells, Pt.slots] at X31 l31 y31 z31 st31 hQ31
      subst l31 y31 z31
      obtain ⟨rfl, N31q, e31⟩ := hQ31
      rw [show own_pick (2 : Int32) no un re = re from by simp [own_pick]] at st31
      have N31 := Fr.app N0 N31q
      refine own_st st31 ?_
      show own_Go _ _ _ _ T31 (mkF m 18 #[.val (.int p0), .val (.int p1), .val (.int (2 : Int32)), .val (.int (0 : Int32)), .unset] [(.ref re)])
      refine own_st (fun t k => XS.iloadN X31.here hx rfl (hb hby at_18) rfl k) ?_
      show own_Go _ _ _ _ T31 (mkF m 19 #[.val (.int p0), .val (.int p1), .val (.int (2 : Int32)), .val (.int (0 : Int32)), .unset] [(.int (0 : Int32)), (.ref re)])
      obtain ⟨_, _, ⟨T32, L32, k32, n32⟩, -, X32, ⟨Lc32, hQ32, l32, y32, z32⟩, st32⟩ := Jvm.LawKit.callS X31 hx (y := (⟨"com/example/honest_schema/honestschema/RewriteVerdictAndPinLaw", "pick", "(I)Lcom/example/honest_schema/honestschema/RewriteVerdict;"⟩ : MethodName)) hown (mvT hZ (hw _ (List.mem_of_getElem? (i := 1) rfl))) (mvT hZ (hw _ (List.mem_of_getElem? (i := 2) rfl))) (mvT hZ (hw _ (List.mem_of_getElem? (i := 3) rfl))) (mvT hZ (hw _ (List.mem_of_getElem? (i := 4) rfl))) (by decide) (backOf (W := 1) (rm1 l Z a0 hw [] (0 : Int32) no un re  h0 n0 Z0 S_NO_REWRITE S_UNKNOWN S_REWRITE) hZ (hw _ (List.mem_of_getElem? (i := 4) rfl)) (hw _ (List.mem_of_getElem? (i := 3) rfl)) (by decide) (by decide)) (g := (mkF m 19 #[.val (.int p0), .val (.int p1), .val (.int (2 : Int32)), .val (.int (0 : Int32)), .unset] [(.int (0 : Int32)), (.ref re)])) rfl (by rw [hml]; rfl) (argsL := [(.int (0 : Int32))]) (rest := [(.ref re)]) (lenOf pd_205483 rfl) rfl (by show 2 * 0 + _ ≤ _; exact Nat.le_of_eq rfl) (hb hby at_19) (fun _ _ => ⟨rfl, e31, (by decide : 0 + 0 ≤ _), (by decide : 0 + 0 ≤ _)⟩)
      dsimp only [Pt.U, Pt.locs, Pt.cells, Pt.slots] at X32 l32 y32 z32 st32 hQ32
      subst l32 y32 z32
      obtain ⟨rfl, N32q, e32⟩ := hQ32
      rw [show own_pick (0 : Int32) no un re = no from by simp [own_pick]] at st32
      have N32 := Fr.app N31 N32q
      refine own_st st32 ?_
      show own_Go _ _ _ _ T32 (mkF m 22 #[.val (.int p0), .val (.int p1), .val (.int (2 : Int32)), .val (.int (0 : Int32)), .unset] [(.ref no), (.ref re)])
      obtain ⟨cq33, kq33, q33a, q33b, q33c⟩ := isOf hZ e32 E_re
      obtain ⟨_, _, ⟨T33, L33, k33, n33⟩, -, X33, ⟨Lc33, hQ33, l33, y33, z33⟩, st33⟩ := X32.virtualBack hx (y := (⟨"com/example/honest_schema/honestschema/RewriteVerdict", "and", "(Lcom/example/honest_schema/honestschema/RewriteVerdict;)Lcom/example/honest_schema/honestschema/RewriteVerdict;"⟩ : MethodName)) (z := (⟨"com/example/honest_schema/honestschema/RewriteVerdict", "and", "(Lcom/example/honest_schema/honestschema/RewriteVerdict;)Lcom/example/honest_schema/honestschema/RewriteVerdict;"⟩ : MethodName)) hown (mvT hZ (hw _ (List.mem_of_getElem? (i := 8) rfl))) (mvT hZ (hw _ (List.mem_of_getElem? (i := 9) rfl))) (notFace_of_selects (args := #[]) (mvT hZ (hw _ (List.mem_of_getElem? (i := 11) rfl)))) (mvT hZ (hw _ (List.mem_of_getElem? (i := 11) rfl))) (mvT hZ (hw _ (List.mem_of_getElem? (i := 10) rfl))) (by decide) (backOf (W := 0) (rm2 l Z a0 hw [] re no no un re  h0 n0 Z0 S_NO_REWRITE S_UNKNOWN S_REWRITE) hZ (hw _ (List.mem_of_getElem? (i := 12) rfl)) (hw _ (List.mem_of_getElem? (i := 6) rfl)) (by decide) (by decide)) q33a q33c (g := (mkF m 22 #[.val (.int p0), .val (.int p1), .val (.int (2 : Int32)), .val (.int (0 : Int32)), .unset] [(.ref no), (.ref re)])) rfl (by rw [hml]; rfl) (Steps.refl _) (argsL := [(.ref no)]) (rest := []) (lenOf pd_697779 rfl) rfl (by show 2 * 0 + _ ≤ _; exact Nat.le_of_eq rfl) (hb hby at_22) (fun _ _ => ⟨rfl, e32, (by decide : 0 + 0 ≤ _), (by decide : 0 + 0 ≤ _)⟩)
      dsimp only [Pt.U, Pt.locs, Pt.cells, Pt.slots] at X33 l33 y33 z33 st33 hQ33
      subst l33 y33 z33
      obtain ⟨rfl, N33q, e33⟩ := hQ33
      rw [show own_and re no no un re = re from by simp [own_and, n1, n2, n3, n1.symm, n2.symm, n3.symm]] at st33
      have N33 := Fr.app N32 N33q
      refine own_tr st33 ?_
      show own_Go _ _ _ _ T33 (mkF m 25 #[.val (.int p0), .val (.int p1), .val (.int (2 : Int32)), .val (.int (0 : Int32)), .unset] [(.ref re)])
      refine own_st (fun t k => XS.astore X33.here hx rfl (hb hby at_25) rfl rfl (l' := #[.val (.int p0), .val (.int p1), .val (.int (2 : Int32)), .val (.int (0 : Int32)), .val (.ref re)]) rfl k) ?_
      show own_Go _ _ _ _ T33 (mkF m 27 #[.val (.int p0), .val (.int p1), .val (.int (2 : Int32)), .val (.int (0 : Int32)), .val (.ref re)] [])
      refine own_st (fun t k => XS.aload X33.here hx rfl (hb hby at_27) rfl rfl k) ?_
      show own_Go _ _ _ _ T33 (mkF m 29 #[.val (.int p0), .val (.int p1), .val (.int (2 : Int32)), .val (.int (0 : Int32)), .val (.ref re)] [(.ref re)])
      refine own_st (fun t k => XS.iloadN X33.here hx rfl (hb hby at_29) rfl k) ?_
      show own_Go _ _ _ _ T33 (mkF m 30 #[.val (.int p0), .val (.int p1), .val (.int (2 : Int32)), .val (.int (0 : Int32)), .val (.ref re)] [(.int (2 : Int32)), (.ref re)])
      refine own_st (fun t k => XS.iloadN X33.here hx rfl (hb hby at_30) rfl k) ?_
      show own_Go _ _ _ _ T33 (mkF m 31 #[.val (.int p0), .val (.int p1), .val (.int (2 : Int32)), .val (.int (0 : Int32)), .val (.ref re)] [(.int (0 : Int32)), (.int (2 : Int32)), (.ref re)])
      obtain ⟨_, _, ⟨T34, L34, k34, n34⟩, -, X34, ⟨Lc34, hQ34, l34, y34, z34⟩, st34⟩ := Jvm.LawKit.callS X33 hx (y := (⟨"java/lang/Math", "max", "(II)I"⟩ : MethodName)) hown (mvT hZ (hw _ (List.mem_of_getElem? (i := 18) rfl))) (mvT hZ (hw _ (List.mem_of_getElem? (i := 19) rfl))) (mvT hZ (hw _ (List.mem_of_getElem? (i := 20) rfl))) (mvT hZ (hw _ (List.mem_of_getElem? (i := 21) rfl))) (by decide) (backOf (W := 1) (rm3 l Z a0 hw [] (2 : Int32) (0 : Int32)  h0 n0 Z0 ) hZ (hw _ (List.mem_of_getElem? (i := 21) rfl)) (hw _ (List.mem_of_getElem? (i := 20) rfl)) (by decide) (by decide)) (g := (mkF m 31 #[.val (.int p0), .val (.int p1), .val (.int (2 : Int32)), .val (.int (0 : Int32)), .val (.ref re)] [(.int (0 : Int32)), (.int (2 : Int32)), (.ref re)])) rfl (by rw [hml]; rfl) (argsL := [(.int (2 : Int32)), (.int (0 : Int32))]) (rest := [(.ref re)]) (lenOf pd__28II_29I rfl) rfl (by show 2 * 0 + _ ≤ _; exact Nat.le_of_eq rfl) (hb hby at_31) (fun _ _ => ⟨rfl, e33, (by decide : 0 + 0 ≤ _), (by decide : 0 + 0 ≤ _)⟩)
      dsimp only [Pt.U, Pt.locs, Pt.cells, Pt.slots] at X34 l34 y34 z34 st34 hQ34
      subst l34 y34 z34
      obtain ⟨rfl, N34q, e34⟩ := hQ34
      rw [show own_max (2 : Int32) (0 : Int32) = (2 : Int32) from by decide +kernel] at st34
      have N34 := Fr.app N33 N34q
      refine own_st st34 ?_
      show own_Go _ _ _ _ T34 (mkF m 34 #[.val (.int p0), .val (.int p1), .val (.int (2 : Int32)), .val (.int (0 : Int32)), .val (.ref re)] [(.int (2 : Int32)), (.ref re)])
      obtain ⟨_, _, ⟨T35, L35, k35, n35⟩, -, X35, ⟨Lc35, hQ35, l35, y35, z35⟩, st35⟩ := Jvm.LawKit.callS X34 hx (y := (⟨"com/example/honest_schema/honestschema/RewriteVerdictAndPinLaw", "pick", "(I)Lcom/example/honest_schema/honestschema/RewriteVerdict;"⟩ : MethodName)) hown (mvT hZ (hw _ (List.mem_of_getElem? (i := 1) rfl))) (mvT hZ (hw _ (List.mem_of_getElem? (i := 2) rfl))) (mvT hZ (hw _ (List.mem_of_getElem? (i := 3) rfl))) (mvT hZ (hw _ (List.mem_of_getElem? (i := 4) rfl))) (by decide) (backOf (W := 1) (rm1 l Z a0 hw [] (2 : Int32) no un re  h0 n0 Z0 S_NO_REWRITE S_UNKNOWN S_REWRITE) hZ (hw _ (List.mem_of_getElem? (i := 4) rfl)) (hw _ (List.mem_of_getElem? (i := 3) rfl)) (by decide) (by decide)) (g := (mkF m 34 #[.val (.int p0), .val (.int p1), .val (.int (2 : Int32)), .val (.int (0 : Int32)), .val (.ref re)] [(.int (2 : Int32)), (.ref re)])) rfl (by rw [hml]; rfl) (argsL := [(.int (2 : Int32))]) (rest := [(.ref re)]) (lenOf pd_205483 rfl) rfl (by show 2 * 0 + _ ≤ _; exact Nat.le_of_eq rfl) (hb hby at_34) (fun _ _ => ⟨rfl, e34, (by decide : 0 + 0 ≤ _), (by decide : 0 + 0 ≤ _)⟩)
      dsimp only [Pt.U, Pt.locs, Pt.cells, Pt.slots] at X35 l35 y35 z35 st35 hQ35
      subst l35 y35 z35
      obtain ⟨rfl, N35q, e35⟩ := hQ35
      rw [show own_pick (2 : Int32) no un re = re from by simp [own_pick]] at st35
      have N35 := Fr.app N34 N35q
      refine own_st st35 ?_
      show own_Go _ _ _ _ T35 (mkF m 37 #[.val (.int p0), .val (.int p1), .val (.int (2 : Int32)), .val (.int (0 : Int32)), .val (.ref re)] [(.ref re), (.ref re)])
      refine own_st (fun t k => Jvm.RoadKit.acmp (g := (mkF m 37 #[.val (.int p0), .val (.int p1), .val (.int (2 : Int32)), .val (.int (0 : Int32)), .val (.ref re)] [(.ref re), (.ref re)])) X35 hx rfl rfl rfl (pc0 := 37) (pc' := 40) (same := true) rfl (hb hby at_37) rfl (decide_eq_true rfl) (by decide) (by decide) k) ?_
      show own_Go _ _ _ _ T35 (mkF m 40 #[.val (.int p0), .val (.int p1), .val (.int (2 : Int32)), .val (.int (0 : Int32)), .val (.ref re)] [])
      refine own_st (fun t k => XS.iconst X35.here hx rfl (hb hby at_40) k) ?_
      show own_Go _ _ _ _ T35 (mkF m 41 #[.val (.int p0), .val (.int p1), .val (.int (2 : Int32)), .val (.int (0 : Int32)), .val (.ref re)] [(.int (1 : Int32))])
      refine own_st (fun t k => XS.goto X35.here hx rfl (pc0 := 41) (pc' := 45) rfl (hb hby at_41) (by decide) (by decide) k) ?_
      show own_Go _ _ _ _ T35 (mkF m 45 #[.val (.int p0), .val (.int p1), .val (.int (2 : Int32)), .val (.int (0 : Int32)), .val (.ref re)] [(.int (1 : Int32))])
      exact own_retN X35 hx hlk (t := .boolean) hrt (by simp) (hb hby at_45) ⟨rfl, N35⟩ (by decide) (by decide)
    ·
      rw [hrb]
      show own_Go _ _ _ _ s₁ (mkF m 14 #[.val (.int p0), .val (.int p1), .val (.int (2 : Int32)), .val (.int (1 : Int32)), .unset] [])
      refine own_st (fun t k => XS.iloadN X0.here hx rfl (hb hby at_14) rfl k) ?_
      show own_Go _ _ _ _ s₁ (mkF m 15 #[.val (.int p0), .val (.int p1), .val (.int (2 : Int32)), .val (.int (1 : Int32)), .unset] [(.int (2 : Int32))])
      obtain ⟨_, _, ⟨T36, L36, k36, n36⟩, -, X36, ⟨Lc36, hQ36, l36, y36, z36⟩, st36⟩ := Jvm.LawKit.callS X0 hx (y := (⟨"com/example/honest_schema/honestschema/RewriteVerdictAndPinLaw", "pick", "(I)Lcom/example/honest_schema/honestschema/RewriteVerdict;"⟩ : MethodName)) hown (mvT hZ (hw _ (List.mem_of_getElem? (i := 1) rfl))) (mvT hZ (hw _ (List.mem_of_getElem? (i := 2) rfl))) (mvT hZ (hw _ (List.mem_of_getElem? (i := 3) rfl))) (mvT hZ (hw _ (List.mem_of_getElem? (i := 4) rfl))) (by decide) (backOf (W := 0) (rm1 l Z a0 hw [] (2 : Int32) no un re  h0 n0 Z0 S_NO_REWRITE S_UNKNOWN S_REWRITE) hZ (hw _ (List.mem_of_getElem? (i := 4) rfl)) (hw _ (List.mem_of_getElem? (i := 3) rfl)) (by decide) (by decide)) (g := (mkF m 15 #[.val (.int p0), .val (.int p1), .val (.int (2 : Int32)), .val (.int (1 : Int32)), .unset] [(.int (2 : Int32))])) rfl (by rw [hml]; rfl) (argsL := [(.int (2 : Int32))]) (rest := []) (lenOf pd_205483 rfl) rfl (by show 2 * 0 + _ ≤ _; exact Nat.le_of_eq rfl) (hb hby at_15) (fun _ _ => ⟨rfl, e0, (by decide : 0 + 0 ≤ _), (by decide : 0 + 0 ≤ _)⟩)
      dsimp only [Pt.U, Pt.locs, Pt.cells, Pt.slots] at X36 l36 y36 z36 st36 hQ36
      subst l36 y36 z36
      obtain ⟨rfl, N36q, e36⟩ := hQ36
      rw [show own_pick (2 : Int32) no un re = re from by simp [own_pick]] at st36
      have N36 := Fr.app N0 N36q
      refine own_st st36 ?_
      show own_Go _ _ _ _ T36 (mkF m 18 #[.val (.int p0), .val (.int p1), .val (.int (2 : Int32)), .val (.int (1 : Int32)), .unset] [(.ref re)])
      refine own_st (fun t k => XS.iloadN X36.here hx rfl (hb hby at_18) rfl k) ?_
      show own_Go _ _ _ _ T36 (mkF m 19 #[.val (.int p0), .val (.int p1), .val (.int (2 : Int32)), .val (.int (1 : Int32)), .unset] [(.int (1 : Int32)), (.ref re)])
      obtain ⟨_, _, ⟨T37, L37, k37, n37⟩, -, X37, ⟨Lc37, hQ37, l37, y37, z37⟩, st37⟩ := Jvm.LawKit.callS X36 hx (y := (⟨"com/example/honest_schema/honestschema/RewriteVerdictAndPinLaw", "pick", "(I)Lcom/example/honest_schema/honestschema/RewriteVerdict;"⟩ : MethodName)) hown (mvT hZ (hw _ (List.mem_of_getElem? (i := 1) rfl))) (mvT hZ (hw _ (List.mem_of_getElem? (i := 2) rfl))) (mvT hZ (hw _ (List.mem_of_getElem? (i := 3) rfl))) (mvT hZ (hw _ (List.mem_of_getElem? (i := 4) rfl))) (by decide) (backOf (W := 1) (rm1 l Z a0 hw [] (1 : Int32) no un re  h0 n0 Z0 S_NO_REWRITE S_UNKNOWN S_REWRITE) hZ (hw _ (List.mem_of_getElem? (i := 4) rfl)) (hw _ (List.mem_of_getElem? (i := 3) rfl)) (by decide) (by decide)) (g := (mkF m 19 #[.val (.int p0), .val (.int p1), .val (.int (2 : Int32)), .val (.int (1 : Int32)), .unset] [(.int (1 : Int32)), (.ref re)])) rfl (by rw [hml]; rfl) (argsL := [(.int (1 : Int32))]) (rest := [(.ref re)]) (lenOf pd_205483 rfl) rfl (by show 2 * 0 + _ ≤ _; exact Nat.le_of_eq rfl) (hb hby at_19) (fun _ _ => ⟨rfl, e36, (by decide : 0 + 0 ≤ _), (by decide : 0 + 0 ≤ _)⟩)
      dsimp only [Pt.U, Pt.locs, Pt.cells, Pt.slots] at X37 l37 y37 z37 st37 hQ37
      subst l37 y37 z37
      obtain ⟨rfl, N37q, e37⟩ := hQ37
      rw [show own_pick (1 : Int32) no un re = un from by simp [own_pick]] at st37
      have N37 := Fr.app N36 N37q
      refine own_st st37 ?_
      show own_Go _ _ _ _ T37 (mkF m 22 #[.val (.int p0), .val (.int p1), .val (.int (2 : Int32)), .val (.int (1 : Int32)), .unset] [(.ref un), (.ref re)])
      obtain ⟨cq38, kq38, q38a, q38b, q38c⟩ := isOf hZ e37 E_re
      obtain ⟨_, _, ⟨T38, L38, k38, n38⟩, -, X38, ⟨Lc38, hQ38, l38, y38, z38⟩, st38⟩ := X37.virtualBack hx (y := (⟨"com/example/honest_schema/honestschema/RewriteVerdict", "and", "(Lcom/example/honest_schema/honestschema/RewriteVerdict;)Lcom/example/honest_schema/honestschema/RewriteVerdict;"⟩ : MethodName)) (z := (⟨"com/example/honest_schema/honestschema/RewriteVerdict", "and", "(Lcom/example/honest_schema/honestschema/RewriteVerdict;)Lcom/example/honest_schema/honestschema/RewriteVerdict;"⟩ : MethodName)) hown (mvT hZ (hw _ (List.mem_of_getElem? (i := 8) rfl))) (mvT hZ (hw _ (List.mem_of_getElem? (i := 9) rfl))) (notFace_of_selects (args := #[]) (mvT hZ (hw _ (List.mem_of_getElem? (i := 11) rfl)))) (mvT hZ (hw _ (List.mem_of_getElem? (i := 11) rfl))) (mvT hZ (hw _ (List.mem_of_getElem? (i := 10) rfl))) (by decide) (backOf (W := 0) (rm2 l Z a0 hw [] re un no un re  h0 n0 Z0 S_NO_REWRITE S_UNKNOWN S_REWRITE) hZ (hw _ (List.mem_of_getElem? (i := 12) rfl)) (hw _ (List.mem_of_getElem? (i := 6) rfl)) (by decide) (by decide)) q38a q38c (g := (mkF m 22 #[.val (.int p0), .val (.int p1), .val (.int (2 : Int32)), .val (.int (1 : Int32)), .unset] [(.ref un), (.ref re)])) rfl (by rw [hml]; rfl) (Steps.refl _) (argsL := [(.ref un)]) (rest := []) (lenOf pd_697779 rfl) rfl (by show 2 * 0 + _ ≤ _; exact Nat.le_of_eq rfl) (hb hby at_22) (fun _ _ => ⟨rfl, e37, (by decide : 0 + 0 ≤ _), (by decide : 0 + 0 ≤ _)⟩)
      dsimp only [Pt.U, Pt.locs, Pt.cells, Pt.slots] at X38 l38 y38 z38 st38 hQ38
      subst l38 y38 z38
      obtain ⟨rfl, N38q, e38⟩ := hQ38
      rw [show own_and re un no un re = re from by simp [own_and, n1, n2, n3, n1.symm, n2.symm, n3.symm]] at st38
      have N38 := Fr.app N37 N38q
      refine own_tr st38 ?_
      show own_Go _ _ _ _ T38 (mkF m 25 #[.val (.int p0), .val (.int p1), .val (.int (2 : Int32)), .val (.int (1 : Int32)), .unset] [(.ref re)])
      refine own_st (fun t k => XS.astore X38.here hx rfl (hb hby at_25) rfl rfl (l' := #[.val (.int p0), .val (.int p1), .val (.int (2 : Int32)), .val (.int (1 : Int32)), .val (.ref re)]) rfl k) ?_
      show own_Go _ _ _ _ T38 (mkF m 27 #[.val (.int p0), .val (.int p1), .val (.int (2 : Int32)), .val (.int (1 : Int32)), .val (.ref re)] [])
      refine own_st (fun t k => XS.aload X38.here hx rfl (hb hby at_27) rfl rfl k) ?_
      show own_Go _ _ _ _ T38 (mkF m 29 #[.val (.int p0), .val (.int p1), .val (.int (2 : Int32)), .val (.int (1 : Int32)), .val (.ref re)] [(.ref re)])
      refine own_st (fun t k => XS.iloadN X38.here hx rfl (hb hby at_29) rfl k) ?_
      show own_Go _ _ _ _ T38 (mkF m 30 #[.val (.int p0), .val (.int p1), .val (.int (2 : Int32)), .val (.int (1 : Int32)), .val (.ref re)] [(.int (2 : Int32)), (.ref re)])
      refine own_st (fun t k => XS.iloadN X38.here hx rfl (hb hby at_30) rfl k) ?_
      show own_Go _ _ _ _ T38 (mkF m 31 #[.val (.int p0), .val (.int p1), .val (.int (2 : Int32)), .val (.int (1 : Int32)), .val (.ref re)] [(.int (1 : Int32)), (.int (2 : Int32)), (.ref re)])
      obtain ⟨_, _, ⟨T39, L39, k39, n39⟩, -, X39, ⟨Lc39, hQ39, l39, y39, z39⟩, st39⟩ := Jvm.LawKit.callS X38 hx (y := (⟨"java/lang/Math", "max", "(II)I"⟩ : MethodName)) hown (mvT hZ (hw _ (List.mem_of_getElem? (i := 18) rfl))) (mvT hZ (hw _ (List.mem_of_getElem? (i := 19) rfl))) (mvT hZ (hw _ (List.mem_of_getElem? (i := 20) rfl))) (mvT hZ (hw _ (List.mem_of_getElem? (i := 21) rfl))) (by decide) (backOf (W := 1) (rm3 l Z a0 hw [] (2 : Int32) (1 : Int32)  h0 n0 Z0 ) hZ (hw _ (List.mem_of_getElem? (i := 21) rfl)) (hw _ (List.mem_of_getElem? (i := 20) rfl)) (by decide) (by decide)) (g := (mkF m 31 #[.val (.int p0), .val (.int p1), .val (.int (2 : Int32)), .val (.int (1 : Int32)), .val (.ref re)] [(.int (1 : Int32)), (.int (2 : Int32)), (.ref re)])) rfl (by rw [hml]; rfl) (argsL := [(.int (2 : Int32)), (.int (1 : Int32))]) (rest := [(.ref re)]) (lenOf pd__28II_29I rfl) rfl (by show 2 * 0 + _ ≤ _; exact Nat.le_of_eq rfl) (hb hby at_31) (fun _ _ => ⟨rfl, e38, (by decide : 0 + 0 ≤ _), (by decide : 0 + 0 ≤ _)⟩)
      dsimp only [Pt.U, Pt.locs, Pt.cells, Pt.slots] at X39 l39 y39 z39 st39 hQ39
      subst l39 y39 z39
      obtain ⟨rfl, N39q, e39⟩ := hQ39
      rw [show own_max (2 : Int32) (1 : Int32) = (2 : Int32) from by decide +kernel] at st39
      have N39 := Fr.app N38 N39q
      refine own_st st39 ?_
      show own_Go _ _ _ _ T39 (mkF m 34 #[.val (.int p0), .val (.int p1), .val (.int (2 : Int32)), .val (.int (1 : Int32)), .val (.ref re)] [(.int (2 : Int32)), (.ref re)])
      obtain ⟨_, _, ⟨T40, L40, k40, n40⟩, -, X40, ⟨Lc40, hQ40, l40, y40, z40⟩, st40⟩ := Jvm.LawKit.callS X39 hx (y := (⟨"com/example/honest_schema/honestschema/RewriteVerdictAndPinLaw", "pick", "(I)Lcom/example/honest_schema/honestschema/RewriteVerdict;"⟩ : MethodName)) hown (mvT hZ (hw _ (List.mem_of_getElem? (i := 1) rfl))) (mvT hZ (hw _ (List.mem_of_getElem? (i := 2) rfl))) (mvT hZ (hw _ (List.mem_of_getElem? (i := 3) rfl))) (mvT hZ (hw _ (List.mem_of_getElem? (i := 4) rfl))) (by decide) (backOf (W := 1) (rm1 l Z a0 hw [] (2 : Int32) no un re  h0 n0 Z0 S_NO_REWRITE S_UNKNOWN S_REWRITE) hZ (hw _ (List.mem_of_getElem? (i := 4) rfl)) (hw _ (List.mem_of_getElem? (i := 3) rfl)) (by decide) (by decide)) (g := (mkF m 34 #[.val (.int p0), .val (.int p1), .val (.int (2 : Int32)), .val (.int (1 : Int32)), .val (.ref re)] [(.int (2 : Int32)), (.ref re)])) rfl (by rw [hml]; rfl) (argsL := [(.int (2 : Int32))]) (rest := [(.ref re)]) (lenOf pd_205483 rfl) rfl (by show 2 * 0 + _ ≤ _; exact Nat.le_of_eq rfl) (hb hby at_34) (fun _ _ => ⟨rfl, e39, (by decide : 0 + 0 ≤ _), (by decide : 0 + 0 ≤ _)⟩)
      dsimp only [Pt.U, Pt.locs, Pt.cells, Pt.slots] at X40 l40 y40 z40 st40 hQ40
      subst l40 y40 z40
      obtain ⟨rfl, N40q, e40⟩ := hQ40
      rw [show own_pick (2 : Int32) no un re = re from by simp [own_pick]] at st40
      have N40 := Fr.app N39 N40q
      refine own_st st40 ?_
      show own_Go _ _ _ _ T40 (mkF m 37 #[.val (.int p0), .val (.int p1), .val (.int (2 : Int32)), .val (.int (1 : Int32)), .val (.ref re)] [(.ref re), (.ref re)])
      refine own_st (fun t k => Jvm.RoadKit.acmp (g := (mkF m 37 #[.val (.int p0), .val (.int p1), .val (.int (2 : Int32)), .val (.int (1 : Int32)), .val (.ref re)] [(.ref re), (.ref re)])) X40 hx rfl rfl rfl (pc0 := 37) (pc' := 40) (same := true) rfl (hb hby at_37) rfl (decide_eq_true rfl) (by decide) (by decide) k) ?_
      show own_Go _ _ _ _ T40 (mkF m 40 #[.val (.int p0), .val (.int p1), .val (.int (2 : Int32)), .val (.int (1 : Int32)), .val (.ref re)] [])
      refine own_st (fun t k => XS.iconst X40.here hx rfl (hb hby at_40) k) ?_
      show own_Go _ _ _ _ T40 (mkF m 41 #[.val (.int p0), .val (.int p1), .val (.int (2 : Int32)), .val (.int (1 : Int32)), .val (.ref re)] [(.int (1 : Int32))])
      refine own_st (fun t k => XS.goto X40.here hx rfl (pc0 := 41) (pc' := 45) rfl (hb hby at_41) (by decide) (by decide) k) ?_
      show own_Go _ _ _ _ T40 (mkF m 45 #[.val (.int p0), .val (.int p1), .val (.int (2 : Int32)), .val (.int (1 : Int32)), .val (.ref re)] [(.int (1 : Int32))])
      exact own_retN X40 hx hlk (t := .boolean) hrt (by simp) (hb hby at_45) ⟨rfl, N40⟩ (by decide) (by decide)
    ·
      rw [hrb]
      show own_Go _ _ _ _ s₁ (mkF m 14 #[.val (.int p0), .val (.int p1), .val (.int (2 : Int32)), .val (.int (2 : Int32)), .unset] [])
      refine own_st (fun t k => XS.iloadN X0.here hx rfl (hb hby at_14) rfl k) ?_
      show own_Go _ _ _ _ s₁ (mkF m 15 #[.val (.int p0), .val (.int p1), .val (.int (2 : Int32)), .val (.int (2 : Int32)), .unset] [(.int (2 : Int32))])
      obtain ⟨_, _, ⟨T41, L41, k41, n41⟩, -, X41, ⟨Lc41, hQ41, l41, y41, z41⟩, st41⟩ := Jvm.LawKit.callS X0 hx (y := (⟨"com/example/honest_schema/honestschema/RewriteVerdictAndPinLaw", "pick", "(I)Lcom/example/honest_schema/honestschema/RewriteVerdict;"⟩ : MethodName)) hown (mvT hZ (hw _ (List.mem_of_getElem? (i := 1) rfl))) (mvT hZ (hw _ (List.mem_of_getElem? (i := 2) rfl))) (mvT hZ (hw _ (List.mem_of_getElem? (i := 3) rfl))) (mvT hZ (hw _ (List.mem_of_getElem? (i := 4) rfl))) (by decide) (backOf (W := 0) (rm1 l Z a0 hw [] (2 : Int32) no un re  h0 n0 Z0 S_NO_REWRITE S_UNKNOWN S_REWRITE) hZ (hw _ (List.mem_of_getElem? (i := 4) rfl)) (hw _ (List.mem_of_getElem? (i := 3) rfl)) (by decide) (by decide)) (g := (mkF m 15 #[.val (.int p0), .val (.int p1), .val (.int (2 : Int32)), .val (.int (2 : Int32)), .unset] [(.int (2 : Int32))])) rfl (by rw [hml]; rfl) (argsL := [(.int (2 : Int32))]) (rest := []) (lenOf pd_205483 rfl) rfl (by show 2 * 0 + _ ≤ _; exact Nat.le_of_eq rfl) (hb hby at_15) (fun _ _ => ⟨rfl, e0, (by decide : 0 + 0 ≤ _), (by decide : 0 + 0 ≤ _)⟩)
      dsimp only [Pt.U, Pt.locs, Pt.cells, Pt.slots] at X41 l41 y41 z41 st41 hQ41
      subst l41 y41 z41
      obtain ⟨rfl, N41q, e41⟩ := hQ41
      rw [show own_pick (2 : Int32) no un re = re from by simp [own_pick]] at st41
      have N41 := Fr.app N0 N41q
      refine own_st st41 ?_
      show own_Go _ _ _ _ T41 (mkF m 18 #[.val (.int p0), .val (.int p1), .val (.int (2 : Int32)), .val (.int (2 : Int32)), .unset] [(.ref re)])
      refine own_st (fun t k => XS.iloadN X41.here hx rfl (hb hby at_18) rfl k) ?_
      show own_Go _ _ _ _ T41 (mkF m 19 #[.val (.int p0), .val (.int p1), .val (.int (2 : Int32)), .val (.int (2 : Int32)), .unset] [(.int (2 : Int32)), (.ref re)])
      obtain ⟨_, _, ⟨T42, L42, k42, n42⟩, -, X42, ⟨Lc42, hQ42, l42, y42, z42⟩, st42⟩ := Jvm.LawKit.callS X41 hx (y := (⟨"com/example/honest_schema/honestschema/RewriteVerdictAndPinLaw", "pick", "(I)Lcom/example/honest_schema/honestschema/RewriteVerdict;"⟩ : MethodName)) hown (mvT hZ (hw _ (List.mem_of_getElem? (i := 1) rfl))) (mvT hZ (hw _ (List.mem_of_getElem? (i := 2) rfl))) (mvT hZ (hw _ (List.mem_of_getElem? (i := 3) rfl))) (mvT hZ (hw _ (List.mem_of_getElem? (i := 4) rfl))) (by decide) (backOf (W := 1) (rm1 l Z a0 hw [] (2 : Int32) no un re  h0 n0 Z0 S_NO_REWRITE S_UNKNOWN S_REWRITE) hZ (hw _ (List.mem_of_getElem? (i := 4) rfl)) (hw _ (List.mem_of_getElem? (i := 3) rfl)) (by decide) (by decide)) (g := (mkF m 19 #[.val (.int p0), .val (.int p1), .val (.int (2 : Int32)), .val (.int (2 : Int32)), .unset] [(.int (2 : Int32)), (.ref re)])) rfl (by rw [hml]; rfl) (argsL := [(.int (2 : Int32))]) (rest := [(.ref re)]) (lenOf pd_205483 rfl) rfl (by show 2 * 0 + _ ≤ _; exact Nat.le_of_eq rfl) (hb hby at_19) (fun _ _ => ⟨rfl, e41, (by decide : 0 + 0 ≤ _), (by decide : 0 + 0 ≤ _)⟩)
      dsimp only [Pt.U, Pt.locs, Pt.cells, Pt.slots] at X42 l42 y42 z42 st42 hQ42
      subst l42 y42 z42
      obtain ⟨rfl, N42q, e42⟩ := hQ42
      rw [show own_pick (2 : Int32) no un re = re from by simp [own_pick]] at st42
      have N42 := Fr.app N41 N42q
      refine own_st st42 ?_
      show own_Go _ _ _ _ T42 (mkF m 22 #[.val (.int p0), .val (.int p1), .val (.int (2 : Int32)), .val (.int (2 : Int32)), .unset] [(.ref re), (.ref re)])
      obtain ⟨cq43, kq43, q43a, q43b, q43c⟩ := isOf hZ e42 E_re
      obtain ⟨_, _, ⟨T43, L43, k43, n43⟩, -, X43, ⟨Lc43, hQ43, l43, y43, z43⟩, st43⟩ := X42.virtualBack hx (y := (⟨"com/example/honest_schema/honestschema/RewriteVerdict", "and", "(Lcom/example/honest_schema/honestschema/RewriteVerdict;)Lcom/example/honest_schema/honestschema/RewriteVerdict;"⟩ : MethodName)) (z := (⟨"com/example/honest_schema/honestschema/RewriteVerdict", "and", "(Lcom/example/honest_schema/honestschema/RewriteVerdict;)Lcom/example/honest_schema/honestschema/RewriteVerdict;"⟩ : MethodName)) hown (mvT hZ (hw _ (List.mem_of_getElem? (i := 8) rfl))) (mvT hZ (hw _ (List.mem_of_getElem? (i := 9) rfl))) (notFace_of_selects (args := #[]) (mvT hZ (hw _ (List.mem_of_getElem? (i := 11) rfl)))) (mvT hZ (hw _ (List.mem_of_getElem? (i := 11) rfl))) (mvT hZ (hw _ (List.mem_of_getElem? (i := 10) rfl))) (by decide) (backOf (W := 0) (rm2 l Z a0 hw [] re re no un re  h0 n0 Z0 S_NO_REWRITE S_UNKNOWN S_REWRITE) hZ (hw _ (List.mem_of_getElem? (i := 12) rfl)) (hw _ (List.mem_of_getElem? (i := 6) rfl)) (by decide) (by decide)) q43a q43c (g := (mkF m 22 #[.val (.int p0), .val (.int p1), .val (.int (2 : Int32)), .val (.int (2 : Int32)), .unset] [(.ref re), (.ref re)])) rfl (by rw [hml]; rfl) (Steps.refl _) (argsL := [(.ref re)]) (rest := []) (lenOf pd_697779 rfl) rfl (by show 2 * 0 + _ ≤ _; exact Nat.le_of_eq rfl) (hb hby at_22) (fun _ _ => ⟨rfl, e42, (by decide : 0 + 0 ≤ _), (by decide : 0 + 0 ≤ _)⟩)
      dsimp only [Pt.U, Pt.locs, Pt.cells, Pt.slots] at X43 l43 y43 z43 st43 hQ43
      subst l43 y43 z43
      obtain ⟨rfl, N43q, e43⟩ := hQ43
      rw [show own_and re re no un re = re from by simp [own_and, n1, n2, n3, n1.symm, n2.symm, n3.symm]] at st43
      have N43 := Fr.app N42 N43q
      refine own_tr st43 ?_
      show own_Go _ _ _ _ T43 (mkF m 25 #[.val (.int p0), .val (.int p1), .val (.int (2 : Int32)), .val (.int (2 : Int32)), .unset] [(.ref re)])
      refine own_st (fun t k => XS.astore X43.here hx rfl (hb hby at_25) rfl rfl (l' := #[.val (.int p0), .val (.int p1), .val (.int (2 : Int32)), .val (.int (2 : Int32)), .val (.ref re)]) rfl k) ?_
      show own_Go _ _ _ _ T43 (mkF m 27 #[.val (.int p0), .val (.int p1), .val (.int (2 : Int32)), .val (.int (2 : Int32)), .val (.ref re)] [])
      refine own_st (fun t k => XS.aload X43.here hx rfl (hb hby at_27) rfl rfl k) ?_
      show own_Go _ _ _ _ T43 (mkF m 29 #[.val (.int p0), .val (.int p1), .val (.int (2 : Int32)), .val (.int (2 : Int32)), .val (.ref re)] [(.ref re)])
      refine own_st (fun t k => XS.iloadN X43.here hx rfl (hb hby at_29) rfl k) ?_
      show own_Go _ _ _ _ T43 (mkF m 30 #[.val (.int p0), .val (.int p1), .val (.int (2 : Int32)), .val (.int (2 : Int32)), .val (.ref re)] [(.int (2 : Int32)), (.ref re)])
      refine own_st (fun t k => XS.iloadN X43.here hx rfl (hb hby at_30) rfl k) ?_
      show own_Go _ _ _ _ T43 (mkF m 31 #[.val (.int p0), .val (.int p1), .val (.int (2 : Int32)), .val (.int (2 : Int32)), .val (.ref re)] [(.int (2 : Int32)), (.int (2 : Int32)), (.ref re)])
      obtain ⟨_, _, ⟨T44, L44, k44, n44⟩, -, X44, ⟨Lc44, hQ44, l44, y44, z44⟩, st44⟩ := Jvm.LawKit.callS X43 hx (y := (⟨"java/lang/Math", "max", "(II)I"⟩ : MethodName)) hown (mvT hZ (hw _ (List.mem_of_getElem? (i := 18) rfl))) (mvT hZ (hw _ (List.mem_of_getElem? (i := 19) rfl))) (mvT hZ (hw _ (List.mem_of_getElem? (i := 20) rfl))) (mvT hZ (hw _ (List.mem_of_getElem? (i := 21) rfl))) (by decide) (backOf (W := 1) (rm3 l Z a0 hw [] (2 : Int32) (2 : Int32)  h0 n0 Z0 ) hZ (hw _ (List.mem_of_getElem? (i := 21) rfl)) (hw _ (List.mem_of_getElem? (i := 20) rfl)) (by decide) (by decide)) (g := (mkF m 31 #[.val (.int p0), .val (.int p1), .val (.int (2 : Int32)), .val (.int (2 : Int32)), .val (.ref re)] [(.int (2 : Int32)), (.int (2 : Int32)), (.ref re)])) rfl (by rw [hml]; rfl) (argsL := [(.int (2 : Int32)), (.int (2 : Int32))]) (rest := [(.ref re)]) (lenOf pd__28II_29I rfl) rfl (by show 2 * 0 + _ ≤ _; exact Nat.le_of_eq rfl) (hb hby at_31) (fun _ _ => ⟨rfl, e43, (by decide : 0 + 0 ≤ _), (by decide : 0 + 0 ≤ _)⟩)
      dsimp only [Pt.U, Pt.locs, Pt.cells, Pt.slots] at X44 l44 y44 z44 st44 hQ44
      subst l44 y44 z44
      obtain ⟨rfl, N44q, e44⟩ := hQ44
      rw [show own_max (2 : Int32) (2 : Int32) = (2 : Int32) from by decide +kernel] at st44
      have N44 := Fr.app N43 N44q
      refine own_st st44 ?_
      show own_Go _ _ _ _ T44 (mkF m 34 #[.val (.int p0), .val (.int p1), .val (.int (2 : Int32)), .val (.int (2 : Int32)), .val (.ref re)] [(.int (2 : Int32)), (.ref re)])
      obtain ⟨_, _, ⟨T45, L45, k45, n45⟩, -, X45, ⟨Lc45, hQ45, l45, y45, z45⟩, st45⟩ := Jvm.LawKit.callS X44 hx (y := (⟨"com/example/honest_schema/honestschema/RewriteVerdictAndPinLaw", "pick", "(I)Lcom/example/honest_schema/honestschema/RewriteVerdict;"⟩ : MethodName)) hown (mvT hZ (hw _ (List.mem_of_getElem? (i := 1) rfl))) (mvT hZ (hw _ (List.mem_of_getElem? (i := 2) rfl))) (mvT hZ (hw _ (List.mem_of_getElem? (i := 3) rfl))) (mvT hZ (hw _ (List.mem_of_getElem? (i := 4) rfl))) (by decide) (backOf (W := 1) (rm1 l Z a0 hw [] (2 : Int32) no un re  h0 n0 Z0 S_NO_REWRITE S_UNKNOWN S_REWRITE) hZ (hw _ (List.mem_of_getElem? (i := 4) rfl)) (hw _ (List.mem_of_getElem? (i := 3) rfl)) (by decide) (by decide)) (g := (mkF m 34 #[.val (.int p0), .val (.int p1), .val (.int (2 : Int32)), .val (.int (2 : Int32)), .val (.ref re)] [(.int (2 : Int32)), (.ref re)])) rfl (by rw [hml]; rfl) (argsL := [(.int (2 : Int32))]) (rest := [(.ref re)]) (lenOf pd_205483 rfl) rfl (by show 2 * 0 + _ ≤ _; exact Nat.le_of_eq rfl) (hb hby at_34) (fun _ _ => ⟨rfl, e44, (by decide : 0 + 0 ≤ _), (by decide : 0 + 0 ≤ _)⟩)
      dsimp only [Pt.U, Pt.locs, Pt.cells, Pt.slots] at X45 l45 y45 z45 st45 hQ45
      subst l45 y45 z45
      obtain ⟨rfl, N45q, e45⟩ := hQ45
      rw [show own_pick (2 : Int32) no un re = re from by simp [own_pick]] at st45
      have N45 := Fr.app N44 N45q
      refine own_st st45 ?_
      show own_Go _ _ _ _ T45 (mkF m 37 #[.val (.int p0), .val (.int p1), .val (.int (2 : Int32)), .val (.int (2 : Int32)), .val (.ref re)] [(.ref re), (.ref re)])
      refine own_st (fun t k => Jvm.RoadKit.acmp (g := (mkF m 37 #[.val (.int p0), .val (.int p1), .val (.int (2 : Int32)), .val (.int (2 : Int32)), .val (.ref re)] [(.ref re), (.ref re)])) X45 hx rfl rfl rfl (pc0 := 37) (pc' := 40) (same := true) rfl (hb hby at_37) rfl (decide_eq_true rfl) (by decide) (by decide) k) ?_
      show own_Go _ _ _ _ T45 (mkF m 40 #[.val (.int p0), .val (.int p1), .val (.int (2 : Int32)), .val (.int (2 : Int32)), .val (.ref re)] [])
      refine own_st (fun t k => XS.iconst X45.here hx rfl (hb hby at_40) k) ?_
      show own_Go _ _ _ _ T45 (mkF m 41 #[.val (.int p0), .val (.int p1), .val (.int (2 : Int32)), .val (.int (2 : Int32)), .val (.ref re)] [(.int (1 : Int32))])
      refine own_st (fun t k => XS.goto X45.here hx rfl (pc0 := 41) (pc' := 45) rfl (hb hby at_41) (by decide) (by decide) k) ?_
      show own_Go _ _ _ _ T45 (mkF m 45 #[.val (.int p0), .val (.int p1), .val (.int (2 : Int32)), .val (.int (2 : Int32)), .val (.ref re)] [(.int (1 : Int32))])
      exact own_retN X45 hx hlk (t := .boolean) hrt (by simp) (hb hby at_45) ⟨rfl, N45⟩ (by decide) (by decide)
set_option maxRecDepth 65536 in
set_option maxHeartbeats 40000000 in
theorem comes_1 {Post : Tables → Env → Array Value → State → Outcome → State → Prop} (hpost : ∀ tb e args s v u, (limb_1_1.after args s (.returned v) u = true ∧ limb_1_2.after args s (.returned v) u = true ∧ True) → FrameEnd s (.returned v) u (Jvm.fieldLocs frame_1_writes args s ++ Jvm.arrayLocs frame_1_arrays args s ++ Jvm.staticLocs frame_1_statics s) 0 0 → Post tb e args s (.returned v) u) :
    ArmFor flags0 classFile x code maxLocals ret World_1 tables_1 room_1 Calls_1 rest_1 Pre_1 Post := by
  intro l hfl _ _ p e ha hc hk s m args below hf hA hF happ hP
  obtain ⟨hcalls, hrest, hpre⟩ := hP
  obtain ⟨-, -, -, hnamed, -, -, -, hat⟩ := (Spec.applies_iff hf).mp happ
  obtain ⟨hg, hn⟩ := and_e (Cond.before_iff.mp (show (Jvm.Cond.and given_1 narrow_1).before args s = true from hpre))
  obtain ⟨gc, gr0⟩ := and_e hg
  obtain ⟨ga0, gr1⟩ := and_e gr0
  obtain ⟨w0, w1, rfl⟩ : ∃ w0 w1 : Value, args = #[w0, w1] := by
    have hs : args.size = 2 := by simpa [Cond.value, given_1] using gc
    obtain ⟨L⟩ := args
    match L, hs with
    | [w0, w1], _ => exact ⟨w0, w1, rfl⟩
  have hw := fun d (hd : d ∈ tables_1) => atoms_spec (ws := Jvm.Cond.code x code maxLocals ret :: tables_1) hat d (List.mem_cons_of_mem _ hd)
  have hfit : Fit s := fun {y c} hc i hi => by
    obtain ⟨ha, rfl⟩ := Array.getElem?_eq_some_iff.mp hc
    have q := List.all_eq_true.mp ((Array.all_eq_true_iff_forall_mem.mp hF) _ (Array.getElem_mem ha)) i (List.mem_range.mpr hi)
    simpa [Array.getElem?_eq_getElem hi] using q
  obtain ⟨i0, ei0⟩ := is_v ga0
  obtain rfl : w0 = (.int i0) := Option.some.inj ei0
  obtain ⟨i1, ei1⟩ := is_v gr1
  obtain rfl : w1 = (.int i1) := Option.some.inj ei1
  obtain ⟨hn1, hn⟩ := and_e hn
  obtain ⟨hn2, hn⟩ := and_e hn
  obtain ⟨hn3, hn⟩ := and_e hn
  obtain ⟨hn4, hn⟩ := and_e hn
  obtain ⟨hn5, hn6⟩ := and_e hn
  obtain ⟨no, ev_no⟩ := exa_v hn1
  have S_no := Sta.start ev_no (Or.inr ⟨(hw _ (List.mem_of_getElem? (i := 6) rfl)), (hw _ (List.mem_of_getElem? (i := 7) rfl))⟩)
  have E_no := Exa.start ev_no hn1
  have F_no := Fld.start ((fld_at ev_no).symm.trans (own_eq_int hn3))
  obtain ⟨re, ev_re⟩ := exa_v hn2
  have S_re := Sta.start ev_re (Or.inr ⟨(hw _ (List.mem_of_getElem? (i := 6) rfl)), (hw _ (List.mem_of_getElem? (i := 15) rfl))⟩)
  have E_re := Exa.start ev_re hn2
  have F_re := Fld.start ((fld_at ev_re).symm.trans (own_eq_int hn4))
  obtain ⟨un, ev_un⟩ := exa_v hn5
  have S_un := Sta.start ev_un (Or.inr ⟨(hw _ (List.mem_of_getElem? (i := 6) rfl)), (hw _ (List.mem_of_getElem? (i := 17) rfl))⟩)
  have E_un := Exa.start ev_un hn5
  have F_un := Fld.start ((fld_at ev_un).symm.trans (own_eq_int hn6))
  have n1 : no ≠ un := Fld.ne F_no F_un (by decide)
  have n2 : no ≠ re := Fld.ne F_no F_re (by decide)
  have n3 : un ≠ re := Fld.ne F_un F_re (by decide)
  obtain ⟨n, o, h1, h2, h3, _, L, rfl, ⟨rfl, N⟩, hq⟩ := rm0 l s _ hw tables_1 i0 i1 no un re s.heap s.heap.size (Nat.le_refl _) S_no S_un S_re E_no E_un E_re n1 n2 n3 p e ha hc hk s m _ below hf ((Spec.applies_iff_loose hf).mp happ).1 ⟨rfl, State.Warmed39.refl s, rfl⟩ trivial
  refine ⟨n, _, h1, h2, h3, hpost _ _ _ _ _ _ ⟨Cond.after_iff.mpr rfl, Cond.after_iff.mpr (eq_i res_at (Term.int_eval (1)) rfl), trivial⟩ ⟨hq.1, hq.2.1, (hq.2.2.sift fun y hy => Or.inr (N y hy)).mono (by decide) (by decide)⟩⟩
theorem main_1_1 : Claimed_1_1 := comes_1 fun _ _ _ _ _ _ h hF => ⟨h.1, hF⟩
theorem main_1_2 : Claimed_1_2 := comes_1 fun _ _ _ _ _ _ h hF => ⟨h.2.1, hF⟩
end Jvm.Pilot.@@N@@
namespace Jvm.Pilot.@@N@@
open Jvm Jvm.ClassFile Sem Op Lib Jvm.Free Jvm.Stand Jvm.Pilot.@@N@@.Jvm.D
/-! MADE BY PROGRAM (witnessworld.py) out of the Statement's table words and the real class files: 13 classes; the members and pool entries that the words name. The judged class is class 1, her method 2. -/
namespace start1
open Jvm.ClassFile
def u (s : String) : CpInfo := .utf8 (stringToUtf16 s)
/-- a pool by its gaps: so many unusable entries, then the entry; so many at the end -/
def gap : Nat → List CpInfo → List CpInfo
  | 0, r => r
  | n + 1, r => .unusable :: gap n r
def poolList (es : List (Nat × CpInfo)) (last : Nat) : List CpInfo := es.foldr (fun e r => gap e.1 (e.2 :: r)) (gap last [])
def pool (es : List (Nat × CpInfo)) (last : Nat) : Array CpInfo := ⟨poolList es last⟩
def fileOf (pool : Array CpInfo) (this : Nat) (attrs : Array Attribute := #[]) (ms : Array MethodInfo := #[]) (fl : Nat := 33) (sup : Nat := 0) (ifs : Array Nat := #[]) (fds : Array FieldInfo := #[]) : ClassFile where
  minorVersion := 0
  majorVersion := 65
  constantPool := pool
  accessFlags := fl
  thisClass := this
  superClass := sup
  interfaces := ifs
  fields := fds
  methods := ms
  attributes := attrs
def plain (name : String) (sup : Option ClassId) : Class where
  name := name
  kind := .ordinary
  loader := none
  accessFlags := 33
  super := sup
  interfaces := #[]
  cf := none
  fields := #[]
  methods := #[]
  instanceTypes := #[]
  staticTypes := #[]
  resolved := #[]
  callSites := []
  init := .initialized
  statics := none
  mirror := none

def pool0 : Array CpInfo := pool [(5, u "<init>"), (0, u "()V"), (1, .class_ 10), (1, u "java/lang/Object")] 113

def k0m0 : Method := { name := "<init>", desc := "()V", sig := { parameters := [], returnType := none }, accessFlags := 1, code := none }
/-- java/lang/Object -/
def k0 : Class := { plain "java/lang/Object" none with
  accessFlags := 33
  interfaces := #[]
  cf := some (fileOf pool0 8 #[] #[{ accessFlags := 1, nameIndex := 5, descriptorIndex := 6, attributes := #[] }] 33 0 #[] #[])
  fields := #[]
  methods := #[k0m0]
  instanceTypes := #[]
  staticTypes := #[]
  resolved := Array.replicate 124 none
  statics := none }

def pool1 : Array CpInfo := pool [(2, .class_ 4), (1, u "java/lang/Object"), (0, u "<init>"), (0, u "()V"), (0, .fieldref 8 9), (0, .class_ 10), (0, .nameAndType 11 12), (0, u "com/example/honest_schema/honestschema/RewriteVerdict"), (0, u "NO_REWRITE"), (0, u "Lcom/example/honest_schema/honestschema/RewriteVerdict;"), (0, .fieldref 8 14), (0, .nameAndType 15 12), (0, u "UNKNOWN"), (0, .fieldref 8 17), (0, .nameAndType 18 12), (0, u "REWRITE"), (0, .integer 2147483647), (0, .methodref 21 22), (0, .class_ 23), (0, .nameAndType 24 25), (0, u "com/example/honest_schema/honestschema/RewriteVerdictAndPinLaw"), (0, u "pick"), (0, u "(I)Lcom/example/honest_schema/honestschema/RewriteVerdict;"), (0, .methodref 8 27), (0, .nameAndType 28 29), (0, u "and"), (0, u "(Lcom/example/honest_schema/honestschema/RewriteVerdict;)Lcom/example/honest_schema/honestschema/RewriteVerdict;"), (0, .methodref 31 32), (0, .class_ 33), (0, .nameAndType 34 35), (0, u "java/lang/Math"), (0, u "max"), (0, u "(II)I"), (3, u "law"), (0, u "(II)Z")] 2

def k1m0 : Method := { name := "<init>", desc := "()V", sig := { parameters := [], returnType := none }, accessFlags := 1, code := none }
def k1c1 : Code := { maxStack := 2, maxLocals := 1, code := method_2_code, exceptionTable := #[], attributes := #[] }
def k1m1 : Method := { name := "pick", desc := "(I)Lcom/example/honest_schema/honestschema/RewriteVerdict;", sig := { parameters := [.int], returnType := some (.object "com/example/honest_schema/honestschema/RewriteVerdict") }, accessFlags := 10, code := some k1c1 }
def k1c2 : Code := { maxStack := 3, maxLocals := 5, code := code, exceptionTable := #[], attributes := #[] }
def k1m2 : Method := { name := "law", desc := "(II)Z", sig := { parameters := [.int, .int], returnType := some .boolean }, accessFlags := 9, code := some k1c2 }
/-- com/example/honest_schema/honestschema/RewriteVerdictAndPinLaw -/
def k1 : Class := { plain "com/example/honest_schema/honestschema/RewriteVerdictAndPinLaw" (some 0) with
  accessFlags := 49
  interfaces := #[]
  cf := some (fileOf pool1 21 #[] #[{ accessFlags := 1, nameIndex := 5, descriptorIndex := 6, attributes := #[] }, { accessFlags := 10, nameIndex := 24, descriptorIndex := 25, attributes := #[] }, { accessFlags := 9, nameIndex := 39, descriptorIndex := 40, attributes := #[] }] 49 2 #[] #[])
  fields := #[]
  methods := #[k1m0, k1m1, k1m2]
  instanceTypes := #[]
  staticTypes := #[]
  resolved := Array.replicate 43 none
  statics := none }

def pool2 : Array CpInfo := pool [(1, .class_ 2), (0, u "java/lang/constant/Constable"), (0, .class_ 4), (0, u "java/lang/Object")] 6

/-- java/lang/constant/Constable -/
def k2 : Class := { plain "java/lang/constant/Constable" (some 0) with
  accessFlags := 1537
  interfaces := #[]
  cf := some (fileOf pool2 1 #[] #[] 1537 3 #[] #[])
  fields := #[]
  methods := #[]
  instanceTypes := #[]
  staticTypes := #[]
  resolved := Array.replicate 11 none
  statics := none }

def pool3 : Array CpInfo := pool [(1, .class_ 2), (0, u "java/lang/Comparable"), (0, .class_ 4), (0, u "java/lang/Object")] 7

/-- java/lang/Comparable -/
def k3 : Class := { plain "java/lang/Comparable" (some 0) with
  accessFlags := 1537
  interfaces := #[]
  cf := some (fileOf pool3 1 #[] #[] 1537 3 #[] #[])
  fields := #[]
  methods := #[]
  instanceTypes := #[]
  staticTypes := #[]
  resolved := Array.replicate 12 none
  statics := none }

def pool4 : Array CpInfo := pool [(1, .class_ 2), (0, u "java/io/Serializable"), (0, .class_ 4), (0, u "java/lang/Object")] 2

/-- java/io/Serializable -/
def k4 : Class := { plain "java/io/Serializable" (some 0) with
  accessFlags := 1537
  interfaces := #[]
  cf := some (fileOf pool4 1 #[] #[] 1537 3 #[] #[])
  fields := #[]
  methods := #[]
  instanceTypes := #[]
  staticTypes := #[]
  resolved := Array.replicate 7 none
  statics := none }

def pool5 : Array CpInfo := pool [(2, .class_ 4), (1, u "java/lang/Enum"), (0, u "name"), (0, u "Ljava/lang/String;"), (2, u "ordinal"), (0, u "I"), (1, .class_ 14), (1, u "java/lang/Object"), (4, u "hash"), (86, .class_ 108), (1, u "java/lang/Enum$EnumDesc"), (2, .class_ 112), (0, u "java/lang/constant/Constable"), (0, .class_ 114), (0, u "java/lang/Comparable"), (0, .class_ 116), (0, u "java/io/Serializable")] 87

/-- java/lang/Enum -/
def k5 : Class := { plain "java/lang/Enum" (some 0) with
  accessFlags := 1057
  interfaces := #[2, 3, 4]
  cf := some (fileOf pool5 2 #[.nestMembers #[106]] #[] 1057 12 #[111, 113, 115] #[{ accessFlags := 18, nameIndex := 5, descriptorIndex := 6, attributes := #[] }, { accessFlags := 18, nameIndex := 9, descriptorIndex := 10, attributes := #[] }, { accessFlags := 2, nameIndex := 19, descriptorIndex := 10, attributes := #[] }])
  fields := #[{ name := "name", type := (.object "java/lang/String"), accessFlags := 18, slot := 0, constantValue := 0 }, { name := "ordinal", type := .int, accessFlags := 18, slot := 1, constantValue := 0 }, { name := "hash", type := .int, accessFlags := 2, slot := 2, constantValue := 0 }]
  methods := #[]
  instanceTypes := #[(.object "java/lang/String"), .int, .int]
  staticTypes := #[]
  resolved := Array.replicate 204 none
  statics := none }

def pool6 : Array CpInfo := pool [(1, .class_ 2), (0, u "com/example/honest_schema/honestschema/RewriteVerdict"), (0, .fieldref 1 4), (0, .nameAndType 5 6), (0, u "NO_REWRITE"), (0, u "Lcom/example/honest_schema/honestschema/RewriteVerdict;"), (0, .fieldref 1 8), (0, .nameAndType 9 6), (0, u "REWRITE"), (0, .fieldref 1 11), (0, .nameAndType 12 6), (0, u "UNKNOWN"), (2, u "$VALUES"), (0, u "[Lcom/example/honest_schema/honestschema/RewriteVerdict;"), (6, .class_ 25), (1, u "java/lang/Enum"), (21, u "and"), (0, u "(Lcom/example/honest_schema/honestschema/RewriteVerdict;)Lcom/example/honest_schema/honestschema/RewriteVerdict;")] 5

def k6c0 : Code := { maxStack := 2, maxLocals := 3, code := prog_27_method_4_code, exceptionTable := #[], attributes := #[] }
def k6m0 : Method := { name := "and", desc := "(Lcom/example/honest_schema/honestschema/RewriteVerdict;)Lcom/example/honest_schema/honestschema/RewriteVerdict;", sig := { parameters := [(.object "com/example/honest_schema/honestschema/RewriteVerdict")], returnType := some (.object "com/example/honest_schema/honestschema/RewriteVerdict") }, accessFlags := 0, code := some k6c0 }
/-- com/example/honest_schema/honestschema/RewriteVerdict -/
def k6 : Class := { plain "com/example/honest_schema/honestschema/RewriteVerdict" (some 5) with
  accessFlags := 16432
  interfaces := #[]
  cf := some (fileOf pool6 1 #[] #[{ accessFlags := 0, nameIndex := 47, descriptorIndex := 48, attributes := #[] }] 16432 23 #[] #[{ accessFlags := 16409, nameIndex := 5, descriptorIndex := 6, attributes := #[] }, { accessFlags := 16409, nameIndex := 9, descriptorIndex := 6, attributes := #[] }, { accessFlags := 16409, nameIndex := 12, descriptorIndex := 6, attributes := #[] }, { accessFlags := 4122, nameIndex := 15, descriptorIndex := 16, attributes := #[] }])
  fields := #[{ name := "NO_REWRITE", type := (.object "com/example/honest_schema/honestschema/RewriteVerdict"), accessFlags := 16409, slot := 0, constantValue := 0 }, { name := "REWRITE", type := (.object "com/example/honest_schema/honestschema/RewriteVerdict"), accessFlags := 16409, slot := 1, constantValue := 0 }, { name := "UNKNOWN", type := (.object "com/example/honest_schema/honestschema/RewriteVerdict"), accessFlags := 16409, slot := 2, constantValue := 0 }, { name := "$VALUES", type := (.array (.object "com/example/honest_schema/honestschema/RewriteVerdict")), accessFlags := 4122, slot := 3, constantValue := 0 }]
  methods := #[k6m0]
  instanceTypes := #[(.object "java/lang/String"), .int, .int]
  staticTypes := #[(.object "com/example/honest_schema/honestschema/RewriteVerdict"), (.object "com/example/honest_schema/honestschema/RewriteVerdict"), (.object "com/example/honest_schema/honestschema/RewriteVerdict"), (.array (.object "com/example/honest_schema/honestschema/RewriteVerdict"))]
  resolved := Array.replicate 54 none
  statics := some 0 }

def pool7 : Array CpInfo := pool [(1, .class_ 2), (0, u "java/lang/Math"), (1, .class_ 6), (1, u "java/lang/Object"), (0, u "<init>"), (0, u "()V"), (89, .class_ 100), (1, u "java/lang/Math$RandomNumberGeneratorHolder"), (71, u "negativeZeroFloatBits"), (0, u "J"), (2, u "negativeZeroDoubleBits"), (21, u "max"), (46, u "$assertionsDisabled"), (0, u "Z"), (88, u "(II)I"), (2, u "twoToTheDoubleScaleDown"), (0, u "D"), (4, u "twoToTheDoubleScaleUp"), (9, u "E"), (3, u "PI"), (2, u "TAU"), (2, u "DEGREES_TO_RADIANS"), (0, u "RADIANS_TO_DEGREES")] 94

def k7m0 : Method := { name := "<init>", desc := "()V", sig := { parameters := [], returnType := none }, accessFlags := 2, code := none }
def k7c1 : Code := { maxStack := 2, maxLocals := 2, code := jdk_29_method_65_code, exceptionTable := #[], attributes := #[] }
def k7m1 : Method := { name := "max", desc := "(II)I", sig := { parameters := [.int, .int], returnType := some .int }, accessFlags := 9, code := some k7c1 }
/-- java/lang/Math -/
def k7 : Class := { plain "java/lang/Math" (some 0) with
  accessFlags := 49
  interfaces := #[]
  cf := some (fileOf pool7 1 #[.nestMembers #[98]] #[{ accessFlags := 2, nameIndex := 7, descriptorIndex := 8, attributes := #[] }, { accessFlags := 9, nameIndex := 198, descriptorIndex := 335, attributes := #[] }] 49 4 #[] #[{ accessFlags := 25, nameIndex := 354, descriptorIndex := 339, attributes := #[] }, { accessFlags := 25, nameIndex := 358, descriptorIndex := 339, attributes := #[] }, { accessFlags := 25, nameIndex := 361, descriptorIndex := 339, attributes := #[] }, { accessFlags := 26, nameIndex := 364, descriptorIndex := 339, attributes := #[] }, { accessFlags := 26, nameIndex := 365, descriptorIndex := 339, attributes := #[] }, { accessFlags := 26, nameIndex := 172, descriptorIndex := 173, attributes := #[] }, { accessFlags := 26, nameIndex := 176, descriptorIndex := 173, attributes := #[] }, { accessFlags := 8, nameIndex := 344, descriptorIndex := 339, attributes := #[] }, { accessFlags := 8, nameIndex := 338, descriptorIndex := 339, attributes := #[] }, { accessFlags := 4120, nameIndex := 245, descriptorIndex := 246, attributes := #[] }])
  fields := #[{ name := "E", type := .double, accessFlags := 25, slot := 0, constantValue := 0 }, { name := "PI", type := .double, accessFlags := 25, slot := 1, constantValue := 0 }, { name := "TAU", type := .double, accessFlags := 25, slot := 2, constantValue := 0 }, { name := "DEGREES_TO_RADIANS", type := .double, accessFlags := 26, slot := 3, constantValue := 0 }, { name := "RADIANS_TO_DEGREES", type := .double, accessFlags := 26, slot := 4, constantValue := 0 }, { name := "negativeZeroFloatBits", type := .long, accessFlags := 26, slot := 5, constantValue := 0 }, { name := "negativeZeroDoubleBits", type := .long, accessFlags := 26, slot := 6, constantValue := 0 }, { name := "twoToTheDoubleScaleUp", type := .double, accessFlags := 8, slot := 7, constantValue := 0 }, { name := "twoToTheDoubleScaleDown", type := .double, accessFlags := 8, slot := 8, constantValue := 0 }, { name := "$assertionsDisabled", type := .boolean, accessFlags := 4120, slot := 9, constantValue := 0 }]
  methods := #[k7m0, k7m1]
  instanceTypes := #[]
  staticTypes := #[.double, .double, .double, .double, .double, .long, .long, .double, .double, .boolean]
  resolved := Array.replicate 460 none
  statics := none }

def pool8 : Array CpInfo := pool [(1, u "java/lang/Cloneable"), (0, .class_ 1), (0, u "java/lang/Object"), (0, .class_ 3)] 3

/-- java/lang/Cloneable -/
def k8 : Class := { plain "java/lang/Cloneable" (some 0) with
  accessFlags := 1537
  interfaces := #[]
  cf := some (fileOf pool8 2 #[] #[] 1537 4 #[] #[])
  fields := #[]
  methods := #[]
  instanceTypes := #[]
  staticTypes := #[]
  resolved := Array.replicate 8 none
  statics := none }

/-- the primitive byte -/
def k9 : Class := { plain "byte" none with kind := .primitive 'B', accessFlags := 0x411 }
/-- [B -/
def k10 : Class := { plain "[B" (some 0) with kind := .array 9 .byte, interfaces := #[8, 4], accessFlags := 1041 }

/-- the primitive int -/
def k11 : Class := { plain "int" none with kind := .primitive 'I', accessFlags := 0x411 }
/-- [I -/
def k12 : Class := { plain "[I" (some 0) with kind := .array 11 .int, interfaces := #[8, 4], accessFlags := 1041 }

def heap : Heap := #[{ cls := 6, slots := #[.ref 1, .ref 2, .ref 3, .null], vm := .statics 6 },
  { cls := 6, slots := #[.null, .int 0, .int 0], vm := .none },
  { cls := 6, slots := #[.null, .int 1, .int 0], vm := .none },
  { cls := 6, slots := #[.null, .int 2, .int 0], vm := .none }]
def classes : Array Class := #[k0, k1, k2, k3, k4, k5, k6, k7, k8, k9, k10, k11, k12]
def interned : List (Array UInt16 × Addr) := []
def slotsUsed : Nat := 13
def theMethod : MethodId := ⟨1, 2⟩
def args0 : Array Value := #[.int 5, .int 1]
def aboutOver (below : List Frame) : State where
  vm := { classes := classes, interned := interned.toArray }
  heap := heap
  slotsUsed := slotsUsed
  threads := #[{ frames := .invoking theMethod args0 :: below }]
def below0 : List Frame := [.native { method := ⟨0, 0⟩, args := #[] }]
def about1 : State := aboutOver below0
def p0 : Program := .bare "" "" ""
def e0 : Env := launch0.env 0 0 0
theorem w_frames : about1.frames = Frame.invoking theMethod args0 :: below0 := rfl
set_option maxRecDepth 65536 in
theorem w_args : argsFit about1.vm theMethod args0 = true := by decide +kernel
set_option maxRecDepth 65536 in
theorem w_heap : heapFits about1 = true := by decide +kernel
set_option maxRecDepth 65536 in
theorem w_runnable : about1.curStatus? = some .runnable := by decide +kernel
set_option maxRecDepth 65536 in
theorem w_alone : about1.alone = true := by decide +kernel
set_option maxRecDepth 65536 in
theorem w_named : about1.methodNamed? x = some theMethod := by decide +kernel
set_option maxRecDepth 65536 in
theorem w_hears : about1.hears theMethod below0 = true := by decide +kernel
set_option maxRecDepth 65536 in
theorem w_ripe : about1.ripe theMethod args0 below0 = true := by decide +kernel
theorem w_running : about1.status = .running := rfl
set_option maxRecDepth 65536 in
theorem w_room : about1.hasRoom e0.platform room_1 = true :=
  launch0.hasRoom_least _ room_1 (by decide +kernel) (by decide +kernel) (by decide +kernel) (by decide +kernel) (by decide +kernel) (by decide +kernel)
theorem allAtoms_all (ts : List Jvm.Cond) (a : Array Jvm.Value) (st : Jvm.State) : (allAtoms ts).before a st = ts.all (fun c => c.before a st) := by
  induction ts with
  | nil => rfl
  | cons c t ih =>
    show (Jvm.Cond.and c (allAtoms t)).before a st = _
    rw [Jvm.Cond.before_and, ih, List.all_cons]
def words1 : List Jvm.Cond := Jvm.Cond.code x code maxLocals ret :: tables_1
/-- a 'code' word, met by the world's own term for the bytes: nothing is compared byte by byte -/
theorem code_word {y : MethodName} {bytes : ByteArray} {mx : Nat} {rt : Option FieldType} {a : Array Value} {s : State} {m : MethodId} {meth : Method} {c : Code} (h1 : s.methodNamed? y = some m) (h2 : s.vm.method? m = some meth) (h3 : meth.code = some c) (h4 : c.code = bytes)
    (h5 : (c.maxLocals == mx && c.exceptionTable.isEmpty && decide (c.maxStack ≤ mostOperands) && decide (meth.sig.returnType = rt) && !meth.locks && decide (parseMethodDescriptor y.desc = some meth.sig)) = true) : (Jvm.Cond.code y bytes mx rt).before a s = true := by
  simp only [Bool.and_eq_true, beq_iff_eq, Bool.not_eq_true', decide_eq_true_eq] at h5
  obtain ⟨⟨⟨⟨⟨g1, g2⟩, g3⟩, g4⟩, g5⟩, g6⟩ := h5
  simp [Cond.before, Cond.holds, Cond.value, h1, h2, h3, h4, g1, g2, g3, g4, g5, g6]
def isCode : Jvm.Cond → Bool
  | .code _ _ _ _ => true
  | _ => false
theorem all_split {L : List Jvm.Cond} {P : Jvm.Cond → Bool} (h1 : L.all (fun c => isCode c || P c) = true) (h2 : ∀ c ∈ L.filter isCode, P c = true) : L.all P = true := by
  refine List.all_eq_true.mpr fun c hc => ?_
  have h := List.all_eq_true.mp h1 c hc
  rcases Bool.eq_false_or_eq_true (isCode c) with hi | hi
  · exact h2 c (List.mem_filter.mpr ⟨hc, hi⟩)
  · simpa [hi] using h
set_option maxRecDepth 65536 in
theorem w_c0 : (Jvm.Cond.code x code maxLocals ret).before args0 about1 = true := code_word (m := ⟨1, 2⟩) (meth := k1m2) (c := k1c2) (by decide +kernel) rfl rfl rfl (by decide +kernel)
set_option maxRecDepth 65536 in
theorem w_c1 : (Jvm.Cond.code ({ cls := "com/example/honest_schema/honestschema/RewriteVerdictAndPinLaw", name := "pick", desc := "(I)Lcom/example/honest_schema/honestschema/RewriteVerdict;" } : Jvm.MethodName) method_2_code (1 : Nat) (Option.some (Jvm.ClassFile.FieldType.object "com/example/honest_schema/honestschema/RewriteVerdict"))).before args0 about1 = true := code_word (m := ⟨1, 1⟩) (meth := k1m1) (c := k1c1) (by decide +kernel) rfl rfl rfl (by decide +kernel)
set_option maxRecDepth 65536 in
theorem w_c2 : (Jvm.Cond.code ({ cls := "com/example/honest_schema/honestschema/RewriteVerdict", name := "and", desc := "(Lcom/example/honest_schema/honestschema/RewriteVerdict;)Lcom/example/honest_schema/honestschema/RewriteVerdict;" } : Jvm.MethodName) prog_27_method_4_code (3 : Nat) (Option.some (Jvm.ClassFile.FieldType.object "com/example/honest_schema/honestschema/RewriteVerdict"))).before args0 about1 = true := code_word (m := ⟨6, 0⟩) (meth := k6m0) (c := k6c0) (by decide +kernel) rfl rfl rfl (by decide +kernel)
set_option maxRecDepth 65536 in
theorem w_c3 : (Jvm.Cond.code ({ cls := "java/lang/Math", name := "max", desc := "(II)I" } : Jvm.MethodName) jdk_29_method_65_code (2 : Nat) (Option.some Jvm.ClassFile.FieldType.int)).before args0 about1 = true := code_word (m := ⟨7, 1⟩) (meth := k7m1) (c := k7c1) (by decide +kernel) rfl rfl rfl (by decide +kernel)
def codes1 : List Jvm.Cond := [Jvm.Cond.code x code maxLocals ret, Jvm.Cond.code ({ cls := "com/example/honest_schema/honestschema/RewriteVerdictAndPinLaw", name := "pick", desc := "(I)Lcom/example/honest_schema/honestschema/RewriteVerdict;" } : Jvm.MethodName) method_2_code (1 : Nat) (Option.some (Jvm.ClassFile.FieldType.object "com/example/honest_schema/honestschema/RewriteVerdict")), Jvm.Cond.code ({ cls := "com/example/honest_schema/honestschema/RewriteVerdict", name := "and", desc := "(Lcom/example/honest_schema/honestschema/RewriteVerdict;)Lcom/example/honest_schema/honestschema/RewriteVerdict;" } : Jvm.MethodName) prog_27_method_4_code (3 : Nat) (Option.some (Jvm.ClassFile.FieldType.object "com/example/honest_schema/honestschema/RewriteVerdict")), Jvm.Cond.code ({ cls := "java/lang/Math", name := "max", desc := "(II)I" } : Jvm.MethodName) jdk_29_method_65_code (2 : Nat) (Option.some Jvm.ClassFile.FieldType.int)]
set_option maxRecDepth 65536 in
theorem codes_eq : words1.filter isCode = codes1 := rfl
theorem w_codes : ∀ c ∈ words1.filter isCode, c.before args0 about1 = true := by
  rw [codes_eq]
  intro c hc
  simp only [codes1, List.mem_cons, List.not_mem_nil, or_false] at hc
  rcases hc with rfl | rfl | rfl | rfl
  · exact w_c0
  · exact w_c1
  · exact w_c2
  · exact w_c3
set_option maxRecDepth 65536 in
theorem w_t1 : (words1.take 24).all (fun c => isCode c || c.before args0 about1) = true := by decide +kernel
set_option maxRecDepth 65536 in
theorem w_t2 : (words1.drop 24).all (fun c => isCode c || c.before args0 about1) = true := by decide +kernel
theorem w_tables : (allAtoms (Jvm.Cond.code x code maxLocals ret :: tables_1)).before args0 about1 = true := by
  rw [allAtoms_all]
  show words1.all (fun c => c.before args0 about1) = true
  refine all_split ?_ w_codes
  rw [← List.take_append_drop 24 words1, List.all_append, w_t1, w_t2]
  rfl
set_option maxRecDepth 65536 in
theorem w_case : (Jvm.Cond.and given_1 narrow_1).before args0 about1 = true := by decide +kernel
theorem w_applies : (headSpec (Jvm.Cond.code x code maxLocals ret :: tables_1) room_1).applies x e0.platform about1 = true :=
  (Spec.applies_iff w_frames).mpr ⟨w_running, w_runnable, w_alone, w_named, w_hears, w_ripe, w_room, w_tables⟩
theorem atStart : AtStart classFile x code maxLocals ret World_1 tables_1 room_1 Calls_1 rest_1 Pre_1 launch0 p0 e0 about1 theMethod args0 below0 :=
  ⟨lists_1, trivial, launch0.admits_env _ _ _, launch0.least_env, fairChoices_fair.cas, fairChoices_fair.clock, w_frames, w_args, w_heap, w_applies, trivial, trivial, w_case⟩
end start1
theorem witness_1 : WitnessClaimed_1 := ⟨start1.p0, start1.e0, start1.about1, start1.theMethod, start1.args0, start1.below0, start1.atStart⟩
end Jvm.Pilot.@@N@@
